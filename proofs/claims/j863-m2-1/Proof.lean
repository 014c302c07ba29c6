import JvmDerived
import JvmDerived.Pilot.@@N@@Statement
import JvmDerived.Pilot.@@N@@Code
set_option linter.unusedVariables false
set_option linter.unusedSimpArgs false
@@BLOCK:NumsL.lean.txt@@
namespace Jvm.Pilot.@@N@@
open Jvm Jvm.ClassFile Sem Op Lib Jvm.Free Jvm.Stand Jvm.LawKit Jvm.RoadKit Bundle Jvm.Pilot.@@N@@.Jvm.D
section Own
variable {p : Program} {l : Launch} {e : Env} {R : Room} {s : State} {m : MethodId} {args : Array Value} {below : List Frame} {meth : Method} {c : Code} {T : State} {locs : List Loc} {cells slots cl sl : Nat} {Q : Option Value → Heap → List Loc → Prop}
/-- from the state S the invocation comes to its end, returns, and Q holds of what it returned and left -/
def Goes (p : Program) (e : Env) (below : List Frame) (s : State) (cl sl : Nat) (Q : Option Value → Heap → List Loc → Prop) (S : State) : Prop :=
  ∃ s₂ o, Steps p.tables e below S s₂ ∧ s₂.status = .running ∧ Ended s₂ below o ∧ ∃ v L, o = .returned v ∧ Q v s₂.heap L ∧ FrameEnd s o s₂ L cl sl
theorem Goes.step {S S' : State} (h : ∀ t, Steps p.tables e below S' t → Steps p.tables e below S t) (k : Goes p e below s cl sl Q S') : Goes p e below s cl sl Q S := by
  obtain ⟨s₂, o, a, b⟩ := k
  exact ⟨s₂, o, h _ a, b⟩
theorem Goes.back {S S' : State} (h : Steps p.tables e below S S') (k : Goes p e below s cl sl Q S') : Goes p e below s cl sl Q S := Goes.step (fun _ q => h.trans q) k
theorem Goes.ret (X : Stand p l e R s m args below meth c T locs cells slots) (hx : p.tables.exec = Jvm.exec) (hlk : meth.locks = false) {pc : Nat} {Ls : Array Slot} {w : Value} {t : FieldType} {i : Instr} {rest : List Value} (hret : meth.sig.returnType = some t) (hn : narrow t w = w)
    (hi : (i = .ireturn ∧ (t = .int ∨ t = .boolean ∨ t = .byte ∨ t = .char ∨ t = .short) ∧ ∃ z, w = .int z) ∨ (i = .lreturn ∧ t = .long ∧ ∃ z, w = .long z) ∨ (i = .dreturn ∧ t = .double ∧ ∃ z, w = .double z) ∨ (i = .freturn ∧ t = .float ∧ ∃ z, w = .float z) ∨ (i = .areturn ∧ t.isReference = true ∧ w.isRef = true))
    (hd : decode c.code pc = .ok (i, 1)) (hQ : Q (some w) T.heap locs) (hc : cells ≤ cl) (hs : slots ≤ sl) : Goes p e below s cl sl Q (T.setTop (mkF m pc Ls (w :: rest))) := by
  obtain ⟨fs, hr, hrun, hended, hW, hsame⟩ := X.leave (v := some w) (fun h => by rw [hret] at h; cases h) hlk
  exact ⟨_, _, retOut X hx hret hn hi hd hr, hrun, hended, _, _, rfl, hQ, ⟨_, rfl⟩, hW, hsame.mono hc hs⟩
theorem Goes.retV (X : Stand p l e R s m args below meth c T locs cells slots) (hx : p.tables.exec = Jvm.exec) (hlk : meth.locks = false) {pc : Nat} {Ls : Array Slot} (hret : meth.sig.returnType = none)
    (hd : decode c.code pc = .ok (.return_, 1)) (hQ : Q none T.heap locs) (hc : cells ≤ cl) (hs : slots ≤ sl) : Goes p e below s cl sl Q (T.setTop (mkF m pc Ls [])) := by
  obtain ⟨fs, hr, hrun, hended, hW, hsame⟩ := X.leave (v := none) (fun _ => rfl) hlk
  exact ⟨_, _, X.returnOut hx hret hd hr, hrun, hended, _, _, rfl, hQ, ⟨_, rfl⟩, hW, hsame.mono hc hs⟩
theorem own_eqInt {args : Array Value} {s : State} {t : Term} {k : Int32} (h : (Cond.eq t (.int k)).value args s none s [] = some true) : t.eval args s none [] s = some (.int k) := by
  obtain ⟨x, y, hx, hy, -, k2⟩ := cmp_v (Or.inl h)
  obtain rfl : y = .int k := (Option.some.inj hy).symm
  obtain ⟨z, rfl⟩ := k2
  have e : (Cond.eq t (.int k)).value args s none s [] = some (decide (z = k)) := by simp [Cond.value, hx, hy]
  rw [hx, gotT e h]
theorem own_eqLong {args : Array Value} {s : State} {t : Term} {k : Int64} (h : (Cond.eq t (.long k)).value args s none s [] = some true) : t.eval args s none [] s = some (.long k) := by
  obtain ⟨x, y, hx, hy, -, k2⟩ := cmp_v (Or.inl h)
  obtain rfl : y = .long k := (Option.some.inj hy).symm
  obtain ⟨z, rfl⟩ := k2
  rw [hx, gotT (eq_L hx hy) h]
theorem own_neFld {Z : State} {h : Heap} {a b : Addr} {C n d : String} {x y : Int32} (F : Fld Z h a C n d (.int x)) (G : Fld Z h b C n d (.int y)) (q : x ≠ y) : a ≠ b := fun e => by
  subst e
  obtain ⟨cell, cf, k, i, f, h1, h2, -, -, -, -, h7⟩ := F
  obtain ⟨cell', cf', k', i', f', g1, g2, -, -, -, -, g7⟩ := G
  cases h1.symm.trans g1
  cases h2.symm.trans g2
  rw [h7] at g7
  injection g7 with g8
  injection g8 with g9
  exact q g9
theorem own_miss1 {k : Int32} {a : Int} (b : Int32) (hb : b.toInt = a) (h : ¬ k = b) : a ≠ k.toInt := fun q => h (Int32.toInt_inj.mp (by rw [hb, q]))
theorem own_find3 {k : Int32} {a b c' o1 o2 o3 : Int} {a' b' d' : Int32} (ha : ¬ k = a') (hb : ¬ k = b') (hc : ¬ k = d') (ea : a'.toInt = a := by rfl) (eb : b'.toInt = b := by rfl) (ec : d'.toInt = c' := by rfl) : (#[(a, o1), (b, o2), (c', o3)] : Array (Int × Int)).find? (·.1 == k.toInt) = none :=
  find_miss fun p hp => by
    simp only [List.mem_cons, List.not_mem_nil, or_false] at hp
    rcases hp with rfl | rfl | rfl
    · exact own_miss1 _ ea ha
    · exact own_miss1 _ eb hb
    · exact own_miss1 _ ec hc
theorem own_insKeep {Z : State} {h h' : Heap} {a : Addr} {C : String} {b : Bool} {ws : List Addr} (F : Ins Z h a C b) (K : Keep h h' ws) : Ins Z h' a C b := by
  obtain ⟨cell, cT, h1, h2, h3⟩ := F
  obtain ⟨c', q, r1, r2, r3⟩ := K.2.2 a cell h1
  exact ⟨c', cT, q, h2, by rw [r1, r2]; exact h3⟩
theorem own_insLt {Z : State} {h : Heap} {a : Addr} {C : String} {b : Bool} (F : Ins Z h a C b) : a < h.size := by
  obtain ⟨cell, cT, h1, -⟩ := F
  exact (Array.getElem?_eq_some_iff.mp h1).1
theorem own_cat {v : Value} (h : v.isRef = true) : v.category = 1 := by cases v <;> first | rfl | (simp [Value.isRef] at h)
theorem own_nar {ty : FieldType} {v : Value} (h : v.isRef = true) : narrow ty v = v := by cases v <;> first | (simp [Value.isRef] at h; done) | (cases ty <;> rfl)
theorem own_fit {C : String} {v : Value} (h : v.isRef = true) : fits (.object C) v = true := by cases v <;> first | rfl | (simp [Value.isRef] at h)
/-- a private method is selected by its own type, which is no interface since another method of it is selected -/
theorem own_selPriv {s : State} {args : Array Value} {C : String} {x z y : MethodName} (w : (Cond.selects C x z).before args s = true) (hc : z.cls = y.cls) (hp : (Cond.privateMethod y).before args s = true) (hi : (Cond.instanceMethod y).before args s = true)
    (hy : y.cls ≠ "java/lang/invoke/MethodHandle" ∧ y.cls ≠ "java/lang/invoke/VarHandle") : (Cond.selects y.cls y y).before args s = true := by
  obtain ⟨c2, r2, m2, -, -, q3, -, kP, hkP, hkPi⟩ := Cond.selects_spec w
  have hf := findClass_of_methodNamed q3
  rw [hc] at hf
  exact selects_self_of_private hf hkP hkPi (Cond.privateMethod_at hp) hi hy
/-- an array whose contents aren't told -/
def Arx (Z : State) (h : Heap) (a : Addr) (k : ClassId) (ty : FieldType) (n : Int32) : Prop :=
  ∃ cl : Cell, Arr Z h a cl ty ∧ cl.cls = k ∧ cl.slots.size = n.toNatClampNeg ∧ ¬ n < 0 ∧ ∀ i, i < cl.slots.size → ∃ v, cl.slots[i]? = some v ∧ fits ty v = true
theorem Arx.lt {Z : State} {h : Heap} {a : Addr} {k : ClassId} {ty : FieldType} {n : Int32} (F : Arx Z h a k ty n) : a < h.size := by obtain ⟨cl, A, -⟩ := F; exact A.lt
theorem Arx.ext {Z : State} {h h' : Heap} {a : Addr} {k : ClassId} {ty : FieldType} {n : Int32} (F : Arx Z h a k ty n) (E : Ext h h') : Arx Z h' a k ty n := by obtain ⟨cl, A, r⟩ := F; exact ⟨cl, A.ext E, r⟩
theorem Arx.other {Z : State} {h h' : Heap} {a b : Addr} {k : ClassId} {ty : FieldType} {n : Int32} {sl : Nat} {v : Value} (F : Arx Z h b k ty n) (W : Wr h h' a sl v) (q : b ≠ a) : Arx Z h' b k ty n := by obtain ⟨cl, A, r⟩ := F; exact ⟨cl, A.other W q, r⟩
theorem Arx.keep {Z : State} {h h' : Heap} {a : Addr} {k : ClassId} {ty : FieldType} {n : Int32} {ws : List Addr} (F : Arx Z h a k ty n) (K : Keep h h' ws) (q : a ∉ ws) : Arx Z h' a k ty n := by obtain ⟨cl, A, r⟩ := F; exact ⟨cl, ⟨K.2.1 a cl A.1 q, A.2⟩, r⟩
theorem Arx.set {Z : State} {h h' : Heap} {a : Addr} {k : ClassId} {ty : FieldType} {n : Int32} {cl : Cell} {sl : Nat} {v : Value} (A : Arr Z h a cl ty) (q1 : cl.cls = k) (S : cl.slots.size = n.toNatClampNeg) (P : ¬ n < 0) (G : ∀ i, i < cl.slots.size → ∃ v, cl.slots[i]? = some v ∧ fits ty v = true) (hv : fits ty v = true) (W : Wr h h' a sl v) : Arx Z h' a k ty n := by
  refine ⟨_, A.same W, q1, by rw [sz_set]; exact S, P, fun i hi => ?_⟩
  rw [sz_set] at hi
  by_cases u : sl = i
  · subst u
    exact ⟨v, by simp [Cell.setSlot, hi], hv⟩
  · obtain ⟨w, e1, e2⟩ := G i hi
    refine ⟨w, ?_, e2⟩
    show (cl.slots.setIfInBounds sl v)[i]? = some w
    rw [Array.getElem?_setIfInBounds_ne u]
    exact e1
theorem own_arx {Z : State} {h : Heap} {a : Addr} {k : ClassId} {ty : FieldType} {n : Int32} {vs : List Value} {d : Value} (F : Arv Z h a k ty n vs d) : Arx Z h a k ty n := by
  obtain ⟨cl, A, r1, r2, r3, H, G⟩ := F
  exact ⟨cl, A, r1, r2, r3, fun i hi => ⟨_, H i hi, G i hi⟩⟩
theorem own_arI {cl : Cell} {j : Int32} (G : ∀ i, i < cl.slots.size → ∃ v, cl.slots[i]? = some v ∧ fits .int v = true) (hin : ¬ (j < 0 ∨ cl.slots.size ≤ j.toNatClampNeg)) : ∃ x : Int32, cl.slots[j.toNatClampNeg]? = some (.int x) := by
  obtain ⟨v, e1, e2⟩ := G _ (Nat.lt_of_not_le fun q => hin (Or.inr q))
  obtain ⟨x, rfl⟩ := fit_I e2 (Or.inl rfl)
  exact ⟨x, e1⟩
theorem own_arD {cl : Cell} {j : Int32} (G : ∀ i, i < cl.slots.size → ∃ v, cl.slots[i]? = some v ∧ fits .double v = true) (hin : ¬ (j < 0 ∨ cl.slots.size ≤ j.toNatClampNeg)) : ∃ x, cl.slots[j.toNatClampNeg]? = some (.double x) := by
  obtain ⟨v, e1, e2⟩ := G _ (Nat.lt_of_not_le fun q => hin (Or.inr q))
  obtain ⟨x, rfl⟩ := fit_D e2
  exact ⟨x, e1⟩
end Own
abbrev mN0 : MethodName := ⟨"com/example/nehaba/nehaba/input/KeptValues", "after", "(I)I"⟩
abbrev mN1 : MethodName := ⟨"com/example/nehaba/nehaba/input/KeptValues", "first", "(I)I"⟩
abbrev mN2 : MethodName := ⟨"com/example/nehaba/nehaba/input/KeptValues", "seek", "(II)I"⟩
abbrev mN3 : MethodName := ⟨"java/util/Arrays", "fill", "([Ljava/lang/Object;Ljava/lang/Object;)V"⟩
abbrev mN4 : MethodName := ⟨"java/lang/Integer", "numberOfLeadingZeros", "(I)I"⟩
abbrev mN5 : MethodName := ⟨"java/lang/Integer", "highestOneBit", "(I)I"⟩
abbrev mN6 : MethodName := ⟨"com/example/nehaba/nehaba/input/KeptValues", "holds", "(I)Z"⟩
abbrev mN7 : MethodName := ⟨"com/example/nehaba/nehaba/input/KeptValues", "<init>", "(I)V"⟩
abbrev mN8 : MethodName := ⟨"com/example/nehaba/nehaba/input/KeptValues", "place", "(I)I"⟩
abbrev mN9 : MethodName := ⟨"java/lang/Integer", "valueOf", "(I)Ljava/lang/Integer;"⟩
abbrev mN10 : MethodName := ⟨"com/example/nehaba/nehaba/input/KeptValues", "put", "(ILjava/lang/Object;Ljava/lang/Object;)Ljava/lang/Object;"⟩
theorem G1 {p : Program} {e : Env} {below : List Frame} {s : State} {cl sl : Nat} {Q : Option Value → Heap → List Loc → Prop} {S S' : State} (h : ∀ t, Steps p.tables e below S' t → Steps p.tables e below S t) (k : Goes p e below s cl sl Q S') : Goes p e below s cl sl Q S := Goes.step h k
theorem G2 {p : Program} {e : Env} {below : List Frame} {s : State} {cl sl : Nat} {Q : Option Value → Heap → List Loc → Prop} {S S' : State} (h : Steps p.tables e below S S') (k : Goes p e below s cl sl Q S') : Goes p e below s cl sl Q S := Goes.back h k
theorem own_at {Z : State} {a0 : Array Value} (hw : ∀ d ∈ tables_1, d.before a0 Z = true) (i : Nat) {d : Cond} (h : tables_1[i]? = some d) : d.before a0 Z = true := hw _ (List.mem_of_getElem? h)
theorem own_arx0 {s : State} {args : Array Value} {t : Term} {a : Addr} {cl : Cell} {ty : FieldType} {n : Int32} (hfit : Fit s) (et : t.eval args s none [] s = some (.ref a)) (A : Arr s s.heap a cl ty) (hl : (Term.length t).eval args s none [] s = some (.int n)) (hn : ¬ n < 0) : Arx s s.heap a cl.cls ty n := by
  obtain ⟨x, c2, e1, e2, e4, e3⟩ := Jvm.Free.SB.Term.length_small hl
  cases et.symm.trans e1
  cases (A.fin (Vm.Alike.refl _)).symm.trans e2
  injection e4 with e5
  have hs : cl.slots.size = n.toNatClampNeg := by
    rw [e5]
    simp only [Int32.toNatClampNeg, len_toInt e3]
    rfl
  refine ⟨cl, A, rfl, hs, hn, fun i hi => ?_⟩
  have hq : ¬ (i.toInt32 < 0 ∨ cl.slots.size ≤ i.toInt32.toNatClampNeg) := idx_in hi e3
  obtain ⟨v, r1, r2⟩ := elem_fit hfit A hq
  refine ⟨v, ?_, r2⟩
  have hi2 : i.toInt32.toNatClampNeg = i := by simp only [Int32.toNatClampNeg, len_toInt (Nat.lt_trans hi e3)]; rfl
  rw [hi2] at r1
  exact r1
section OwnNums
theorem own_maskNN (x : Int32) : 0 ≤ (x &&& 2147483647).toInt ∧ (x &&& 2147483647).toInt < 2 ^ 31 := by
  have h : (x &&& 2147483647).toInt = x.toInt % 2 ^ 31 := Jvm.Kit.i32_mask x 2147483647 (k := 31) (by decide) (by decide)
  omega
theorem own_remB (x : Int32) (n : Int32) (hn : 0 < n.toInt) : 0 ≤ ((x &&& 2147483647) % n).toInt ∧ ((x &&& 2147483647) % n).toInt < n.toInt := by
  rw [Int32.toInt_mod, Int.tmod_eq_emod_of_nonneg (own_maskNN x).1]
  exact ⟨Int.emod_nonneg _ (by omega), Int.emod_lt_of_pos _ hn⟩
theorem own_eqOf {i : Int32} (k : Int32) (h : i.toInt = k.toInt) : i = k := Int32.toInt_inj.mp h
end OwnNums
section OwnKept
/-- an array whose places hold what f tells -/
def ArF (Z : State) (h : Heap) (a : Addr) (k : ClassId) (ty : FieldType) (N : Nat) (f : Nat → Value) : Prop :=
  ∃ cl : Cell, Arr Z h a cl ty ∧ cl.cls = k ∧ cl.slots.size = N ∧ ∀ j, j < N → cl.slots[j]? = some (f j)
variable {Z : State} {h h' : Heap} {a b : Addr} {k : ClassId} {ty : FieldType} {N : Nat} {f g : Nat → Value} {ws : List Addr} {sl : Nat} {v : Value}
theorem ArF.lt (F : ArF Z h a k ty N f) : a < h.size := by obtain ⟨cl, A, -⟩ := F; exact A.lt
theorem ArF.ext (F : ArF Z h a k ty N f) (E : Ext h h') : ArF Z h' a k ty N f := by obtain ⟨cl, A, r⟩ := F; exact ⟨cl, A.ext E, r⟩
theorem ArF.other (F : ArF Z h b k ty N f) (W : Wr h h' a sl v) (q : b ≠ a) : ArF Z h' b k ty N f := by obtain ⟨cl, A, r⟩ := F; exact ⟨cl, A.other W q, r⟩
theorem ArF.keep (F : ArF Z h a k ty N f) (K : Keep h h' ws) (q : a ∉ ws) : ArF Z h' a k ty N f := by obtain ⟨cl, A, r⟩ := F; exact ⟨cl, ⟨K.2.1 a cl A.1 q, A.2⟩, r⟩
theorem ArF.congr (F : ArF Z h a k ty N f) (q : ∀ j, j < N → f j = g j) : ArF Z h a k ty N g := by obtain ⟨cl, A, r1, r2, r3⟩ := F; exact ⟨cl, A, r1, r2, fun j hj => (q j hj) ▸ r3 j hj⟩
theorem ArF.set {cl : Cell} (A : Arr Z h a cl ty) (q1 : cl.cls = k) (S : cl.slots.size = N) (H : ∀ j, j < N → cl.slots[j]? = some (f j)) (W : Wr h h' a sl v) : ArF Z h' a k ty N (fun j => if j = sl then v else f j) := by
  refine ⟨_, A.same W, q1, by rw [sz_set]; exact S, fun j hj => ?_⟩
  show (cl.slots.setIfInBounds sl v)[j]? = some (if j = sl then v else f j)
  by_cases u : j = sl
  · subst u
    rw [if_pos rfl, Array.getElem?_setIfInBounds_self_of_lt (by rw [S]; exact hj)]
  · rw [if_neg u, Array.getElem?_setIfInBounds_ne (Ne.symm u)]
    exact H j hj
theorem own_arf {n : Int32} {d : Value} (F : Arv Z h a k ty n [] d) (hN : n.toNatClampNeg = N := by decide) : ArF Z h a k ty N (fun _ => d) := by
  obtain ⟨cl, A, r1, r2, r3, H, G⟩ := F
  refine ⟨cl, A, r1, r2.trans hN, fun j hj => ?_⟩
  exact H j (by rw [r2, hN]; exact hj)
theorem own_arfin {cl : Cell} {i : Int32} (S : cl.slots.size = N) (h1 : ¬ i < 0) (h2 : i.toNatClampNeg < N) : ¬ (i < 0 ∨ cl.slots.size ≤ i.toNatClampNeg) := fun q => q.elim h1 fun r => by rw [S] at r; omega
/-- a place of the table: nothing, or the entry's object -/
def rfv (K : Nat → Addr) : Option Nat → Value
  | none => .null
  | some i => .ref (K i)
theorem own_rfv (K : Nat → Addr) (o : Option Nat) : (rfv K o).isRef = true := by cases o <;> rfl
theorem own_rfvf (K : Nat → Addr) (o : Option Nat) (C : String) : fits (.object C) (rfv K o) = true := by cases o <;> rfl
/-! the table's plain functions -/
def seekP (t : Nat → Option Nat) (e : Nat → Bool) (N : Nat) : Nat → Nat → Option Nat
  | 0, _ => none
  | k + 1, p => match t p with
    | none => some p
    | some i => if e i then some p else seekP t e N k ((p + 1) % N)
def probeP (t : Nat → Option Nat) (N : Nat) : Nat → Nat → Option Nat
  | 0, _ => none
  | k + 1, p => match t p with
    | none => some p
    | some _ => probeP t N k ((p + 1) % N)
theorem own_after {i : Int32} (hN : N = 2 ∨ N = 4 ∨ N = 8) (h1 : ¬ i < 0) (h2 : i.toNatClampNeg < N) :
    ¬ ((i + (1 : Int32)) &&& (N.toInt32 - (1 : Int32))) < 0 ∧ ((i + (1 : Int32)) &&& (N.toInt32 - (1 : Int32))).toNatClampNeg = (i.toNatClampNeg + 1) % N := by
  have e := (back32 h1).1
  generalize i.toNatClampNeg = q at e h2
  subst e
  have t2 : ∀ q : Fin 2, ¬ ((q.val.toInt32 + (1 : Int32)) &&& ((2 : Nat).toInt32 - (1 : Int32))) < 0 ∧ ((q.val.toInt32 + (1 : Int32)) &&& ((2 : Nat).toInt32 - (1 : Int32))).toNatClampNeg = (q.val + 1) % 2 := by decide +kernel
  have t4 : ∀ q : Fin 4, ¬ ((q.val.toInt32 + (1 : Int32)) &&& ((4 : Nat).toInt32 - (1 : Int32))) < 0 ∧ ((q.val.toInt32 + (1 : Int32)) &&& ((4 : Nat).toInt32 - (1 : Int32))).toNatClampNeg = (q.val + 1) % 4 := by decide +kernel
  have t8 : ∀ q : Fin 8, ¬ ((q.val.toInt32 + (1 : Int32)) &&& ((8 : Nat).toInt32 - (1 : Int32))) < 0 ∧ ((q.val.toInt32 + (1 : Int32)) &&& ((8 : Nat).toInt32 - (1 : Int32))).toNatClampNeg = (q.val + 1) % 8 := by decide +kernel
  rcases hN with rfl | rfl | rfl
  · exact t2 ⟨q, h2⟩
  · exact t4 ⟨q, h2⟩
  · exact t8 ⟨q, h2⟩
/-- the first place of a hash -/
def own_f (hs sh : Int32) : Int32 := (((hs * (-1640531527 : Int32)).toUInt32 >>> (sh &&& 31).toUInt32).toInt32)
theorem own_small {u : UInt32} {n : Nat} (hn : n = 2 ∨ n = 4 ∨ n = 8) (hu : u.toNat < n) : ¬ u.toInt32 < 0 ∧ u.toInt32.toNatClampNeg < n := by
  have e : u = UInt32.ofNat u.toNat := (UInt32.ofNat_toNat).symm
  generalize u.toNat = q at e hu
  subst e
  have t2 : ∀ q : Fin 2, ¬ (UInt32.ofNat q.val).toInt32 < 0 ∧ (UInt32.ofNat q.val).toInt32.toNatClampNeg < 2 := by decide +kernel
  have t4 : ∀ q : Fin 4, ¬ (UInt32.ofNat q.val).toInt32 < 0 ∧ (UInt32.ofNat q.val).toInt32.toNatClampNeg < 4 := by decide +kernel
  have t8 : ∀ q : Fin 8, ¬ (UInt32.ofNat q.val).toInt32 < 0 ∧ (UInt32.ofNat q.val).toInt32.toNatClampNeg < 8 := by decide +kernel
  rcases hn with rfl | rfl | rfl
  · exact t2 ⟨q, hu⟩
  · exact t4 ⟨q, hu⟩
  · exact t8 ⟨q, hu⟩
theorem own_first {sh : Int32} (hs : Int32) (hN : (N = 2 ∧ sh = 31) ∨ (N = 4 ∧ sh = 30) ∨ (N = 8 ∧ sh = 29)) : ¬ own_f hs sh < 0 ∧ (own_f hs sh).toNatClampNeg < N := by
  have key : ∀ (u : UInt32) (s : UInt32) (j : Nat), s.toNat = j → j < 32 → (u >>> s).toNat < 2 ^ (32 - j) := by
    intro u s j hj hj2
    rw [UInt32.toNat_shiftRight, hj, Nat.mod_eq_of_lt hj2, Nat.shiftRight_eq_div_pow]
    have hu : u.toNat < 2 ^ 32 := u.toNat_lt
    rw [Nat.div_lt_iff_lt_mul (Nat.two_pow_pos j), ← Nat.pow_add, Nat.sub_add_cancel (Nat.le_of_lt hj2)]
    exact hu
  rcases hN with ⟨rfl, rfl⟩ | ⟨rfl, rfl⟩ | ⟨rfl, rfl⟩
  · exact own_small (Or.inl rfl) (key _ _ 31 (by decide) (by decide))
  · exact own_small (Or.inr (Or.inl rfl)) (key _ _ 30 (by decide) (by decide))
  · exact own_small (Or.inr (Or.inr rfl)) (key _ _ 29 (by decide) (by decide))
end OwnKept
section OwnKept2
variable {N k p q i0 : Nat} {t : Nat → Option Nat} {e : Nat → Bool} {hf H : Nat → Int32} {KA VA : Nat → Addr}
def own_t0 : Nat → Option Nat := fun _ => none
def own_put (t : Nat → Option Nat) (q i : Nat) : Nat → Option Nat := fun j => if j = q then some i else t j
def own_hp (hf : Nat → Int32) (q : Nat) (x : Int32) : Nat → Int32 := fun j => if j = q then x else hf j
def own_b : Option Nat → Int32
  | none => 0
  | some _ => 1
theorem own_seekNone (ht : t p = none) (hs : seekP t e N (k + 1) p = some q) : p = q := by simp only [seekP, ht] at hs; exact Option.some.inj hs
theorem own_seekHit {j : Nat} (ht : t p = some j) (he : e j = true) (hs : seekP t e N (k + 1) p = some q) : p = q := by simp only [seekP, ht, he, if_true] at hs; exact Option.some.inj hs
theorem own_seekGo {j : Nat} (ht : t p = some j) (he : e j = false) (hs : seekP t e N (k + 1) p = some q) : seekP t e N k ((p + 1) % N) = some q := by
  simp only [seekP, ht, he, Bool.false_eq_true, if_false] at hs; exact hs
theorem own_probeNone (ht : t p = none) (hs : probeP t N (k + 1) p = some q) : p = q := by simp only [probeP, ht] at hs; exact Option.some.inj hs
theorem own_probeGo {j : Nat} (ht : t p = some j) (hs : probeP t N (k + 1) p = some q) : probeP t N k ((p + 1) % N) = some q := by simp only [probeP, ht] at hs; exact hs
theorem own_npos (hN : N = 2 ∨ N = 4 ∨ N = 8) : 0 < N := by omega
theorem own_afterLt {i : Int32} (hN : N = 2 ∨ N = 4 ∨ N = 8) (h1 : ¬ i < 0) (h2 : i.toNatClampNeg < N) : ((i + (1 : Int32)) &&& (N.toInt32 - (1 : Int32))).toNatClampNeg < N := by rw [(own_after hN h1 h2).2]; exact Nat.mod_lt _ (own_npos hN)
theorem own_rfset {x : Addr} (hk : KA i0 = x) (r : Nat) (hr : r = q) : ∀ j, j < N → (if j = r then Value.ref x else rfv KA (t j)) = rfv KA (own_put t q i0 j) := fun j _ => by
  subst hr
  unfold own_put
  by_cases u : j = r
  · rw [if_pos u, if_pos u, ← hk]; rfl
  · rw [if_neg u, if_neg u]
theorem own_hset {x : Int32} (r : Nat) (hr : r = q) : ∀ j, j < N → (if j = r then Value.int x else Value.int (hf j)) = Value.int (own_hp hf q x j) := fun j _ => by
  subst hr
  unfold own_hp
  by_cases u : j = r
  · rw [if_pos u, if_pos u]
  · rw [if_neg u, if_neg u]
theorem own_hH (h : ∀ p j, t p = some j → hf p = H j) {x : Int32} (hx : H i0 = x) : ∀ p j, own_put t q i0 p = some j → own_hp hf q x p = H j := fun p j hp => by
  unfold own_put at hp
  unfold own_hp
  by_cases u : p = q
  · rw [if_pos u] at hp ⊢
    cases hp
    exact hx.symm
  · rw [if_neg u] at hp ⊢
    exact h p j hp
theorem own_hH0 : ∀ p j, own_t0 p = some j → hf p = H j := fun p j hp => by cases hp
theorem own_lt3 (h : ∀ p j, t p = some j → j < 3) (hi : i0 < 3) : ∀ p j, own_put t q i0 p = some j → j < 3 := fun p j hp => by
  unfold own_put at hp
  by_cases u : p = q
  · rw [if_pos u] at hp; cases hp; exact hi
  · rw [if_neg u] at hp; exact h p j hp
theorem own_lt30 : ∀ p j, own_t0 p = some j → j < 3 := fun p j hp => by cases hp
/-- what the law's own search comes to -/
def findP (t : Nat → Option Nat) (e : Nat → Bool) (N i0 f : Nat) : Option (Option Nat) :=
  match seekP t e N 9 f with
  | none => none
  | some p0 => match t p0 with
    | none => some none
    | some j0 => if j0 = i0 then some (some j0) else
      match seekP t e N 9 ((p0 + 1) % N) with
      | none => none
      | some p1 => match t p1 with
        | none => some none
        | some j1 => if j1 = i0 then some (some j1) else
          match seekP t e N 9 ((p1 + 1) % N) with
          | none => none
          | some p2 => match t p2 with
            | none => some none
            | some j2 => if j2 = i0 then some (some j2) else some none
end OwnKept2
section OwnBox
theorem own_cacheIn {x : Int32} (h1 : ¬ x < (-128 : Int32)) (h2 : ¬ (127 : Int32) < x) : ¬ (x + (128 : Int32)) < 0 ∧ (x + (128 : Int32)) < (256 : Int32) := by
  rw [Int32.lt_iff_toInt_lt] at h1 h2
  have e1 : (-128 : Int32).toInt = -128 := rfl
  have e2 : (127 : Int32).toInt = 127 := rfl
  have e3 : (128 : Int32).toInt = 128 := rfl
  have e4 : (256 : Int32).toInt = 256 := rfl
  have e5 : (0 : Int32).toInt = 0 := rfl
  have e : (x + (128 : Int32)).toInt = x.toInt + 128 := Jvm.Kit.i32_add (by omega) (by omega)
  rw [Int32.lt_iff_toInt_lt, Int32.lt_iff_toInt_lt]
  omega
theorem own_c128 (x : Int32) : x + (128 : Int32) - (128 : Int32) = x := Int32.add_sub_cancel x 128
theorem own_bxs {s : State} {args : Array Value} {ca : Addr} {cc : Cell} (eca : (Term.static "java/lang/Integer$IntegerCache" "cache" "[Ljava/lang/Integer;").eval args s none [] s = some (.ref ca)) (A : Arr s s.heap ca cc (.object "java/lang/Integer"))
    (hl : (Term.length (Term.static "java/lang/Integer$IntegerCache" "cache" "[Ljava/lang/Integer;")).eval args s none [] s = some (.int (256 : Int32)))
    (h : (Cond.all (Term.static "java/lang/Integer$IntegerCache" "cache" "[Ljava/lang/Integer;") (.and (.exactly (.elem (Term.static "java/lang/Integer$IntegerCache" "cache" "[Ljava/lang/Integer;") (.index 0)) "java/lang/Integer") (.eq (.field (.elem (Term.static "java/lang/Integer$IntegerCache" "cache" "[Ljava/lang/Integer;") (.index 0)) "java/lang/Integer" "value" "I") (.sub (.index 0) (.int (128 : Int32)))))).value args s none s [] = some true) :
    Bxs s ca cc "java/lang/Integer" "I" (256 : Int32) (fun j => .int (j - (128 : Int32))) := by
  obtain ⟨x, cl, e1, e2, e4, e3⟩ := Jvm.Free.SB.Term.length_small hl
  cases eca.symm.trans e1
  cases (A.fin (Vm.Alike.refl _)).symm.trans e2
  refine Bxs.start (fun idx => eca) A e3 (by injection e4 with e5; exact e5.symm) (by decide) h (fun X j hj hX => ?_)
  exact eqv_i (by simp [Term.eval]; exact (back32 hj).1) hX
end OwnBox
section OwnLaw
def own_e3 (a b c : Bool) : Nat → Bool := fun j => if j = 0 then a else if j = 1 then b else c
def own_i : Bool → Int32
  | false => 0
  | true => 1
def own_sat (o : Option Nat) (P : Nat → Bool) : Bool :=
  match o with
  | none => false
  | some p => P p
theorem own_satE {o : Option Nat} {P : Nat → Bool} (h : own_sat o P = true) : ∃ p, o = some p ∧ P p = true := by
  cases o with
  | none => cases h
  | some p => exact ⟨p, rfl, h⟩
def own_H (h1 h2 h3 : Int32) : Nat → Int32 := fun j => if j = 0 then h1 else if j = 1 then h2 else h3
def own_K (k1 k2 k3 : Addr) : Nat → Addr := fun j => if j = 0 then k1 else if j = 1 then k2 else k3
theorem own_e3H (h1 h2 h3 q : Int32) : (fun j => decide (own_H h1 h2 h3 j = q)) = own_e3 (decide (h1 = q)) (decide (h2 = q)) (decide (h3 = q)) := by
  funext j
  by_cases u : j = 0
  · simp [own_H, own_e3, u]
  · by_cases w : j = 1
    · simp [own_H, own_e3, w]
    · simp [own_H, own_e3, u, w]
theorem own_recast {N : Nat} {t : Nat → Option Nat} {KA KB : Nat → Addr} (h : ∀ p i, t p = some i → KA i = KB i) : ∀ j, j < N → rfv KA (t j) = rfv KB (t j) := fun j _ => by
  cases e : t j with
  | none => rfl
  | some i => exact congrArg Value.ref (h j i e)
theorem own_c0 {KA KB : Nat → Addr} : ∀ p i, own_t0 p = some i → KA i = KB i := fun p i h => by cases h
theorem own_cP {t : Nat → Option Nat} {KA KB : Nat → Addr} {q i0 : Nat} (h : ∀ p i, t p = some i → KA i = KB i) (e : KA i0 = KB i0) : ∀ p i, own_put t q i0 p = some i → KA i = KB i := fun p i hp => by
  unfold own_put at hp
  by_cases u : p = q
  · rw [if_pos u] at hp; cases hp; exact e
  · rw [if_neg u] at hp; exact h p i hp
def own_cnt (T : Nat → Option Nat) : Nat → Int32
  | 2 => own_b (T 0) + own_b (T 1)
  | 4 => own_b (T 0) + own_b (T 1) + own_b (T 2) + own_b (T 3)
  | _ => own_b (T 0) + own_b (T 1) + own_b (T 2) + own_b (T 3) + own_b (T 4) + own_b (T 5) + own_b (T 6) + own_b (T 7)
set_option maxRecDepth 65536 in
set_option maxHeartbeats 40000000 in
theorem own_s2 : ∀ (f g : Fin 2) (i : Fin 3) (a b c : Bool), (own_e3 a b c i.val = true → f = g) → ((own_sat (seekP (own_put own_t0 f.val i.val) (own_e3 a b c) 2 9 g.val) fun p => own_b (own_put own_t0 f.val i.val p) == own_i (own_e3 a b c i.val)) && (own_cnt (own_put own_t0 f.val i.val) 2 == 1)) = true := by decide +kernel
set_option maxRecDepth 65536 in
set_option maxHeartbeats 40000000 in
theorem own_s4 : ∀ (f g : Fin 4) (i : Fin 3) (a b c : Bool), (own_e3 a b c i.val = true → f = g) → ((own_sat (seekP (own_put own_t0 f.val i.val) (own_e3 a b c) 4 9 g.val) fun p => own_b (own_put own_t0 f.val i.val p) == own_i (own_e3 a b c i.val)) && (own_cnt (own_put own_t0 f.val i.val) 4 == 1)) = true := by decide +kernel
set_option maxRecDepth 65536 in
set_option maxHeartbeats 40000000 in
theorem own_s8 : ∀ (f g : Fin 8) (i : Fin 3) (a b c : Bool), (own_e3 a b c i.val = true → f = g) → ((own_sat (seekP (own_put own_t0 f.val i.val) (own_e3 a b c) 8 9 g.val) fun p => own_b (own_put own_t0 f.val i.val p) == own_i (own_e3 a b c i.val)) && (own_cnt (own_put own_t0 f.val i.val) 8 == 1)) = true := by decide +kernel
set_option maxRecDepth 65536 in
set_option maxHeartbeats 40000000 in
theorem own_d4 : ∀ (f1 f2 g : Fin 4) (a b : Bool), (a = true → f1 = g) → (b = true → f2 = g) → (own_sat (probeP (own_put own_t0 f1.val 0) 4 9 f2.val) fun q2 => (own_sat (seekP (own_put (own_put own_t0 f1.val 0) q2 1) (own_e3 a b false) 4 9 g.val) fun p => own_b ((own_put (own_put own_t0 f1.val 0) q2 1) p) == own_i (a || b)) && (own_cnt (own_put (own_put own_t0 f1.val 0) q2 1) 4 == 2)) = true := by decide +kernel
set_option maxRecDepth 65536 in
set_option maxHeartbeats 40000000 in
theorem own_d8 : ∀ (f1 f2 g : Fin 8) (a b : Bool), (a = true → f1 = g) → (b = true → f2 = g) → (own_sat (probeP (own_put own_t0 f1.val 0) 8 9 f2.val) fun q2 => (own_sat (seekP (own_put (own_put own_t0 f1.val 0) q2 1) (own_e3 a b false) 8 9 g.val) fun p => own_b ((own_put (own_put own_t0 f1.val 0) q2 1) p) == own_i (a || b)) && (own_cnt (own_put (own_put own_t0 f1.val 0) q2 1) 8 == 2)) = true := by decide +kernel
set_option maxRecDepth 65536 in
set_option maxHeartbeats 40000000 in
theorem own_t8 : ∀ (f1 f2 f3 g : Fin 8) (a b c : Bool), (a = true → f1 = g) → (b = true → f2 = g) → (c = true → f3 = g) → (own_sat (probeP (own_put own_t0 f1.val 0) 8 9 f2.val) fun q2 => own_sat (probeP (own_put (own_put own_t0 f1.val 0) q2 1) 8 9 f3.val) fun q3 => (own_sat (seekP (own_put (own_put (own_put own_t0 f1.val 0) q2 1) q3 2) (own_e3 a b c) 8 9 g.val) fun p => own_b ((own_put (own_put (own_put own_t0 f1.val 0) q2 1) q3 2) p) == own_i (a || b || c)) && (own_cnt (own_put (own_put (own_put own_t0 f1.val 0) q2 1) q3 2) 8 == 3)) = true := by decide +kernel
theorem own_seekCongr {t : Nat → Option Nat} {e e' : Nat → Bool} {N : Nat} (he : ∀ p j, t p = some j → e j = e' j) : ∀ k p, seekP t e N k p = seekP t e' N k p := by
  intro k
  induction k with
  | zero => intro p; rfl
  | succ k ih =>
    intro p
    unfold seekP
    cases hp : t p with
    | none => rfl
    | some j => simp only [he p j hp, ih]
theorem own_cE {t : Nat → Option Nat} {e e' : Nat → Bool} {q i0 : Nat} (h : ∀ p i, t p = some i → e i = e' i) (g : e i0 = e' i0) : ∀ p i, own_put t q i0 p = some i → e i = e' i := fun p i hp => by
  unfold own_put at hp
  by_cases u : p = q
  · rw [if_pos u] at hp; cases hp; exact g
  · rw [if_neg u] at hp; exact h p i hp
theorem own_cE0 {e e' : Nat → Bool} : ∀ p i, own_t0 p = some i → e i = e' i := fun p i h => by cases h
theorem own_beq {x y : Int32} (h : (x == y) = true) : x = y := eq_of_beq h
theorem own_bne {o : Option Nat} (h : ¬ own_b o = (0 : Int32)) : own_b o = 1 := by
  cases o with
  | none => exact absurd rfl h
  | some _ => rfl
theorem own_mask {x : Int32} : (x &&& (3 : Int32)) = 0 ∨ (x &&& (3 : Int32)) = 1 ∨ (x &&& (3 : Int32)) = 2 ∨ (x &&& (3 : Int32)) = 3 := by
  have b : (x &&& (3 : Int32)).toInt = x.toInt % 2 ^ 2 := Jvm.Kit.i32_mask x 3 (k := 2) (by decide) (by decide)
  have q : (x &&& (3 : Int32)).toInt = 0 ∨ (x &&& (3 : Int32)).toInt = 1 ∨ (x &&& (3 : Int32)).toInt = 2 ∨ (x &&& (3 : Int32)).toInt = 3 := by omega
  rcases q with q | q | q | q
  · exact Or.inl (own_eqOf 0 q)
  · exact Or.inr (Or.inl (own_eqOf 1 q))
  · exact Or.inr (Or.inr (Or.inl (own_eqOf 2 q)))
  · exact Or.inr (Or.inr (Or.inr (own_eqOf 3 q)))
theorem own_most {x : Int32} : ((x &&& (3 : Int32)) + (1 : Int32)) = 1 ∨ ((x &&& (3 : Int32)) + (1 : Int32)) = 2 ∨ ((x &&& (3 : Int32)) + (1 : Int32)) = 3 ∨ ((x &&& (3 : Int32)) + (1 : Int32)) = 4 := by
  rcases own_mask (x := x) with h | h | h | h <;> rw [h] <;> decide
end OwnLaw
theorem d6_0 : decode prog_31_method_9_code 0 = .ok (.iload_n 1, 1) := by decide +kernel
theorem d6_1 : decode prog_31_method_9_code 1 = .ok (.ldc 75, 2) := by decide +kernel
theorem d6_3 : decode prog_31_method_9_code 3 = .ok (.imul, 1) := by decide +kernel
theorem d6_4 : decode prog_31_method_9_code 4 = .ok (.aload_n 0, 1) := by decide +kernel
theorem d6_5 : decode prog_31_method_9_code 5 = .ok (.getfield 43, 3) := by decide +kernel
theorem d6_8 : decode prog_31_method_9_code 8 = .ok (.iushr, 1) := by decide +kernel
theorem d6_9 : decode prog_31_method_9_code 9 = .ok (.ireturn, 1) := by decide +kernel
theorem pn_6 : plainName "com/example/nehaba/nehaba/input/KeptValues" = true := by first | (simp [plainName, overriddenIn]; done) | decide +kernel
theorem ef_6 (m : MethodId) (x0 : Addr) (x1 : Int32) (ka : Addr) (ha : Addr) (va : Addr) (kk : ClassId) (kh : ClassId) (kw : ClassId) (N : Nat) (t : Nat → Option Nat) (hf : Nat → Int32) (KA : Nat → Addr) (VA : Nat → Addr) (sh : Int32) (mo : Int32) (sz : Int32)  : entryFrame m #[(.ref x0), (.int x1)] 2 = mkF m 0 #[.val (.ref x0), .val (.int x1)] [] := by first | (simp [entryFrame, mkF, argsToLocals, Value.category]; done) | rfl
def Q6 (Z : State) (x0 : Addr) (x1 : Int32) (ka : Addr) (ha : Addr) (va : Addr) (kk : ClassId) (kh : ClassId) (kw : ClassId) (N : Nat) (t : Nat → Option Nat) (hf : Nat → Int32) (KA : Nat → Addr) (VA : Nat → Addr) (sh : Int32) (mo : Int32) (sz : Int32) (h0 : Heap) (n0 : Nat) (v : Option Value) (h : Heap) (L : List Loc) : Prop := Fr n0 L ∧ h = h0 ∧ v = some (.int (own_f x1 sh))
set_option maxRecDepth 65536 in
set_option maxHeartbeats 40000000 in
theorem rm6 (l : Launch) (Z : State) (a0 : Array Value) (hw : ∀ d ∈ tables_1, d.before a0 Z = true) (ws : List Jvm.Cond) (x0 : Addr) (x1 : Int32) (ka : Addr) (ha : Addr) (va : Addr) (kk : ClassId) (kh : ClassId) (kw : ClassId) (N : Nat) (t : Nat → Option Nat) (hf : Nat → Int32) (KA : Nat → Addr) (VA : Nat → Addr) (sh : Int32) (mo : Int32) (sz : Int32) (h0 : Heap) (n0 : Nat) (Z0 : n0 ≤ h0.size) (E0 : Exa Z h0 x0 "com/example/nehaba/nehaba/input/KeptValues") (Fk : Fld Z h0 x0 "com/example/nehaba/nehaba/input/KeptValues" "keys" "[Ljava/lang/Object;" (.ref ka)) (Fh : Fld Z h0 x0 "com/example/nehaba/nehaba/input/KeptValues" "hashes" "[I" (.ref ha)) (Fv : Fld Z h0 x0 "com/example/nehaba/nehaba/input/KeptValues" "values" "[Ljava/lang/Object;" (.ref va)) (Fm : Fld Z h0 x0 "com/example/nehaba/nehaba/input/KeptValues" "most" "I" (.int mo)) (Fz : Fld Z h0 x0 "com/example/nehaba/nehaba/input/KeptValues" "size" "I" (.int sz)) (Fs : Fld Z h0 x0 "com/example/nehaba/nehaba/input/KeptValues" "shift" "I" (.int sh)) (Ak : ArF Z h0 ka kk (.object "java/lang/Object") N (fun j => rfv KA (t j))) (Ah : ArF Z h0 ha kh .int N (fun j => .int (hf j))) (Av : ArF Z h0 va kw (.object "java/lang/Object") N (fun j => rfv VA (t j))) :
    MetFree l (⟨"com/example/nehaba/nehaba/input/KeptValues", "first", "(I)I"⟩ : MethodName) (head1 (Jvm.Cond.code (⟨"com/example/nehaba/nehaba/input/KeptValues", "first", "(I)I"⟩ : MethodName) prog_31_method_9_code 2 (some .int) :: ws) ({ frames := 0, cells := 0, slots := 0, locals := 0 } : Room)) (fun a U => a = #[(.ref x0), (.int x1)] ∧ Z.Warmed39 U.vm ∧ U.heap = h0) (fun _ _ _ _ _ => True) (fun _ U o U' => ∃ v L, o = .returned v ∧ Q6 Z x0 x1 ka ha va kk kh kw N t hf KA VA sh mo sz h0 n0 v U'.heap L ∧ FrameEnd U o U' L ({ frames := 0, cells := 0, slots := 0, locals := 0 } : Room).cells ({ frames := 0, cells := 0, slots := 0, locals := 0 } : Room).slots) := by
  refine MetFree.of_bodySF (plainFor_of_name pn_6) hisR ?_
  intro p e s m args below meth c s₁ Bd hml0 hP hK
  obtain ⟨rfl, hZ, hh⟩ := hP
  have w_31 := own_at hw 31 rfl
  have w_42 := own_at hw 42 rfl
  have hx := Bd.exec
  have hby := Bd.bytes
  have hml : c.maxLocals = 2 := hml0
  have hown : s.vm.findClass "com/example/nehaba/nehaba/input/KeptValues" = some m.cls := findClass_of_methodNamed Bd.named
  have hnm := (name_of_methodNamed Bd.named Bd.method).1
  have X0 : Stand p l e ({ frames := 0, cells := 0, slots := 0, locals := 0 } : Room) s m #[(.ref x0), (.int x1)] below meth c s₁ [] 0 0 := Stand.of_body Bd
  have e0 : s₁.heap = h0 := by rw [← hh, Bd.state]; rfl
  have N0 := Fr.nil n0
  have K0 : Keep h0 h0 [] := Keep.refl h0 _
  refine (?_ : Goes p e below s ({ frames := 0, cells := 0, slots := 0, locals := 0 } : Room).cells ({ frames := 0, cells := 0, slots := 0, locals := 0 } : Room).slots (fun v h L => Q6 Z x0 x1 ka ha va kk kh kw N t hf KA VA sh mo sz h0 n0 v h L) (s₁.setTop (entryFrame m #[(.ref x0), (.int x1)] 2)))
  rw [ef_6 m x0 x1 ka ha va kk kh kw N t hf KA VA sh mo sz ]
  show Goes _ _ _ _ _ _ _ (s₁.setTop (mkF m 0 #[.val (.ref x0), .val (.int x1)] []))
  refine G1 (fun _ => XS.iloadN X0.here hx rfl (hb hby d6_0) rfl ) ?_
  refine G1 (fun _ => X0.ldcInt hx hown (mvT hZ w_42) (g := (mkF m 1 #[.val (.ref x0), .val (.int x1)] [(.int x1)])) rfl (hb hby d6_1) _) ?_
  refine G1 (fun _ => XS.imul X0.here hx rfl (hb hby d6_3) rfl) ?_
  show Goes _ _ _ _ _ _ _ (s₁.setTop (mkF m 4 _ [(.int (x1 * (-1640531527 : Int32)))]))
  refine G1 (fun _ => XS.aloadN X0.here hx rfl (hb hby d6_4) rfl rfl) ?_
  obtain ⟨T1, X1, e1, st1⟩ := getF X0 hx hZ hown (host := "") (Or.inl w_31) Via.refl e0 Fs (g := (mkF m 5 #[.val (.ref x0), .val (.int x1)] [(.ref x0), (.int (x1 * (-1640531527 : Int32)))])) rfl rfl (hb hby d6_5)
  refine G1 st1 ?_
  show Goes _ _ _ _ _ _ _ (T1.setTop (mkF m 8 _ [(.int sh), (.int (x1 * (-1640531527 : Int32)))]))
  refine G1 (fun _ => XS.iushr X1.here hx rfl (hb hby d6_8) rfl) ?_
  show Goes _ _ _ _ _ _ _ (T1.setTop (mkF m 9 _ [(.int (((x1 * (-1640531527 : Int32)).toUInt32 >>> (sh &&& 31).toUInt32).toInt32))]))
  exact Goes.ret X1 hx (BodyLoose.notSynchronized Bd) Bd.returns rfl (Or.inl ⟨rfl, by simp, _, rfl⟩) (hb hby d6_9) (by show Q6 Z x0 x1 ka ha va kk kh kw N t hf KA VA sh mo sz h0 n0 (some (.int (((x1 * (-1640531527 : Int32)).toUInt32 >>> (sh &&& 31).toUInt32).toInt32))) T1.heap _; rw [e1]; exact ⟨N0, rfl, rfl⟩) (by decide) (by decide)
theorem d12_0 : decode prog_31_method_11_code 0 = .ok (.iload_n 1, 1) := by decide +kernel
theorem d12_1 : decode prog_31_method_11_code 1 = .ok (.iconst 1, 1) := by decide +kernel
theorem d12_2 : decode prog_31_method_11_code 2 = .ok (.iadd, 1) := by decide +kernel
theorem d12_3 : decode prog_31_method_11_code 3 = .ok (.aload_n 0, 1) := by decide +kernel
theorem d12_4 : decode prog_31_method_11_code 4 = .ok (.getfield 29, 3) := by decide +kernel
theorem d12_7 : decode prog_31_method_11_code 7 = .ok (.arraylength, 1) := by decide +kernel
theorem d12_8 : decode prog_31_method_11_code 8 = .ok (.iconst 1, 1) := by decide +kernel
theorem d12_9 : decode prog_31_method_11_code 9 = .ok (.isub, 1) := by decide +kernel
theorem d12_10 : decode prog_31_method_11_code 10 = .ok (.iand, 1) := by decide +kernel
theorem d12_11 : decode prog_31_method_11_code 11 = .ok (.ireturn, 1) := by decide +kernel
theorem pn_12 : plainName "com/example/nehaba/nehaba/input/KeptValues" = true := by first | (simp [plainName, overriddenIn]; done) | decide +kernel
theorem ef_12 (m : MethodId) (x0 : Addr) (x1 : Int32) (ka : Addr) (ha : Addr) (va : Addr) (kk : ClassId) (kh : ClassId) (kw : ClassId) (N : Nat) (t : Nat → Option Nat) (hf : Nat → Int32) (KA : Nat → Addr) (VA : Nat → Addr) (sh : Int32) (mo : Int32) (sz : Int32)  : entryFrame m #[(.ref x0), (.int x1)] 2 = mkF m 0 #[.val (.ref x0), .val (.int x1)] [] := by first | (simp [entryFrame, mkF, argsToLocals, Value.category]; done) | rfl
def Q12 (Z : State) (x0 : Addr) (x1 : Int32) (ka : Addr) (ha : Addr) (va : Addr) (kk : ClassId) (kh : ClassId) (kw : ClassId) (N : Nat) (t : Nat → Option Nat) (hf : Nat → Int32) (KA : Nat → Addr) (VA : Nat → Addr) (sh : Int32) (mo : Int32) (sz : Int32) (h0 : Heap) (n0 : Nat) (v : Option Value) (h : Heap) (L : List Loc) : Prop := Fr n0 L ∧ h = h0 ∧ v = some (.int ((x1 + (1 : Int32)) &&& ((N).toInt32 - (1 : Int32))))
set_option maxRecDepth 65536 in
set_option maxHeartbeats 40000000 in
theorem rm12 (l : Launch) (Z : State) (a0 : Array Value) (hw : ∀ d ∈ tables_1, d.before a0 Z = true) (ws : List Jvm.Cond) (x0 : Addr) (x1 : Int32) (ka : Addr) (ha : Addr) (va : Addr) (kk : ClassId) (kh : ClassId) (kw : ClassId) (N : Nat) (t : Nat → Option Nat) (hf : Nat → Int32) (KA : Nat → Addr) (VA : Nat → Addr) (sh : Int32) (mo : Int32) (sz : Int32) (h0 : Heap) (n0 : Nat) (Z0 : n0 ≤ h0.size) (E0 : Exa Z h0 x0 "com/example/nehaba/nehaba/input/KeptValues") (Fk : Fld Z h0 x0 "com/example/nehaba/nehaba/input/KeptValues" "keys" "[Ljava/lang/Object;" (.ref ka)) (Fh : Fld Z h0 x0 "com/example/nehaba/nehaba/input/KeptValues" "hashes" "[I" (.ref ha)) (Fv : Fld Z h0 x0 "com/example/nehaba/nehaba/input/KeptValues" "values" "[Ljava/lang/Object;" (.ref va)) (Fm : Fld Z h0 x0 "com/example/nehaba/nehaba/input/KeptValues" "most" "I" (.int mo)) (Fz : Fld Z h0 x0 "com/example/nehaba/nehaba/input/KeptValues" "size" "I" (.int sz)) (Fs : Fld Z h0 x0 "com/example/nehaba/nehaba/input/KeptValues" "shift" "I" (.int sh)) (Ak : ArF Z h0 ka kk (.object "java/lang/Object") N (fun j => rfv KA (t j))) (Ah : ArF Z h0 ha kh .int N (fun j => .int (hf j))) (Av : ArF Z h0 va kw (.object "java/lang/Object") N (fun j => rfv VA (t j))) :
    MetFree l (⟨"com/example/nehaba/nehaba/input/KeptValues", "after", "(I)I"⟩ : MethodName) (head1 (Jvm.Cond.code (⟨"com/example/nehaba/nehaba/input/KeptValues", "after", "(I)I"⟩ : MethodName) prog_31_method_11_code 2 (some .int) :: ws) ({ frames := 0, cells := 0, slots := 0, locals := 0 } : Room)) (fun a U => a = #[(.ref x0), (.int x1)] ∧ Z.Warmed39 U.vm ∧ U.heap = h0) (fun _ _ _ _ _ => True) (fun _ U o U' => ∃ v L, o = .returned v ∧ Q12 Z x0 x1 ka ha va kk kh kw N t hf KA VA sh mo sz h0 n0 v U'.heap L ∧ FrameEnd U o U' L ({ frames := 0, cells := 0, slots := 0, locals := 0 } : Room).cells ({ frames := 0, cells := 0, slots := 0, locals := 0 } : Room).slots) := by
  refine MetFree.of_bodySF (plainFor_of_name pn_12) hisR ?_
  intro p e s m args below meth c s₁ Bd hml0 hP hK
  obtain ⟨rfl, hZ, hh⟩ := hP
  have w_24 := own_at hw 24 rfl
  have hx := Bd.exec
  have hby := Bd.bytes
  have hml : c.maxLocals = 2 := hml0
  have hown : s.vm.findClass "com/example/nehaba/nehaba/input/KeptValues" = some m.cls := findClass_of_methodNamed Bd.named
  have hnm := (name_of_methodNamed Bd.named Bd.method).1
  have X0 : Stand p l e ({ frames := 0, cells := 0, slots := 0, locals := 0 } : Room) s m #[(.ref x0), (.int x1)] below meth c s₁ [] 0 0 := Stand.of_body Bd
  have e0 : s₁.heap = h0 := by rw [← hh, Bd.state]; rfl
  have N0 := Fr.nil n0
  have K0 : Keep h0 h0 [] := Keep.refl h0 _
  refine (?_ : Goes p e below s ({ frames := 0, cells := 0, slots := 0, locals := 0 } : Room).cells ({ frames := 0, cells := 0, slots := 0, locals := 0 } : Room).slots (fun v h L => Q12 Z x0 x1 ka ha va kk kh kw N t hf KA VA sh mo sz h0 n0 v h L) (s₁.setTop (entryFrame m #[(.ref x0), (.int x1)] 2)))
  rw [ef_12 m x0 x1 ka ha va kk kh kw N t hf KA VA sh mo sz ]
  show Goes _ _ _ _ _ _ _ (s₁.setTop (mkF m 0 #[.val (.ref x0), .val (.int x1)] []))
  refine G1 (fun _ => XS.iloadN X0.here hx rfl (hb hby d12_0) rfl ) ?_
  refine G1 (fun _ => XS.iconst X0.here hx rfl (hb hby d12_1)) ?_
  refine G1 (fun _ => XS.iadd X0.here hx rfl (hb hby d12_2) rfl) ?_
  show Goes _ _ _ _ _ _ _ (s₁.setTop (mkF m 3 _ [(.int (x1 + (1 : Int32)))]))
  refine G1 (fun _ => XS.aloadN X0.here hx rfl (hb hby d12_3) rfl rfl) ?_
  obtain ⟨T1, X1, e1, st1⟩ := getF X0 hx hZ hown (host := "") (Or.inl w_24) Via.refl e0 Fk (g := (mkF m 4 #[.val (.ref x0), .val (.int x1)] [(.ref x0), (.int (x1 + (1 : Int32)))])) rfl rfl (hb hby d12_4)
  refine G1 st1 ?_
  show Goes _ _ _ _ _ _ _ (T1.setTop (mkF m 7 _ [(.ref ka), (.int (x1 + (1 : Int32)))]))
  obtain ⟨cl2, Ar2, q2, S2, H2⟩ := id Ak
  refine G1 (fun _ => X1.arraylength hx (by rw [e1]; exact Ar2.1) (State.isArrayOf_alike hZ.alike Ar2.2.1) (g := (mkF m 7 #[.val (.ref x0), .val (.int x1)] [(.ref ka), (.int (x1 + (1 : Int32)))])) rfl rfl (hb hby d12_7) _) ?_
  rw [S2]
  show Goes _ _ _ _ _ _ _ (T1.setTop (mkF m 8 _ [(.int (N).toInt32), (.int (x1 + (1 : Int32)))]))
  refine G1 (fun _ => XS.iconst X1.here hx rfl (hb hby d12_8)) ?_
  refine G1 (fun _ => XS.isub X1.here hx rfl (hb hby d12_9) rfl) ?_
  show Goes _ _ _ _ _ _ _ (T1.setTop (mkF m 10 _ [(.int ((N).toInt32 - (1 : Int32))), (.int (x1 + (1 : Int32)))]))
  refine G1 (fun _ => XS.iand X1.here hx rfl (hb hby d12_10) rfl) ?_
  show Goes _ _ _ _ _ _ _ (T1.setTop (mkF m 11 _ [(.int ((x1 + (1 : Int32)) &&& ((N).toInt32 - (1 : Int32))))]))
  exact Goes.ret X1 hx (BodyLoose.notSynchronized Bd) Bd.returns rfl (Or.inl ⟨rfl, by simp, _, rfl⟩) (hb hby d12_11) (by show Q12 Z x0 x1 ka ha va kk kh kw N t hf KA VA sh mo sz h0 n0 (some (.int ((x1 + (1 : Int32)) &&& ((N).toInt32 - (1 : Int32))))) T1.heap _; rw [e1]; exact ⟨N0, rfl, rfl⟩) (by decide) (by decide)
theorem d7_0 : decode prog_31_method_10_code 0 = .ok (.aload_n 0, 1) := by decide +kernel
theorem d7_1 : decode prog_31_method_10_code 1 = .ok (.getfield 29, 3) := by decide +kernel
theorem d7_4 : decode prog_31_method_10_code 4 = .ok (.iload_n 1, 1) := by decide +kernel
theorem d7_5 : decode prog_31_method_10_code 5 = .ok (.aaload, 1) := by decide +kernel
theorem d7_6 : decode prog_31_method_10_code 6 = .ok (.ifnull 22, 3) := by decide +kernel
theorem d7_9 : decode prog_31_method_10_code 9 = .ok (.aload_n 0, 1) := by decide +kernel
theorem d7_10 : decode prog_31_method_10_code 10 = .ok (.getfield 33, 3) := by decide +kernel
theorem d7_13 : decode prog_31_method_10_code 13 = .ok (.iload_n 1, 1) := by decide +kernel
theorem d7_14 : decode prog_31_method_10_code 14 = .ok (.iaload, 1) := by decide +kernel
theorem d7_15 : decode prog_31_method_10_code 15 = .ok (.iload_n 2, 1) := by decide +kernel
theorem d7_16 : decode prog_31_method_10_code 16 = .ok (.if_icmp .eq 12, 3) := by decide +kernel
theorem d7_19 : decode prog_31_method_10_code 19 = .ok (.aload_n 0, 1) := by decide +kernel
theorem d7_20 : decode prog_31_method_10_code 20 = .ok (.iload_n 1, 1) := by decide +kernel
theorem d7_21 : decode prog_31_method_10_code 21 = .ok (.invokevirtual 53, 3) := by decide +kernel
theorem d7_24 : decode prog_31_method_10_code 24 = .ok (.istore_n 1, 1) := by decide +kernel
theorem d7_25 : decode prog_31_method_10_code 25 = .ok (.goto (-25), 3) := by decide +kernel
theorem d7_28 : decode prog_31_method_10_code 28 = .ok (.iload_n 1, 1) := by decide +kernel
theorem d7_29 : decode prog_31_method_10_code 29 = .ok (.ireturn, 1) := by decide +kernel
theorem pn_7 : plainName "com/example/nehaba/nehaba/input/KeptValues" = true := by first | (simp [plainName, overriddenIn]; done) | decide +kernel
theorem ef_7 (m : MethodId) (x0 : Addr) (x1 : Int32) (x2 : Int32) (ka : Addr) (ha : Addr) (va : Addr) (kk : ClassId) (kh : ClassId) (kw : ClassId) (N : Nat) (t : Nat → Option Nat) (hf : Nat → Int32) (KA : Nat → Addr) (VA : Nat → Addr) (sh : Int32) (mo : Int32) (sz : Int32) (H : Nat → Int32) (kf : Nat) (q : Nat)  : entryFrame m #[(.ref x0), (.int x1), (.int x2)] 3 = mkF m 0 #[.val (.ref x0), .val (.int x1), .val (.int x2)] [] := by first | (simp [entryFrame, mkF, argsToLocals, Value.category]; done) | rfl
theorem pd_2 : parseMethodDescriptor "(I)I" = some ⟨[.int], some .int⟩ := by decide +kernel
def Q7 (Z : State) (x0 : Addr) (x1 : Int32) (x2 : Int32) (ka : Addr) (ha : Addr) (va : Addr) (kk : ClassId) (kh : ClassId) (kw : ClassId) (N : Nat) (t : Nat → Option Nat) (hf : Nat → Int32) (KA : Nat → Addr) (VA : Nat → Addr) (sh : Int32) (mo : Int32) (sz : Int32) (H : Nat → Int32) (kf : Nat) (q : Nat) (h0 : Heap) (n0 : Nat) (v : Option Value) (h : Heap) (L : List Loc) : Prop := Fr n0 L ∧ h = h0 ∧ ∃ r : Int32, v = some (.int r) ∧ ¬ r < 0 ∧ r.toNatClampNeg = q ∧ r.toNatClampNeg < N
set_option maxRecDepth 65536 in
set_option maxHeartbeats 40000000 in
theorem rm7 (l : Launch) (Z : State) (a0 : Array Value) (hw : ∀ d ∈ tables_1, d.before a0 Z = true) (ws : List Jvm.Cond) (x0 : Addr) (x1 : Int32) (x2 : Int32) (ka : Addr) (ha : Addr) (va : Addr) (kk : ClassId) (kh : ClassId) (kw : ClassId) (N : Nat) (t : Nat → Option Nat) (hf : Nat → Int32) (KA : Nat → Addr) (VA : Nat → Addr) (sh : Int32) (mo : Int32) (sz : Int32) (H : Nat → Int32) (kf : Nat) (q : Nat) (h0 : Heap) (n0 : Nat) (Z0 : n0 ≤ h0.size) (E0 : Exa Z h0 x0 "com/example/nehaba/nehaba/input/KeptValues") (Fk : Fld Z h0 x0 "com/example/nehaba/nehaba/input/KeptValues" "keys" "[Ljava/lang/Object;" (.ref ka)) (Fh : Fld Z h0 x0 "com/example/nehaba/nehaba/input/KeptValues" "hashes" "[I" (.ref ha)) (Fv : Fld Z h0 x0 "com/example/nehaba/nehaba/input/KeptValues" "values" "[Ljava/lang/Object;" (.ref va)) (Fm : Fld Z h0 x0 "com/example/nehaba/nehaba/input/KeptValues" "most" "I" (.int mo)) (Fz : Fld Z h0 x0 "com/example/nehaba/nehaba/input/KeptValues" "size" "I" (.int sz)) (Fs : Fld Z h0 x0 "com/example/nehaba/nehaba/input/KeptValues" "shift" "I" (.int sh)) (Ak : ArF Z h0 ka kk (.object "java/lang/Object") N (fun j => rfv KA (t j))) (Ah : ArF Z h0 ha kh .int N (fun j => .int (hf j))) (Av : ArF Z h0 va kw (.object "java/lang/Object") N (fun j => rfv VA (t j))) (hN : N = 2 ∨ N = 4 ∨ N = 8) (hH : ∀ p j, t p = some j → hf p = H j) (hi1 : ¬ x1 < 0) (hi2 : x1.toNatClampNeg < N) (hs0 : seekP t (fun j => decide (H j = x2)) N kf x1.toNatClampNeg = some q) :
    MetFree l (⟨"com/example/nehaba/nehaba/input/KeptValues", "seek", "(II)I"⟩ : MethodName) (head1 (Jvm.Cond.code (⟨"com/example/nehaba/nehaba/input/KeptValues", "seek", "(II)I"⟩ : MethodName) prog_31_method_10_code 3 (some .int) :: ws) ({ frames := 1, cells := 0, slots := 0, locals := 13 } : Room)) (fun a U => a = #[(.ref x0), (.int x1), (.int x2)] ∧ Z.Warmed39 U.vm ∧ U.heap = h0) (fun _ _ _ _ _ => True) (fun _ U o U' => ∃ v L, o = .returned v ∧ Q7 Z x0 x1 x2 ka ha va kk kh kw N t hf KA VA sh mo sz H kf q h0 n0 v U'.heap L ∧ FrameEnd U o U' L ({ frames := 1, cells := 0, slots := 0, locals := 13 } : Room).cells ({ frames := 1, cells := 0, slots := 0, locals := 13 } : Room).slots) := by
  refine MetFree.of_bodySF (plainFor_of_name pn_7) hisR ?_
  intro p e s m args below meth c s₁ Bd hml0 hP hK
  obtain ⟨rfl, hZ, hh⟩ := hP
  have w_3 := own_at hw 3 rfl
  have w_24 := own_at hw 24 rfl
  have w_26 := own_at hw 26 rfl
  have w_36 := own_at hw 36 rfl
  have w_70 := own_at hw 70 rfl
  have w_71 := own_at hw 71 rfl
  have w_72 := own_at hw 72 rfl
  have w_73 := own_at hw 73 rfl
  have hx := Bd.exec
  have hby := Bd.bytes
  have hml : c.maxLocals = 3 := hml0
  have hown : s.vm.findClass "com/example/nehaba/nehaba/input/KeptValues" = some m.cls := findClass_of_methodNamed Bd.named
  have hnm := (name_of_methodNamed Bd.named Bd.method).1
  have X0 : Stand p l e ({ frames := 1, cells := 0, slots := 0, locals := 13 } : Room) s m #[(.ref x0), (.int x1), (.int x2)] below meth c s₁ [] 0 0 := Stand.of_body Bd
  have e0 : s₁.heap = h0 := by rw [← hh, Bd.state]; rfl
  have N0 := Fr.nil n0
  have K0 : Keep h0 h0 [] := Keep.refl h0 _
  refine (?_ : Goes p e below s ({ frames := 1, cells := 0, slots := 0, locals := 13 } : Room).cells ({ frames := 1, cells := 0, slots := 0, locals := 13 } : Room).slots (fun v h L => Q7 Z x0 x1 x2 ka ha va kk kh kw N t hf KA VA sh mo sz H kf q h0 n0 v h L) (s₁.setTop (entryFrame m #[(.ref x0), (.int x1), (.int x2)] 3)))
  rw [ef_7 m x0 x1 x2 ka ha va kk kh kw N t hf KA VA sh mo sz H kf q ]
  have loop : ∀ (kf : Nat) (i : Int32) (T : State) (Lf : List Loc) (X : Stand p l e ({ frames := 1, cells := 0, slots := 0, locals := 13 } : Room) s m #[(.ref x0), (.int x1), (.int x2)] below meth c T Lf 0 0) (eT : T.heap = h0) (NL : Fr n0 Lf), ¬ i < 0 → i.toNatClampNeg < N → seekP t (fun j => decide (H j = x2)) N kf i.toNatClampNeg = some q → Goes p e below s ({ frames := 1, cells := 0, slots := 0, locals := 13 } : Room).cells ({ frames := 1, cells := 0, slots := 0, locals := 13 } : Room).slots (fun v h L => Q7 Z x0 x1 x2 ka ha va kk kh kw N t hf KA VA sh mo sz H kf q h0 n0 v h L) (T.setTop (mkF m 0 #[.val (.ref x0), .val (.int i), .val (.int x2)] [])) := by
    intro kf
    induction kf with
    | zero => intro i T Lf X eT NL h1 h2 hs; exact absurd hs (by simp [seekP])
    | succ kf ih =>
      intro i T Lf X eT NL h1 h2 hs
      refine G1 (fun _ => XS.aloadN X.here hx rfl (hb hby d7_0) rfl rfl) ?_
      obtain ⟨T1, X1, e1, st1⟩ := getF X hx hZ hown (host := "") (Or.inl w_24) Via.refl eT Fk (g := (mkF m 1 #[.val (.ref x0), .val (.int i), .val (.int x2)] [(.ref x0)])) rfl rfl (hb hby d7_1)
      refine G1 st1 ?_
      show Goes _ _ _ _ _ _ _ (T1.setTop (mkF m 4 _ [(.ref ka)]))
      refine G1 (fun _ => XS.iloadN X1.here hx rfl (hb hby d7_4) rfl ) ?_
      obtain ⟨cl2, Ar2, q2, S2, H2⟩ := id Ak
      have hin2 := own_arfin S2 h1 h2
      have hat2 : cl2.slots[(i).toNatClampNeg]? = some (rfv KA (t (i).toNatClampNeg)) := H2 _ h2
      refine G1 (fun _ => X1.aaload hx (j := i) (v := (rfv KA (t (i).toNatClampNeg))) (by rw [e1]; exact Ar2.1) (State.isArrayOf_alike hZ.alike Ar2.2.1) rfl Ar2.2.2 hin2 hat2 (g := (mkF m 5 #[.val (.ref x0), .val (.int i), .val (.int x2)] [(.int i), (.ref ka)])) rfl rfl (hb hby d7_5) _) ?_
      show Goes _ _ _ _ _ _ _ (T1.setTop (mkF m 6 _ [(rfv KA (t (i).toNatClampNeg))]))
      rcases ht3 : t (i).toNatClampNeg with _ | j3
      · refine G1 (fun _ => XS.ifnullYes X1.here hx rfl (pc0 := 6) (pc' := 28) rfl (hb hby d7_6) rfl (by decide) (by decide)) ?_
        show Goes _ _ _ _ _ _ _ (T1.setTop (mkF m 28 _ []))
        refine G1 (fun _ => XS.iloadN X1.here hx rfl (hb hby d7_28) rfl ) ?_
        exact Goes.ret X1 hx (BodyLoose.notSynchronized Bd) Bd.returns rfl (Or.inl ⟨rfl, by simp, _, rfl⟩) (hb hby d7_29) (by show Q7 Z x0 x1 x2 ka ha va kk kh kw N t hf KA VA sh mo sz H kf q h0 n0 (some (.int i)) T1.heap _; rw [e1]; exact ⟨NL, rfl, i, rfl, h1, own_seekNone ht3 hs, h2⟩) (by decide) (by decide)
      · refine G1 (fun _ => XS.ifnullNo X1.here hx rfl (hb hby d7_6) rfl) ?_
        show Goes _ _ _ _ _ _ _ (T1.setTop (mkF m 9 _ []))
        refine G1 (fun _ => XS.aloadN X1.here hx rfl (hb hby d7_9) rfl rfl) ?_
        obtain ⟨T4, X4, e4, st4⟩ := getF X1 hx hZ hown (host := "") (Or.inl w_26) Via.refl e1 Fh (g := (mkF m 10 #[.val (.ref x0), .val (.int i), .val (.int x2)] [(.ref x0)])) rfl rfl (hb hby d7_10)
        refine G1 st4 ?_
        show Goes _ _ _ _ _ _ _ (T4.setTop (mkF m 13 _ [(.ref ha)]))
        refine G1 (fun _ => XS.iloadN X4.here hx rfl (hb hby d7_13) rfl ) ?_
        obtain ⟨cl5, Ar5, q5, S5, H5⟩ := id Ah
        have hin5 := own_arfin S5 h1 h2
        have hat5 : cl5.slots[(i).toNatClampNeg]? = some (.int (hf (i).toNatClampNeg)) := H5 _ h2
        refine G1 (fun _ => X4.iaload hx (j := i) (v := (.int (hf (i).toNatClampNeg))) (by rw [e4]; exact Ar5.1) (State.isArrayOf_alike hZ.alike Ar5.2.1) Ar5.2.2 hin5 hat5 (g := (mkF m 14 #[.val (.ref x0), .val (.int i), .val (.int x2)] [(.int i), (.ref ha)])) rfl rfl (hb hby d7_14) _) ?_
        show Goes _ _ _ _ _ _ _ (T4.setTop (mkF m 15 _ [(.int (hf (i).toNatClampNeg))]))
        refine G1 (fun _ => XS.iloadN X4.here hx rfl (hb hby d7_15) rfl ) ?_
        by_cases c16_6 : (hf (i).toNatClampNeg) = x2
        · refine G1 (fun _ => XS.icmpYes X4.here hx rfl (pc0 := 16) (pc' := 28) rfl (hb hby d7_16) rfl (teq c16_6).1 (by decide) (by decide)) ?_
          show Goes _ _ _ _ _ _ _ (T4.setTop (mkF m 28 _ []))
          refine G1 (fun _ => XS.iloadN X4.here hx rfl (hb hby d7_28) rfl ) ?_
          exact Goes.ret X4 hx (BodyLoose.notSynchronized Bd) Bd.returns rfl (Or.inl ⟨rfl, by simp, _, rfl⟩) (hb hby d7_29) (by show Q7 Z x0 x1 x2 ka ha va kk kh kw N t hf KA VA sh mo sz H kf q h0 n0 (some (.int i)) T4.heap _; rw [e4]; exact ⟨NL, rfl, i, rfl, h1, own_seekHit ht3 (by rw [← hH _ _ ht3]; exact decide_eq_true c16_6) hs, h2⟩) (by decide) (by decide)
        · refine G1 (fun _ => XS.icmpNo X4.here hx rfl (hb hby d7_16) rfl (feq c16_6).1) ?_
          show Goes _ _ _ _ _ _ _ (T4.setTop (mkF m 19 _ []))
          refine G1 (fun _ => XS.aloadN X4.here hx rfl (hb hby d7_19) rfl rfl) ?_
          refine G1 (fun _ => XS.iloadN X4.here hx rfl (hb hby d7_20) rfl ) ?_
          obtain ⟨cq7, q7, q7'⟩ := E0.cell
          obtain ⟨_, _, ⟨T7, L7, k7, n7⟩, -, X7, ⟨Lc7, hQ7, l7, y7, z7⟩, st7⟩ := X4.privateBack hx (y := mN0) hown (mvT hZ w_70) (mvT hZ w_71) (own_selPriv (mvT hZ w_36) rfl (mvP hZ w_72) (mvT hZ w_71) (by decide)) (Cond.privateMethod_at (mvP hZ w_72 (args := #[]))) (mvT hZ w_73) (by decide) (backOf (W := 0) (rm12 l Z a0 hw [] x0 i ka ha va kk kh kw N t hf KA VA sh mo sz h0 n0 Z0 E0 Fk Fh Fv Fm Fz Fs Ak Ah Av) hZ w_73 w_3 (by decide) (by decide)) (g := (mkF m 21 #[.val (.ref x0), .val (.int i), .val (.int x2)] [(.int i), (.ref x0)])) rfl (by rw [hml]; rfl) (Steps.refl _) (a := x0) (by rw [e4]; exact q7) q7' (argsL := [(.int i)]) (rest := []) (lenOf pd_2 rfl) rfl (by show 2 * 0 + _ ≤ _; exact Nat.le_of_eq rfl) (hb hby d7_21) (fun _ _ => ⟨rfl, e4, (by decide : 0 + 0 ≤ _), (by decide : 0 + 0 ≤ _)⟩)
          dsimp only [Pt.U, Pt.locs, Pt.cells, Pt.slots] at X7 l7 y7 z7 st7 hQ7
          rw [l7, y7, z7] at X7
          obtain ⟨N7, eh7, hv7⟩ := hQ7
          have NA7 := Fr.app NL N7
          subst hv7
          refine G2 st7 ?_
          show Goes _ _ _ _ _ _ _ (T7.setTop (mkF m 24 _ [(.int ((i + (1 : Int32)) &&& ((N).toInt32 - (1 : Int32))))]))
          refine G1 (fun _ => XS.istoreN X7.here hx rfl (hb hby d7_24) rfl (l' := #[.val (.ref x0), .val (.int ((i + (1 : Int32)) &&& ((N).toInt32 - (1 : Int32)))), .val (.int x2)]) rfl) ?_
          show Goes _ _ _ _ _ _ _ (T7.setTop (mkF m 25 _ []))
          refine G1 (fun _ => XS.goto X7.here hx rfl (pc0 := 25) (pc' := 0) rfl (hb hby d7_25) (by decide) (by decide)) ?_
          show Goes _ _ _ _ _ _ _ (T7.setTop (mkF m 0 _ []))
          show Goes _ _ _ _ _ _ _ (T7.setTop (mkF m 0 #[.val (.ref x0), .val (.int ((i + (1 : Int32)) &&& ((N).toInt32 - (1 : Int32)))), .val (.int x2)] []))
          exact ih _ _ _ X7 eh7 NA7 (own_after hN h1 h2).1 (own_afterLt hN h1 h2) (by rw [(own_after hN h1 h2).2]; exact own_seekGo ht3 (by rw [← hH _ _ ht3]; exact decide_eq_false c16_6) hs)
  exact loop kf _ _ _ X0 e0 N0 hi1 hi2 hs0
theorem d5_0 : decode prog_31_method_2_code 0 = .ok (.aload_n 0, 1) := by decide +kernel
theorem d5_1 : decode prog_31_method_2_code 1 = .ok (.aload_n 0, 1) := by decide +kernel
theorem d5_2 : decode prog_31_method_2_code 2 = .ok (.iload_n 1, 1) := by decide +kernel
theorem d5_3 : decode prog_31_method_2_code 3 = .ok (.invokevirtual 46, 3) := by decide +kernel
theorem d5_6 : decode prog_31_method_2_code 6 = .ok (.iload_n 1, 1) := by decide +kernel
theorem d5_7 : decode prog_31_method_2_code 7 = .ok (.invokevirtual 49, 3) := by decide +kernel
theorem d5_10 : decode prog_31_method_2_code 10 = .ok (.ireturn, 1) := by decide +kernel
theorem pn_5 : plainName "com/example/nehaba/nehaba/input/KeptValues" = true := by first | (simp [plainName, overriddenIn]; done) | decide +kernel
theorem ef_5 (m : MethodId) (x0 : Addr) (x1 : Int32) (ka : Addr) (ha : Addr) (va : Addr) (kk : ClassId) (kh : ClassId) (kw : ClassId) (N : Nat) (t : Nat → Option Nat) (hf : Nat → Int32) (KA : Nat → Addr) (VA : Nat → Addr) (sh : Int32) (mo : Int32) (sz : Int32) (H : Nat → Int32) (kf : Nat) (q : Nat)  : entryFrame m #[(.ref x0), (.int x1)] 2 = mkF m 0 #[.val (.ref x0), .val (.int x1)] [] := by first | (simp [entryFrame, mkF, argsToLocals, Value.category]; done) | rfl
theorem pd_3 : parseMethodDescriptor "(II)I" = some ⟨[.int, .int], some .int⟩ := by decide +kernel
def Q5 (Z : State) (x0 : Addr) (x1 : Int32) (ka : Addr) (ha : Addr) (va : Addr) (kk : ClassId) (kh : ClassId) (kw : ClassId) (N : Nat) (t : Nat → Option Nat) (hf : Nat → Int32) (KA : Nat → Addr) (VA : Nat → Addr) (sh : Int32) (mo : Int32) (sz : Int32) (H : Nat → Int32) (kf : Nat) (q : Nat) (h0 : Heap) (n0 : Nat) (v : Option Value) (h : Heap) (L : List Loc) : Prop := Fr n0 L ∧ h = h0 ∧ ∃ r : Int32, v = some (.int r) ∧ ¬ r < 0 ∧ r.toNatClampNeg = q ∧ r.toNatClampNeg < N
set_option maxRecDepth 65536 in
set_option maxHeartbeats 40000000 in
theorem rm5 (l : Launch) (Z : State) (a0 : Array Value) (hw : ∀ d ∈ tables_1, d.before a0 Z = true) (ws : List Jvm.Cond) (x0 : Addr) (x1 : Int32) (ka : Addr) (ha : Addr) (va : Addr) (kk : ClassId) (kh : ClassId) (kw : ClassId) (N : Nat) (t : Nat → Option Nat) (hf : Nat → Int32) (KA : Nat → Addr) (VA : Nat → Addr) (sh : Int32) (mo : Int32) (sz : Int32) (H : Nat → Int32) (kf : Nat) (q : Nat) (h0 : Heap) (n0 : Nat) (Z0 : n0 ≤ h0.size) (E0 : Exa Z h0 x0 "com/example/nehaba/nehaba/input/KeptValues") (Fk : Fld Z h0 x0 "com/example/nehaba/nehaba/input/KeptValues" "keys" "[Ljava/lang/Object;" (.ref ka)) (Fh : Fld Z h0 x0 "com/example/nehaba/nehaba/input/KeptValues" "hashes" "[I" (.ref ha)) (Fv : Fld Z h0 x0 "com/example/nehaba/nehaba/input/KeptValues" "values" "[Ljava/lang/Object;" (.ref va)) (Fm : Fld Z h0 x0 "com/example/nehaba/nehaba/input/KeptValues" "most" "I" (.int mo)) (Fz : Fld Z h0 x0 "com/example/nehaba/nehaba/input/KeptValues" "size" "I" (.int sz)) (Fs : Fld Z h0 x0 "com/example/nehaba/nehaba/input/KeptValues" "shift" "I" (.int sh)) (Ak : ArF Z h0 ka kk (.object "java/lang/Object") N (fun j => rfv KA (t j))) (Ah : ArF Z h0 ha kh .int N (fun j => .int (hf j))) (Av : ArF Z h0 va kw (.object "java/lang/Object") N (fun j => rfv VA (t j))) (hN : N = 2 ∨ N = 4 ∨ N = 8) (hH : ∀ p j, t p = some j → hf p = H j) (hS : (N = 2 ∧ sh = 31) ∨ (N = 4 ∧ sh = 30) ∨ (N = 8 ∧ sh = 29)) (hs0 : seekP t (fun j => decide (H j = x1)) N kf (own_f x1 sh).toNatClampNeg = some q) :
    MetFree l (⟨"com/example/nehaba/nehaba/input/KeptValues", "place", "(I)I"⟩ : MethodName) (head1 (Jvm.Cond.code (⟨"com/example/nehaba/nehaba/input/KeptValues", "place", "(I)I"⟩ : MethodName) prog_31_method_2_code 2 (some .int) :: ws) ({ frames := 2, cells := 0, slots := 0, locals := 27 } : Room)) (fun a U => a = #[(.ref x0), (.int x1)] ∧ Z.Warmed39 U.vm ∧ U.heap = h0) (fun _ _ _ _ _ => True) (fun _ U o U' => ∃ v L, o = .returned v ∧ Q5 Z x0 x1 ka ha va kk kh kw N t hf KA VA sh mo sz H kf q h0 n0 v U'.heap L ∧ FrameEnd U o U' L ({ frames := 2, cells := 0, slots := 0, locals := 27 } : Room).cells ({ frames := 2, cells := 0, slots := 0, locals := 27 } : Room).slots) := by
  refine MetFree.of_bodySF (plainFor_of_name pn_5) hisR ?_
  intro p e s m args below meth c s₁ Bd hml0 hP hK
  obtain ⟨rfl, hZ, hh⟩ := hP
  have w_3 := own_at hw 3 rfl
  have w_36 := own_at hw 36 rfl
  have w_38 := own_at hw 38 rfl
  have w_39 := own_at hw 39 rfl
  have w_40 := own_at hw 40 rfl
  have w_41 := own_at hw 41 rfl
  have w_43 := own_at hw 43 rfl
  have w_44 := own_at hw 44 rfl
  have w_45 := own_at hw 45 rfl
  have w_46 := own_at hw 46 rfl
  have hx := Bd.exec
  have hby := Bd.bytes
  have hml : c.maxLocals = 2 := hml0
  have hown : s.vm.findClass "com/example/nehaba/nehaba/input/KeptValues" = some m.cls := findClass_of_methodNamed Bd.named
  have hnm := (name_of_methodNamed Bd.named Bd.method).1
  have X0 : Stand p l e ({ frames := 2, cells := 0, slots := 0, locals := 27 } : Room) s m #[(.ref x0), (.int x1)] below meth c s₁ [] 0 0 := Stand.of_body Bd
  have e0 : s₁.heap = h0 := by rw [← hh, Bd.state]; rfl
  have N0 := Fr.nil n0
  have K0 : Keep h0 h0 [] := Keep.refl h0 _
  refine (?_ : Goes p e below s ({ frames := 2, cells := 0, slots := 0, locals := 27 } : Room).cells ({ frames := 2, cells := 0, slots := 0, locals := 27 } : Room).slots (fun v h L => Q5 Z x0 x1 ka ha va kk kh kw N t hf KA VA sh mo sz H kf q h0 n0 v h L) (s₁.setTop (entryFrame m #[(.ref x0), (.int x1)] 2)))
  rw [ef_5 m x0 x1 ka ha va kk kh kw N t hf KA VA sh mo sz H kf q ]
  show Goes _ _ _ _ _ _ _ (s₁.setTop (mkF m 0 #[.val (.ref x0), .val (.int x1)] []))
  refine G1 (fun _ => XS.aloadN X0.here hx rfl (hb hby d5_0) rfl rfl) ?_
  refine G1 (fun _ => XS.aloadN X0.here hx rfl (hb hby d5_1) rfl rfl) ?_
  refine G1 (fun _ => XS.iloadN X0.here hx rfl (hb hby d5_2) rfl ) ?_
  obtain ⟨cq1, q1, q1'⟩ := E0.cell
  obtain ⟨_, _, ⟨T1, L1, k1, n1⟩, -, X1, ⟨Lc1, hQ1, l1, y1, z1⟩, st1⟩ := X0.privateBack hx (y := mN1) hown (mvT hZ w_38) (mvT hZ w_39) (own_selPriv (mvT hZ w_36) rfl (mvP hZ w_40) (mvT hZ w_39) (by decide)) (Cond.privateMethod_at (mvP hZ w_40 (args := #[]))) (mvT hZ w_41) (by decide) (backOf (W := 1) (rm6 l Z a0 hw [] x0 x1 ka ha va kk kh kw N t hf KA VA sh mo sz h0 n0 Z0 E0 Fk Fh Fv Fm Fz Fs Ak Ah Av) hZ w_41 w_3 (by decide) (by decide)) (g := (mkF m 3 #[.val (.ref x0), .val (.int x1)] [(.int x1), (.ref x0), (.ref x0)])) rfl (by rw [hml]; rfl) (Steps.refl _) (a := x0) (by rw [e0]; exact q1) q1' (argsL := [(.int x1)]) (rest := [(.ref x0)]) (lenOf pd_2 rfl) rfl (by show 2 * 0 + _ ≤ _; exact Nat.le_of_eq rfl) (hb hby d5_3) (fun _ _ => ⟨rfl, e0, (by decide : 0 + 0 ≤ _), (by decide : 0 + 0 ≤ _)⟩)
  dsimp only [Pt.U, Pt.locs, Pt.cells, Pt.slots] at X1 l1 y1 z1 st1 hQ1
  rw [l1, y1, z1] at X1
  obtain ⟨N1, eh1, hv1⟩ := hQ1
  have NA1 := Fr.app N0 N1
  subst hv1
  refine G2 st1 ?_
  show Goes _ _ _ _ _ _ _ (T1.setTop (mkF m 6 _ [(.int (own_f x1 sh)), (.ref x0)]))
  refine G1 (fun _ => XS.iloadN X1.here hx rfl (hb hby d5_6) rfl ) ?_
  show Goes _ _ _ _ _ _ _ (T1.setTop (mkF m 7 #[.val (.ref x0), .val (.int x1)] [(.int x1), (.int (own_f x1 sh)), (.ref x0)]))
  obtain ⟨cq2, q2, q2'⟩ := E0.cell
  obtain ⟨_, _, ⟨T2, L2, k2, n2⟩, -, X2, ⟨Lc2, hQ2, l2, y2, z2⟩, st2⟩ := X1.privateBack hx (y := mN2) hown (mvT hZ w_43) (mvT hZ w_44) (own_selPriv (mvT hZ w_36) rfl (mvP hZ w_45) (mvT hZ w_44) (by decide)) (Cond.privateMethod_at (mvP hZ w_45 (args := #[]))) (mvT hZ w_46) (by decide) (backOf (W := 0) (rm7 l Z a0 hw [] x0 (own_f x1 sh) x1 ka ha va kk kh kw N t hf KA VA sh mo sz H kf q h0 n0 Z0 E0 Fk Fh Fv Fm Fz Fs Ak Ah Av hN hH (own_first x1 hS).1 (own_first x1 hS).2 hs0) hZ w_46 w_3 (by decide) (by decide)) (g := (mkF m 7 #[.val (.ref x0), .val (.int x1)] [(.int x1), (.int (own_f x1 sh)), (.ref x0)])) rfl (by rw [hml]; rfl) (Steps.refl _) (a := x0) (by rw [eh1]; exact q2) q2' (argsL := [(.int (own_f x1 sh)), (.int x1)]) (rest := []) (lenOf pd_3 rfl) rfl (by show 2 * 0 + _ ≤ _; exact Nat.le_of_eq rfl) (hb hby d5_7) (fun _ _ => ⟨rfl, eh1, (by decide : 0 + 0 ≤ _), (by decide : 0 + 0 ≤ _)⟩)
  dsimp only [Pt.U, Pt.locs, Pt.cells, Pt.slots] at X2 l2 y2 z2 st2 hQ2
  rw [l2, y2, z2] at X2
  obtain ⟨N2, eh2, r2, rfl, r1_2, r2_2, r3_2⟩ := hQ2
  have NA2 := Fr.app NA1 N2
  refine G2 st2 ?_
  show Goes _ _ _ _ _ _ _ (T2.setTop (mkF m 10 _ [(.int r2)]))
  exact Goes.ret X2 hx (BodyLoose.notSynchronized Bd) Bd.returns rfl (Or.inl ⟨rfl, by simp, _, rfl⟩) (hb hby d5_10) (by show Q5 Z x0 x1 ka ha va kk kh kw N t hf KA VA sh mo sz H kf q h0 n0 (some (.int r2)) T2.heap _; rw [eh2]; exact ⟨NA2, rfl, r2, rfl, r1_2, r2_2, r3_2⟩) (by decide) (by decide)
theorem d8_0 : decode prog_31_method_4_code 0 = .ok (.aload_n 0, 1) := by decide +kernel
theorem d8_1 : decode prog_31_method_4_code 1 = .ok (.getfield 29, 3) := by decide +kernel
theorem d8_4 : decode prog_31_method_4_code 4 = .ok (.iload_n 1, 1) := by decide +kernel
theorem d8_5 : decode prog_31_method_4_code 5 = .ok (.aaload, 1) := by decide +kernel
theorem d8_6 : decode prog_31_method_4_code 6 = .ok (.ifnull 7, 3) := by decide +kernel
theorem d8_9 : decode prog_31_method_4_code 9 = .ok (.iconst 1, 1) := by decide +kernel
theorem d8_10 : decode prog_31_method_4_code 10 = .ok (.goto 4, 3) := by decide +kernel
theorem d8_13 : decode prog_31_method_4_code 13 = .ok (.iconst 0, 1) := by decide +kernel
theorem d8_14 : decode prog_31_method_4_code 14 = .ok (.ireturn, 1) := by decide +kernel
theorem pn_8 : plainName "com/example/nehaba/nehaba/input/KeptValues" = true := by first | (simp [plainName, overriddenIn]; done) | decide +kernel
theorem ef_8 (m : MethodId) (x0 : Addr) (x1 : Int32) (ka : Addr) (ha : Addr) (va : Addr) (kk : ClassId) (kh : ClassId) (kw : ClassId) (N : Nat) (t : Nat → Option Nat) (hf : Nat → Int32) (KA : Nat → Addr) (VA : Nat → Addr) (sh : Int32) (mo : Int32) (sz : Int32)  : entryFrame m #[(.ref x0), (.int x1)] 2 = mkF m 0 #[.val (.ref x0), .val (.int x1)] [] := by first | (simp [entryFrame, mkF, argsToLocals, Value.category]; done) | rfl
def Q8 (Z : State) (x0 : Addr) (x1 : Int32) (ka : Addr) (ha : Addr) (va : Addr) (kk : ClassId) (kh : ClassId) (kw : ClassId) (N : Nat) (t : Nat → Option Nat) (hf : Nat → Int32) (KA : Nat → Addr) (VA : Nat → Addr) (sh : Int32) (mo : Int32) (sz : Int32) (h0 : Heap) (n0 : Nat) (v : Option Value) (h : Heap) (L : List Loc) : Prop := Fr n0 L ∧ h = h0 ∧ v = some (.int (own_b (t x1.toNatClampNeg)))
set_option maxRecDepth 65536 in
set_option maxHeartbeats 40000000 in
theorem rm8 (l : Launch) (Z : State) (a0 : Array Value) (hw : ∀ d ∈ tables_1, d.before a0 Z = true) (ws : List Jvm.Cond) (x0 : Addr) (x1 : Int32) (ka : Addr) (ha : Addr) (va : Addr) (kk : ClassId) (kh : ClassId) (kw : ClassId) (N : Nat) (t : Nat → Option Nat) (hf : Nat → Int32) (KA : Nat → Addr) (VA : Nat → Addr) (sh : Int32) (mo : Int32) (sz : Int32) (h0 : Heap) (n0 : Nat) (Z0 : n0 ≤ h0.size) (E0 : Exa Z h0 x0 "com/example/nehaba/nehaba/input/KeptValues") (Fk : Fld Z h0 x0 "com/example/nehaba/nehaba/input/KeptValues" "keys" "[Ljava/lang/Object;" (.ref ka)) (Fh : Fld Z h0 x0 "com/example/nehaba/nehaba/input/KeptValues" "hashes" "[I" (.ref ha)) (Fv : Fld Z h0 x0 "com/example/nehaba/nehaba/input/KeptValues" "values" "[Ljava/lang/Object;" (.ref va)) (Fm : Fld Z h0 x0 "com/example/nehaba/nehaba/input/KeptValues" "most" "I" (.int mo)) (Fz : Fld Z h0 x0 "com/example/nehaba/nehaba/input/KeptValues" "size" "I" (.int sz)) (Fs : Fld Z h0 x0 "com/example/nehaba/nehaba/input/KeptValues" "shift" "I" (.int sh)) (Ak : ArF Z h0 ka kk (.object "java/lang/Object") N (fun j => rfv KA (t j))) (Ah : ArF Z h0 ha kh .int N (fun j => .int (hf j))) (Av : ArF Z h0 va kw (.object "java/lang/Object") N (fun j => rfv VA (t j))) (hi1 : ¬ x1 < 0) (hi2 : x1.toNatClampNeg < N) :
    MetFree l (⟨"com/example/nehaba/nehaba/input/KeptValues", "holds", "(I)Z"⟩ : MethodName) (head1 (Jvm.Cond.code (⟨"com/example/nehaba/nehaba/input/KeptValues", "holds", "(I)Z"⟩ : MethodName) prog_31_method_4_code 2 (some .boolean) :: ws) ({ frames := 0, cells := 0, slots := 0, locals := 0 } : Room)) (fun a U => a = #[(.ref x0), (.int x1)] ∧ Z.Warmed39 U.vm ∧ U.heap = h0) (fun _ _ _ _ _ => True) (fun _ U o U' => ∃ v L, o = .returned v ∧ Q8 Z x0 x1 ka ha va kk kh kw N t hf KA VA sh mo sz h0 n0 v U'.heap L ∧ FrameEnd U o U' L ({ frames := 0, cells := 0, slots := 0, locals := 0 } : Room).cells ({ frames := 0, cells := 0, slots := 0, locals := 0 } : Room).slots) := by
  refine MetFree.of_bodySF (plainFor_of_name pn_8) hisR ?_
  intro p e s m args below meth c s₁ Bd hml0 hP hK
  obtain ⟨rfl, hZ, hh⟩ := hP
  have w_24 := own_at hw 24 rfl
  have hx := Bd.exec
  have hby := Bd.bytes
  have hml : c.maxLocals = 2 := hml0
  have hown : s.vm.findClass "com/example/nehaba/nehaba/input/KeptValues" = some m.cls := findClass_of_methodNamed Bd.named
  have hnm := (name_of_methodNamed Bd.named Bd.method).1
  have X0 : Stand p l e ({ frames := 0, cells := 0, slots := 0, locals := 0 } : Room) s m #[(.ref x0), (.int x1)] below meth c s₁ [] 0 0 := Stand.of_body Bd
  have e0 : s₁.heap = h0 := by rw [← hh, Bd.state]; rfl
  have N0 := Fr.nil n0
  have K0 : Keep h0 h0 [] := Keep.refl h0 _
  refine (?_ : Goes p e below s ({ frames := 0, cells := 0, slots := 0, locals := 0 } : Room).cells ({ frames := 0, cells := 0, slots := 0, locals := 0 } : Room).slots (fun v h L => Q8 Z x0 x1 ka ha va kk kh kw N t hf KA VA sh mo sz h0 n0 v h L) (s₁.setTop (entryFrame m #[(.ref x0), (.int x1)] 2)))
  rw [ef_8 m x0 x1 ka ha va kk kh kw N t hf KA VA sh mo sz ]
  show Goes _ _ _ _ _ _ _ (s₁.setTop (mkF m 0 #[.val (.ref x0), .val (.int x1)] []))
  refine G1 (fun _ => XS.aloadN X0.here hx rfl (hb hby d8_0) rfl rfl) ?_
  obtain ⟨T1, X1, e1, st1⟩ := getF X0 hx hZ hown (host := "") (Or.inl w_24) Via.refl e0 Fk (g := (mkF m 1 #[.val (.ref x0), .val (.int x1)] [(.ref x0)])) rfl rfl (hb hby d8_1)
  refine G1 st1 ?_
  show Goes _ _ _ _ _ _ _ (T1.setTop (mkF m 4 _ [(.ref ka)]))
  refine G1 (fun _ => XS.iloadN X1.here hx rfl (hb hby d8_4) rfl ) ?_
  obtain ⟨cl2, Ar2, q2, S2, H2⟩ := id Ak
  have hin2 := own_arfin S2 hi1 hi2
  have hat2 : cl2.slots[(x1).toNatClampNeg]? = some (rfv KA (t (x1).toNatClampNeg)) := H2 _ hi2
  refine G1 (fun _ => X1.aaload hx (j := x1) (v := (rfv KA (t (x1).toNatClampNeg))) (by rw [e1]; exact Ar2.1) (State.isArrayOf_alike hZ.alike Ar2.2.1) rfl Ar2.2.2 hin2 hat2 (g := (mkF m 5 #[.val (.ref x0), .val (.int x1)] [(.int x1), (.ref ka)])) rfl rfl (hb hby d8_5) _) ?_
  show Goes _ _ _ _ _ _ _ (T1.setTop (mkF m 6 _ [(rfv KA (t (x1).toNatClampNeg))]))
  rcases ht3 : t (x1).toNatClampNeg with _ | j3
  · refine G1 (fun _ => XS.ifnullYes X1.here hx rfl (pc0 := 6) (pc' := 13) rfl (hb hby d8_6) rfl (by decide) (by decide)) ?_
    show Goes _ _ _ _ _ _ _ (T1.setTop (mkF m 13 _ []))
    refine G1 (fun _ => XS.iconst X1.here hx rfl (hb hby d8_13)) ?_
    exact Goes.ret X1 hx (BodyLoose.notSynchronized Bd) Bd.returns rfl (Or.inl ⟨rfl, by simp, _, rfl⟩) (hb hby d8_14) (by show Q8 Z x0 x1 ka ha va kk kh kw N t hf KA VA sh mo sz h0 n0 (some (.int (0 : Int32))) T1.heap _; rw [e1]; exact ⟨N0, rfl, by rw [ht3]; rfl⟩) (by decide) (by decide)
  · refine G1 (fun _ => XS.ifnullNo X1.here hx rfl (hb hby d8_6) rfl) ?_
    show Goes _ _ _ _ _ _ _ (T1.setTop (mkF m 9 _ []))
    refine G1 (fun _ => XS.iconst X1.here hx rfl (hb hby d8_9)) ?_
    refine G1 (fun _ => XS.goto X1.here hx rfl (pc0 := 10) (pc' := 14) rfl (hb hby d8_10) (by decide) (by decide)) ?_
    show Goes _ _ _ _ _ _ _ (T1.setTop (mkF m 14 _ [(.int (1 : Int32))]))
    exact Goes.ret X1 hx (BodyLoose.notSynchronized Bd) Bd.returns rfl (Or.inl ⟨rfl, by simp, _, rfl⟩) (hb hby d8_14) (by show Q8 Z x0 x1 ka ha va kk kh kw N t hf KA VA sh mo sz h0 n0 (some (.int (1 : Int32))) T1.heap _; rw [e1]; exact ⟨N0, rfl, by rw [ht3]; rfl⟩) (by decide) (by decide)
theorem d9_0 : decode jdk_33_method_22_code 0 = .ok (.iload_n 0, 1) := by decide +kernel
theorem d9_1 : decode jdk_33_method_22_code 1 = .ok (.bipush (-128), 2) := by decide +kernel
theorem d9_3 : decode jdk_33_method_22_code 3 = .ok (.if_icmp .lt 20, 3) := by decide +kernel
theorem d9_6 : decode jdk_33_method_22_code 6 = .ok (.iload_n 0, 1) := by decide +kernel
theorem d9_7 : decode jdk_33_method_22_code 7 = .ok (.getstatic 191, 3) := by decide +kernel
theorem d9_10 : decode jdk_33_method_22_code 10 = .ok (.if_icmp .gt 13, 3) := by decide +kernel
theorem d9_13 : decode jdk_33_method_22_code 13 = .ok (.getstatic 195, 3) := by decide +kernel
theorem d9_16 : decode jdk_33_method_22_code 16 = .ok (.iload_n 0, 1) := by decide +kernel
theorem d9_17 : decode jdk_33_method_22_code 17 = .ok (.sipush 128, 3) := by decide +kernel
theorem d9_20 : decode jdk_33_method_22_code 20 = .ok (.iadd, 1) := by decide +kernel
theorem d9_21 : decode jdk_33_method_22_code 21 = .ok (.aaload, 1) := by decide +kernel
theorem d9_22 : decode jdk_33_method_22_code 22 = .ok (.areturn, 1) := by decide +kernel
theorem pn_9 : plainName "java/lang/Integer" = true := by first | (simp [plainName, overriddenIn]; done) | decide +kernel
theorem ef_9 (m : MethodId) (x0 : Int32) (ca : Addr) (cc : Cell)  : entryFrame m #[(.int x0)] 1 = mkF m 0 #[.val (.int x0)] [] := by first | (simp [entryFrame, mkF, argsToLocals, Value.category]; done) | rfl
def Q9 (Z : State) (x0 : Int32) (ca : Addr) (cc : Cell) (h0 : Heap) (n0 : Nat) (v : Option Value) (h : Heap) (L : List Loc) : Prop := Fr n0 L ∧ Keep h0 h [] ∧ ∃ r : Addr, v = some (.ref r) ∧ Exa Z h r "java/lang/Integer"
set_option maxRecDepth 65536 in
set_option maxHeartbeats 40000000 in
theorem rm9 (l : Launch) (Z : State) (a0 : Array Value) (hw : ∀ d ∈ tables_1, d.before a0 Z = true) (ws : List Jvm.Cond) (x0 : Int32) (ca : Addr) (cc : Cell) (h0 : Heap) (n0 : Nat) (Z0 : n0 ≤ h0.size) (S_high : Sta Z h0 "java/lang/Integer$IntegerCache" "high" "I" (.int (127 : Int32))) (S_cache : Sta Z h0 "java/lang/Integer$IntegerCache" "cache" "[Ljava/lang/Integer;" (.ref ca)) (BX : Bxs Z ca cc "java/lang/Integer" "I" (256 : Int32) (fun j => .int (j - (128 : Int32)))) (X00 : Old Z n0 h0) (hlo : ¬ (x0 < (-128 : Int32))) (hhi : ¬ ((127 : Int32) < x0)) :
    MetFree l (⟨"java/lang/Integer", "valueOf", "(I)Ljava/lang/Integer;"⟩ : MethodName) (head1 (Jvm.Cond.code (⟨"java/lang/Integer", "valueOf", "(I)Ljava/lang/Integer;"⟩ : MethodName) jdk_33_method_22_code 1 (some (.object "java/lang/Integer")) :: ws) ({ frames := 0, cells := 0, slots := 0, locals := 0 } : Room)) (fun a U => a = #[(.int x0)] ∧ Z.Warmed39 U.vm ∧ U.heap = h0) (fun _ _ _ _ _ => True) (fun _ U o U' => ∃ v L, o = .returned v ∧ Q9 Z x0 ca cc h0 n0 v U'.heap L ∧ FrameEnd U o U' L ({ frames := 0, cells := 0, slots := 0, locals := 0 } : Room).cells ({ frames := 0, cells := 0, slots := 0, locals := 0 } : Room).slots) := by
  refine MetFree.of_bodySF (plainFor_of_name pn_9) hisR ?_
  intro p e s m args below meth c s₁ Bd hml0 hP hK
  obtain ⟨rfl, hZ, hh⟩ := hP
  have w_55 := own_at hw 55 rfl
  have w_57 := own_at hw 57 rfl
  have hx := Bd.exec
  have hby := Bd.bytes
  have hml : c.maxLocals = 1 := hml0
  have hown : s.vm.findClass "java/lang/Integer" = some m.cls := findClass_of_methodNamed Bd.named
  have hnm := (name_of_methodNamed Bd.named Bd.method).1
  have X0 : Stand p l e ({ frames := 0, cells := 0, slots := 0, locals := 0 } : Room) s m #[(.int x0)] below meth c s₁ [] 0 0 := Stand.of_body Bd
  have e0 : s₁.heap = h0 := by rw [← hh, Bd.state]; rfl
  have N0 := Fr.nil n0
  have K0 : Keep h0 h0 [] := Keep.refl h0 _
  refine (?_ : Goes p e below s ({ frames := 0, cells := 0, slots := 0, locals := 0 } : Room).cells ({ frames := 0, cells := 0, slots := 0, locals := 0 } : Room).slots (fun v h L => Q9 Z x0 ca cc h0 n0 v h L) (s₁.setTop (entryFrame m #[(.int x0)] 1)))
  rw [ef_9 m x0 ca cc ]
  show Goes _ _ _ _ _ _ _ (s₁.setTop (mkF m 0 #[.val (.int x0)] []))
  refine G1 (fun _ => XS.iloadN X0.here hx rfl (hb hby d9_0) rfl ) ?_
  refine G1 (fun _ => XS.bipush X0.here hx rfl (hb hby d9_1)) ?_
  refine G1 (fun _ => XS.icmpNo X0.here hx rfl (hb hby d9_3) rfl (flt hlo).1) ?_
  show Goes _ _ _ _ _ _ _ (s₁.setTop (mkF m 6 _ []))
  refine G1 (fun _ => XS.iloadN X0.here hx rfl (hb hby d9_6) rfl ) ?_
  obtain ⟨T1, X1, e1, st1⟩ := getS2 X0 hx hZ hown (host := "") (Or.inl w_55) Via.refl e0 S_high (g := (mkF m 7 #[.val (.int x0)] [(.int x0)])) rfl (hb hby d9_7)
  refine G1 st1 ?_
  show Goes _ _ _ _ _ _ _ (T1.setTop (mkF m 10 _ [(.int (127 : Int32)), (.int x0)]))
  refine G1 (fun _ => XS.icmpNo X1.here hx rfl (hb hby d9_10) rfl (flt hhi).2.2.1) ?_
  show Goes _ _ _ _ _ _ _ (T1.setTop (mkF m 13 _ []))
  obtain ⟨T2, X2, e2, st2⟩ := getS2 X1 hx hZ hown (host := "") (Or.inl w_57) Via.refl e1 S_cache (g := (mkF m 13 #[.val (.int x0)] [])) rfl (hb hby d9_13)
  refine G1 st2 ?_
  show Goes _ _ _ _ _ _ _ (T2.setTop (mkF m 16 _ [(.ref ca)]))
  refine G1 (fun _ => XS.iloadN X2.here hx rfl (hb hby d9_16) rfl ) ?_
  refine G1 (fun _ => XS.sipush X2.here hx rfl (hb hby d9_17)) ?_
  refine G1 (fun _ => XS.iadd X2.here hx rfl (hb hby d9_20) rfl) ?_
  show Goes _ _ _ _ _ _ _ (T2.setTop (mkF m 21 _ [(.int (x0 + (128 : Int32))), (.ref ca)]))
  have Ar3 := (BX.ext X00.2).1
  have hin3 : ¬ ((x0 + (128 : Int32)) < 0 ∨ cc.slots.size ≤ ((x0 + (128 : Int32))).toNatClampNeg) := inb_of BX.2.1 (own_cacheIn hlo hhi)
  obtain ⟨rb, hat3, exb, fb⟩ := BX.2.2.2 _ hin3
  have exb2 := exb.ext X00.2
  have fb2 : Fld Z h0 rb "java/lang/Integer" "value" "I" (.int x0) := by have q : Fld Z h0 rb "java/lang/Integer" "value" "I" (.int (x0 + (128 : Int32) - (128 : Int32))) := fb.ext X00.2; rw [own_c128] at q; exact q
  refine G1 (fun _ => X2.aaload hx (j := (x0 + (128 : Int32))) (v := (.ref rb)) (by rw [e2]; exact Ar3.1) (State.isArrayOf_alike hZ.alike Ar3.2.1) rfl Ar3.2.2 hin3 hat3 (g := (mkF m 21 #[.val (.int x0)] [(.int (x0 + (128 : Int32))), (.ref ca)])) rfl rfl (hb hby d9_21) _) ?_
  show Goes _ _ _ _ _ _ _ (T2.setTop (mkF m 22 _ [(.ref rb)]))
  exact Goes.ret X2 hx (BodyLoose.notSynchronized Bd) Bd.returns rfl (Or.inr (Or.inr (Or.inr (Or.inr ⟨rfl, rfl, rfl⟩)))) (hb hby d9_22) (by show Q9 Z x0 ca cc h0 n0 (some (.ref rb)) T2.heap _; rw [e2]; exact ⟨N0, K0, rb, rfl, exb2⟩) (by decide) (by decide)
theorem d10_0 : decode prog_31_method_7_code 0 = .ok (.aload_n 0, 1) := by decide +kernel
theorem d10_1 : decode prog_31_method_7_code 1 = .ok (.getfield 56, 3) := by decide +kernel
theorem d10_4 : decode prog_31_method_7_code 4 = .ok (.aload_n 0, 1) := by decide +kernel
theorem d10_5 : decode prog_31_method_7_code 5 = .ok (.getfield 19, 3) := by decide +kernel
theorem d10_8 : decode prog_31_method_7_code 8 = .ok (.if_icmp .ne 24, 3) := by decide +kernel
theorem d10_32 : decode prog_31_method_7_code 32 = .ok (.aload_n 0, 1) := by decide +kernel
theorem d10_33 : decode prog_31_method_7_code 33 = .ok (.iload_n 1, 1) := by decide +kernel
theorem d10_34 : decode prog_31_method_7_code 34 = .ok (.invokevirtual 46, 3) := by decide +kernel
theorem d10_37 : decode prog_31_method_7_code 37 = .ok (.istore 4, 2) := by decide +kernel
theorem d10_39 : decode prog_31_method_7_code 39 = .ok (.aload_n 0, 1) := by decide +kernel
theorem d10_40 : decode prog_31_method_7_code 40 = .ok (.getfield 29, 3) := by decide +kernel
theorem d10_43 : decode prog_31_method_7_code 43 = .ok (.iload 4, 2) := by decide +kernel
theorem d10_45 : decode prog_31_method_7_code 45 = .ok (.aaload, 1) := by decide +kernel
theorem d10_46 : decode prog_31_method_7_code 46 = .ok (.ifnull 14, 3) := by decide +kernel
theorem d10_49 : decode prog_31_method_7_code 49 = .ok (.aload_n 0, 1) := by decide +kernel
theorem d10_50 : decode prog_31_method_7_code 50 = .ok (.iload 4, 2) := by decide +kernel
theorem d10_52 : decode prog_31_method_7_code 52 = .ok (.invokevirtual 53, 3) := by decide +kernel
theorem d10_55 : decode prog_31_method_7_code 55 = .ok (.istore 4, 2) := by decide +kernel
theorem d10_57 : decode prog_31_method_7_code 57 = .ok (.goto (-18), 3) := by decide +kernel
theorem d10_60 : decode prog_31_method_7_code 60 = .ok (.aload_n 0, 1) := by decide +kernel
theorem d10_61 : decode prog_31_method_7_code 61 = .ok (.getfield 29, 3) := by decide +kernel
theorem d10_64 : decode prog_31_method_7_code 64 = .ok (.iload 4, 2) := by decide +kernel
theorem d10_66 : decode prog_31_method_7_code 66 = .ok (.aload_n 2, 1) := by decide +kernel
theorem d10_67 : decode prog_31_method_7_code 67 = .ok (.aastore, 1) := by decide +kernel
theorem d10_68 : decode prog_31_method_7_code 68 = .ok (.aload_n 0, 1) := by decide +kernel
theorem d10_69 : decode prog_31_method_7_code 69 = .ok (.getfield 33, 3) := by decide +kernel
theorem d10_72 : decode prog_31_method_7_code 72 = .ok (.iload 4, 2) := by decide +kernel
theorem d10_74 : decode prog_31_method_7_code 74 = .ok (.iload_n 1, 1) := by decide +kernel
theorem d10_75 : decode prog_31_method_7_code 75 = .ok (.iastore, 1) := by decide +kernel
theorem d10_76 : decode prog_31_method_7_code 76 = .ok (.aload_n 0, 1) := by decide +kernel
theorem d10_77 : decode prog_31_method_7_code 77 = .ok (.getfield 37, 3) := by decide +kernel
theorem d10_80 : decode prog_31_method_7_code 80 = .ok (.iload 4, 2) := by decide +kernel
theorem d10_82 : decode prog_31_method_7_code 82 = .ok (.aload_n 3, 1) := by decide +kernel
theorem d10_83 : decode prog_31_method_7_code 83 = .ok (.aastore, 1) := by decide +kernel
theorem d10_84 : decode prog_31_method_7_code 84 = .ok (.aload_n 0, 1) := by decide +kernel
theorem d10_85 : decode prog_31_method_7_code 85 = .ok (.dup, 1) := by decide +kernel
theorem d10_86 : decode prog_31_method_7_code 86 = .ok (.getfield 56, 3) := by decide +kernel
theorem d10_89 : decode prog_31_method_7_code 89 = .ok (.iconst 1, 1) := by decide +kernel
theorem d10_90 : decode prog_31_method_7_code 90 = .ok (.iadd, 1) := by decide +kernel
theorem d10_91 : decode prog_31_method_7_code 91 = .ok (.putfield 56, 3) := by decide +kernel
theorem d10_94 : decode prog_31_method_7_code 94 = .ok (.aload_n 3, 1) := by decide +kernel
theorem d10_95 : decode prog_31_method_7_code 95 = .ok (.areturn, 1) := by decide +kernel
theorem pn_10 : plainName "com/example/nehaba/nehaba/input/KeptValues" = true := by first | (simp [plainName, overriddenIn]; done) | decide +kernel
theorem ef_10_n (m : MethodId) (x0 : Addr) (x1 : Int32) (x2 : Addr) (x3 : Addr) (ka : Addr) (ha : Addr) (va : Addr) (kk : ClassId) (kh : ClassId) (kw : ClassId) (N : Nat) (t : Nat → Option Nat) (hf : Nat → Int32) (KA : Nat → Addr) (VA : Nat → Addr) (sh : Int32) (mo : Int32) (sz : Int32) (i0 : Nat) (kf : Nat) (q : Nat)  : entryFrame m #[(.ref x0), (.int x1), (.ref x2), (.ref x3)] 5 = mkF m 0 #[.val (.ref x0), .val (.int x1), .val (.ref x2), .val (.ref x3), .unset] [] := by first | (simp [entryFrame, mkF, argsToLocals, Value.category]; done) | rfl
def Q10_n (Z : State) (x0 : Addr) (x1 : Int32) (x2 : Addr) (x3 : Addr) (ka : Addr) (ha : Addr) (va : Addr) (kk : ClassId) (kh : ClassId) (kw : ClassId) (N : Nat) (t : Nat → Option Nat) (hf : Nat → Int32) (KA : Nat → Addr) (VA : Nat → Addr) (sh : Int32) (mo : Int32) (sz : Int32) (i0 : Nat) (kf : Nat) (q : Nat) (h0 : Heap) (n0 : Nat) (v : Option Value) (h : Heap) (L : List Loc) : Prop := Fr n0 L ∧ Keep h0 h [x0, ka, ha, va] ∧ v = some (.ref x3) ∧ Exa Z h x0 "com/example/nehaba/nehaba/input/KeptValues" ∧ Fld Z h x0 "com/example/nehaba/nehaba/input/KeptValues" "keys" "[Ljava/lang/Object;" (.ref ka) ∧ Fld Z h x0 "com/example/nehaba/nehaba/input/KeptValues" "hashes" "[I" (.ref ha) ∧ Fld Z h x0 "com/example/nehaba/nehaba/input/KeptValues" "values" "[Ljava/lang/Object;" (.ref va) ∧ Fld Z h x0 "com/example/nehaba/nehaba/input/KeptValues" "most" "I" (.int mo) ∧ Fld Z h x0 "com/example/nehaba/nehaba/input/KeptValues" "size" "I" (.int (sz + (1 : Int32))) ∧ Fld Z h x0 "com/example/nehaba/nehaba/input/KeptValues" "shift" "I" (.int sh) ∧ ArF Z h ka kk (.object "java/lang/Object") N (fun j => rfv KA ((own_put t q i0) j)) ∧ ArF Z h ha kh .int N (fun j => .int (own_hp hf q x1 j)) ∧ ArF Z h va kw (.object "java/lang/Object") N (fun j => rfv VA ((own_put t q i0) j))
set_option maxRecDepth 65536 in
set_option maxHeartbeats 40000000 in
theorem rm10_n (l : Launch) (Z : State) (a0 : Array Value) (hw : ∀ d ∈ tables_1, d.before a0 Z = true) (ws : List Jvm.Cond) (x0 : Addr) (x1 : Int32) (x2 : Addr) (x3 : Addr) (ka : Addr) (ha : Addr) (va : Addr) (kk : ClassId) (kh : ClassId) (kw : ClassId) (N : Nat) (t : Nat → Option Nat) (hf : Nat → Int32) (KA : Nat → Addr) (VA : Nat → Addr) (sh : Int32) (mo : Int32) (sz : Int32) (i0 : Nat) (kf : Nat) (q : Nat) (h0 : Heap) (n0 : Nat) (Z0 : n0 ≤ h0.size) (E0 : Exa Z h0 x0 "com/example/nehaba/nehaba/input/KeptValues") (Fk : Fld Z h0 x0 "com/example/nehaba/nehaba/input/KeptValues" "keys" "[Ljava/lang/Object;" (.ref ka)) (Fh : Fld Z h0 x0 "com/example/nehaba/nehaba/input/KeptValues" "hashes" "[I" (.ref ha)) (Fv : Fld Z h0 x0 "com/example/nehaba/nehaba/input/KeptValues" "values" "[Ljava/lang/Object;" (.ref va)) (Fm : Fld Z h0 x0 "com/example/nehaba/nehaba/input/KeptValues" "most" "I" (.int mo)) (Fz : Fld Z h0 x0 "com/example/nehaba/nehaba/input/KeptValues" "size" "I" (.int sz)) (Fs : Fld Z h0 x0 "com/example/nehaba/nehaba/input/KeptValues" "shift" "I" (.int sh)) (Ak : ArF Z h0 ka kk (.object "java/lang/Object") N (fun j => rfv KA (t j))) (Ah : ArF Z h0 ha kh .int N (fun j => .int (hf j))) (Av : ArF Z h0 va kw (.object "java/lang/Object") N (fun j => rfv VA (t j))) (Ok : Ovr Z kk "java/lang/Object") (Ow : Ovr Z kw "java/lang/Object") (I2 : Ins Z h0 x2 "java/lang/Object" true) (I3 : Ins Z h0 x3 "java/lang/Object" true) (hka : KA i0 = x2) (hva : VA i0 = x3) (g_x0 : n0 ≤ x0) (g_ka : n0 ≤ ka) (g_ha : n0 ≤ ha) (g_va : n0 ≤ va) (ne_ka_x0 : ka ≠ x0) (ne_ha_x0 : ha ≠ x0) (ne_ha_ka : ha ≠ ka) (ne_va_x0 : va ≠ x0) (ne_va_ka : va ≠ ka) (ne_va_ha : va ≠ ha) (hfull : ¬ sz = mo) (hN : N = 2 ∨ N = 4 ∨ N = 8) (hS : (N = 2 ∧ sh = 31) ∨ (N = 4 ∧ sh = 30) ∨ (N = 8 ∧ sh = 29)) (hp : probeP t N kf (own_f x1 sh).toNatClampNeg = some q) :
    MetFree l (⟨"com/example/nehaba/nehaba/input/KeptValues", "put", "(ILjava/lang/Object;Ljava/lang/Object;)Ljava/lang/Object;"⟩ : MethodName) (head1 (Jvm.Cond.code (⟨"com/example/nehaba/nehaba/input/KeptValues", "put", "(ILjava/lang/Object;Ljava/lang/Object;)Ljava/lang/Object;"⟩ : MethodName) prog_31_method_7_code 5 (some (.object "java/lang/Object")) :: ws) ({ frames := 1, cells := 0, slots := 0, locals := 13 } : Room)) (fun a U => a = #[(.ref x0), (.int x1), (.ref x2), (.ref x3)] ∧ Z.Warmed39 U.vm ∧ U.heap = h0) (fun _ _ _ _ _ => True) (fun _ U o U' => ∃ v L, o = .returned v ∧ Q10_n Z x0 x1 x2 x3 ka ha va kk kh kw N t hf KA VA sh mo sz i0 kf q h0 n0 v U'.heap L ∧ FrameEnd U o U' L ({ frames := 1, cells := 0, slots := 0, locals := 13 } : Room).cells ({ frames := 1, cells := 0, slots := 0, locals := 13 } : Room).slots) := by
  refine MetFree.of_bodySF (plainFor_of_name pn_10) hisR ?_
  intro p e s m args below meth c s₁ Bd hml0 hP hK
  obtain ⟨rfl, hZ, hh⟩ := hP
  have w_2 := own_at hw 2 rfl
  have w_3 := own_at hw 3 rfl
  have w_11 := own_at hw 11 rfl
  have w_12 := own_at hw 12 rfl
  have w_24 := own_at hw 24 rfl
  have w_25 := own_at hw 25 rfl
  have w_26 := own_at hw 26 rfl
  have w_27 := own_at hw 27 rfl
  have w_28 := own_at hw 28 rfl
  have w_29 := own_at hw 29 rfl
  have w_32 := own_at hw 32 rfl
  have w_36 := own_at hw 36 rfl
  have w_38 := own_at hw 38 rfl
  have w_39 := own_at hw 39 rfl
  have w_40 := own_at hw 40 rfl
  have w_41 := own_at hw 41 rfl
  have w_63 := own_at hw 63 rfl
  have w_64 := own_at hw 64 rfl
  have w_70 := own_at hw 70 rfl
  have w_71 := own_at hw 71 rfl
  have w_72 := own_at hw 72 rfl
  have w_73 := own_at hw 73 rfl
  have hx := Bd.exec
  have hby := Bd.bytes
  have hml : c.maxLocals = 5 := hml0
  have hown : s.vm.findClass "com/example/nehaba/nehaba/input/KeptValues" = some m.cls := findClass_of_methodNamed Bd.named
  have hnm := (name_of_methodNamed Bd.named Bd.method).1
  have X0 : Stand p l e ({ frames := 1, cells := 0, slots := 0, locals := 13 } : Room) s m #[(.ref x0), (.int x1), (.ref x2), (.ref x3)] below meth c s₁ [] 0 0 := Stand.of_body Bd
  have e0 : s₁.heap = h0 := by rw [← hh, Bd.state]; rfl
  have N0 := Fr.nil n0
  have K0 : Keep h0 h0 [x0, ka, ha, va] := Keep.refl h0 _
  refine (?_ : Goes p e below s ({ frames := 1, cells := 0, slots := 0, locals := 13 } : Room).cells ({ frames := 1, cells := 0, slots := 0, locals := 13 } : Room).slots (fun v h L => Q10_n Z x0 x1 x2 x3 ka ha va kk kh kw N t hf KA VA sh mo sz i0 kf q h0 n0 v h L) (s₁.setTop (entryFrame m #[(.ref x0), (.int x1), (.ref x2), (.ref x3)] 5)))
  rw [ef_10_n m x0 x1 x2 x3 ka ha va kk kh kw N t hf KA VA sh mo sz i0 kf q ]
  show Goes _ _ _ _ _ _ _ (s₁.setTop (mkF m 0 #[.val (.ref x0), .val (.int x1), .val (.ref x2), .val (.ref x3), .unset] []))
  refine G1 (fun _ => XS.aloadN X0.here hx rfl (hb hby d10_0) rfl rfl) ?_
  obtain ⟨T1, X1, e1, st1⟩ := getF X0 hx hZ hown (host := "") (Or.inl w_63) Via.refl e0 Fz (g := (mkF m 1 #[.val (.ref x0), .val (.int x1), .val (.ref x2), .val (.ref x3), .unset] [(.ref x0)])) rfl rfl (hb hby d10_1)
  refine G1 st1 ?_
  show Goes _ _ _ _ _ _ _ (T1.setTop (mkF m 4 _ [(.int sz)]))
  refine G1 (fun _ => XS.aloadN X1.here hx rfl (hb hby d10_4) rfl rfl) ?_
  obtain ⟨T2, X2, e2, st2⟩ := getF X1 hx hZ hown (host := "") (Or.inl w_11) Via.refl e1 Fm (g := (mkF m 5 #[.val (.ref x0), .val (.int x1), .val (.ref x2), .val (.ref x3), .unset] [(.ref x0), (.int sz)])) rfl rfl (hb hby d10_5)
  refine G1 st2 ?_
  show Goes _ _ _ _ _ _ _ (T2.setTop (mkF m 8 _ [(.int mo), (.int sz)]))
  refine G1 (fun _ => XS.icmpYes X2.here hx rfl (pc0 := 8) (pc' := 32) rfl (hb hby d10_8) rfl (feq hfull).2 (by decide) (by decide)) ?_
  show Goes _ _ _ _ _ _ _ (T2.setTop (mkF m 32 _ []))
  refine G1 (fun _ => XS.aloadN X2.here hx rfl (hb hby d10_32) rfl rfl) ?_
  refine G1 (fun _ => XS.iloadN X2.here hx rfl (hb hby d10_33) rfl ) ?_
  obtain ⟨cq3, q3, q3'⟩ := E0.cell
  obtain ⟨_, _, ⟨T3, L3, k3, n3⟩, -, X3, ⟨Lc3, hQ3, l3, y3, z3⟩, st3⟩ := X2.privateBack hx (y := mN1) hown (mvT hZ w_38) (mvT hZ w_39) (own_selPriv (mvT hZ w_36) rfl (mvP hZ w_40) (mvT hZ w_39) (by decide)) (Cond.privateMethod_at (mvP hZ w_40 (args := #[]))) (mvT hZ w_41) (by decide) (backOf (W := 0) (rm6 l Z a0 hw [] x0 x1 ka ha va kk kh kw N t hf KA VA sh mo sz h0 n0 Z0 E0 Fk Fh Fv Fm Fz Fs Ak Ah Av) hZ w_41 w_3 (by decide) (by decide)) (g := (mkF m 34 #[.val (.ref x0), .val (.int x1), .val (.ref x2), .val (.ref x3), .unset] [(.int x1), (.ref x0)])) rfl (by rw [hml]; rfl) (Steps.refl _) (a := x0) (by rw [e2]; exact q3) q3' (argsL := [(.int x1)]) (rest := []) (lenOf pd_2 rfl) rfl (by show 2 * 0 + _ ≤ _; exact Nat.le_of_eq rfl) (hb hby d10_34) (fun _ _ => ⟨rfl, e2, (by decide : 0 + 0 ≤ _), (by decide : 0 + 0 ≤ _)⟩)
  dsimp only [Pt.U, Pt.locs, Pt.cells, Pt.slots] at X3 l3 y3 z3 st3 hQ3
  rw [l3, y3, z3] at X3
  obtain ⟨N3, eh3, hv3⟩ := hQ3
  have NA3 := Fr.app N0 N3
  subst hv3
  refine G2 st3 ?_
  show Goes _ _ _ _ _ _ _ (T3.setTop (mkF m 37 _ [(.int (own_f x1 sh))]))
  refine G1 (fun _ => XS.istore X3.here hx rfl (hb hby d10_37) rfl (l' := #[.val (.ref x0), .val (.int x1), .val (.ref x2), .val (.ref x3), .val (.int (own_f x1 sh))]) rfl) ?_
  show Goes _ _ _ _ _ _ _ (T3.setTop (mkF m 39 _ []))
  show Goes _ _ _ _ _ _ _ (T3.setTop (mkF m 39 #[.val (.ref x0), .val (.int x1), .val (.ref x2), .val (.ref x3), .val (.int (own_f x1 sh))] []))
  have loop : ∀ (kf : Nat) (i : Int32) (T : State) (Lf : List Loc) (X : Stand p l e ({ frames := 1, cells := 0, slots := 0, locals := 13 } : Room) s m #[(.ref x0), (.int x1), (.ref x2), (.ref x3)] below meth c T Lf 0 0) (eT : T.heap = h0) (NL : Fr n0 Lf), ¬ i < 0 → i.toNatClampNeg < N → probeP t N kf i.toNatClampNeg = some q → Goes p e below s ({ frames := 1, cells := 0, slots := 0, locals := 13 } : Room).cells ({ frames := 1, cells := 0, slots := 0, locals := 13 } : Room).slots (fun v h L => Q10_n Z x0 x1 x2 x3 ka ha va kk kh kw N t hf KA VA sh mo sz i0 kf q h0 n0 v h L) (T.setTop (mkF m 39 #[.val (.ref x0), .val (.int x1), .val (.ref x2), .val (.ref x3), .val (.int i)] [])) := by
    intro kf
    induction kf with
    | zero => intro i T Lf X eT NL h1 h2 hs; exact absurd hs (by simp [probeP])
    | succ kf ih =>
      intro i T Lf X eT NL h1 h2 hs
      refine G1 (fun _ => XS.aloadN X.here hx rfl (hb hby d10_39) rfl rfl) ?_
      obtain ⟨T4, X4, e4, st4⟩ := getF X hx hZ hown (host := "") (Or.inl w_24) Via.refl eT Fk (g := (mkF m 40 #[.val (.ref x0), .val (.int x1), .val (.ref x2), .val (.ref x3), .val (.int i)] [(.ref x0)])) rfl rfl (hb hby d10_40)
      refine G1 st4 ?_
      show Goes _ _ _ _ _ _ _ (T4.setTop (mkF m 43 _ [(.ref ka)]))
      refine G1 (fun _ => XS.iload X4.here hx rfl (hb hby d10_43) rfl ) ?_
      obtain ⟨cl5, Ar5, q5, S5, H5⟩ := id Ak
      have hin5 := own_arfin S5 h1 h2
      have hat5 : cl5.slots[(i).toNatClampNeg]? = some (rfv KA (t (i).toNatClampNeg)) := H5 _ h2
      refine G1 (fun _ => X4.aaload hx (j := i) (v := (rfv KA (t (i).toNatClampNeg))) (by rw [e4]; exact Ar5.1) (State.isArrayOf_alike hZ.alike Ar5.2.1) rfl Ar5.2.2 hin5 hat5 (g := (mkF m 45 #[.val (.ref x0), .val (.int x1), .val (.ref x2), .val (.ref x3), .val (.int i)] [(.int i), (.ref ka)])) rfl rfl (hb hby d10_45) _) ?_
      show Goes _ _ _ _ _ _ _ (T4.setTop (mkF m 46 _ [(rfv KA (t (i).toNatClampNeg))]))
      rcases ht6 : t (i).toNatClampNeg with _ | j6
      · refine G1 (fun _ => XS.ifnullYes X4.here hx rfl (pc0 := 46) (pc' := 60) rfl (hb hby d10_46) rfl (by decide) (by decide)) ?_
        show Goes _ _ _ _ _ _ _ (T4.setTop (mkF m 60 _ []))
        refine G1 (fun _ => XS.aloadN X4.here hx rfl (hb hby d10_60) rfl rfl) ?_
        obtain ⟨T7, X7, e7, st7⟩ := getF X4 hx hZ hown (host := "") (Or.inl w_24) Via.refl e4 Fk (g := (mkF m 61 #[.val (.ref x0), .val (.int x1), .val (.ref x2), .val (.ref x3), .val (.int i)] [(.ref x0)])) rfl rfl (hb hby d10_61)
        refine G1 st7 ?_
        show Goes _ _ _ _ _ _ _ (T7.setTop (mkF m 64 _ [(.ref ka)]))
        refine G1 (fun _ => XS.iload X7.here hx rfl (hb hby d10_64) rfl ) ?_
        refine G1 (fun _ => XS.aloadN X7.here hx rfl (hb hby d10_66) rfl rfl) ?_
        obtain ⟨cl8, Ar8, q8, S8, H8⟩ := id Ak
        have hin8 := own_arfin S8 h1 h2
        obtain ⟨T9, h9, X9, e9, W9, st9⟩ := stR X7 hx hZ e7 Ar8 (j := i) hin8 rfl (Sto.ofV Ar8 q8 Ok I2) (g := (mkF m 67 #[.val (.ref x0), .val (.int x1), .val (.ref x2), .val (.ref x3), .val (.int i)] [(.ref x2), (.int i), (.ref ka)])) rfl rfl (hb hby d10_67)
        refine G1 st9 ?_
        have V9 := ArF.set Ar8 q8 S8 H8 W9
        have f10 := E0.wr W9
        have f11 := Fk.other W9 (Or.inl (Ne.symm ne_ka_x0))
        have f12 := Fh.other W9 (Or.inl (Ne.symm ne_ka_x0))
        have f13 := Fv.other W9 (Or.inl (Ne.symm ne_ka_x0))
        have f14 := Fm.other W9 (Or.inl (Ne.symm ne_ka_x0))
        have f15 := Fz.other W9 (Or.inl (Ne.symm ne_ka_x0))
        have f16 := Fs.other W9 (Or.inl (Ne.symm ne_ka_x0))
        have f17 := V9
        have f18 := Ah.other W9 ne_ha_ka
        have f19 := Av.other W9 ne_va_ka
        have f20 := I2.wr W9
        have f21 := I3.wr W9
        have K22 : Keep h0 h9 [x0, ka, ha, va] := K0.wr W9 (Or.inl (List.mem_of_getElem? (i := 1) rfl))
        have Z22 : n0 ≤ h9.size := by rw [Wr.size W9]; exact Z0
        have N22 := Fr.snoc X9 NL g_ka
        show Goes _ _ _ _ _ _ _ (T9.setTop (mkF m 68 _ []))
        refine G1 (fun _ => XS.aloadN X9.here hx rfl (hb hby d10_68) rfl rfl) ?_
        obtain ⟨T23, X23, e23, st23⟩ := getF X9 hx hZ hown (host := "") (Or.inl w_26) Via.refl e9 f12 (g := (mkF m 69 #[.val (.ref x0), .val (.int x1), .val (.ref x2), .val (.ref x3), .val (.int i)] [(.ref x0)])) rfl rfl (hb hby d10_69)
        refine G1 st23 ?_
        show Goes _ _ _ _ _ _ _ (T23.setTop (mkF m 72 _ [(.ref ha)]))
        refine G1 (fun _ => XS.iload X23.here hx rfl (hb hby d10_72) rfl ) ?_
        refine G1 (fun _ => XS.iloadN X23.here hx rfl (hb hby d10_74) rfl ) ?_
        obtain ⟨cl24, Ar24, q24, S24, H24⟩ := id f18
        have hin24 := own_arfin S24 h1 h2
        obtain ⟨T25, h25, X25, e25, W25, st25⟩ := stI X23 hx hZ e23 Ar24 (j := i) hin24 (g := (mkF m 75 #[.val (.ref x0), .val (.int x1), .val (.ref x2), .val (.ref x3), .val (.int i)] [(.int x1), (.int i), (.ref ha)])) rfl rfl (hb hby d10_75)
        refine G1 st25 ?_
        have V25 := ArF.set Ar24 q24 S24 H24 W25
        have f26 := f10.wr W25
        have f27 := f11.other W25 (Or.inl (Ne.symm ne_ha_x0))
        have f28 := f12.other W25 (Or.inl (Ne.symm ne_ha_x0))
        have f29 := f13.other W25 (Or.inl (Ne.symm ne_ha_x0))
        have f30 := f14.other W25 (Or.inl (Ne.symm ne_ha_x0))
        have f31 := f15.other W25 (Or.inl (Ne.symm ne_ha_x0))
        have f32 := f16.other W25 (Or.inl (Ne.symm ne_ha_x0))
        have f33 := f17.other W25 (Ne.symm ne_ha_ka)
        have f34 := V25
        have f35 := f19.other W25 ne_va_ha
        have f36 := f20.wr W25
        have f37 := f21.wr W25
        have K38 : Keep h0 h25 [x0, ka, ha, va] := K22.wr W25 (Or.inl (List.mem_of_getElem? (i := 2) rfl))
        have Z38 : n0 ≤ h25.size := by rw [Wr.size W25]; exact Z22
        have N38 := Fr.snoc X25 N22 g_ha
        show Goes _ _ _ _ _ _ _ (T25.setTop (mkF m 76 _ []))
        refine G1 (fun _ => XS.aloadN X25.here hx rfl (hb hby d10_76) rfl rfl) ?_
        obtain ⟨T39, X39, e39, st39⟩ := getF X25 hx hZ hown (host := "") (Or.inl w_28) Via.refl e25 f29 (g := (mkF m 77 #[.val (.ref x0), .val (.int x1), .val (.ref x2), .val (.ref x3), .val (.int i)] [(.ref x0)])) rfl rfl (hb hby d10_77)
        refine G1 st39 ?_
        show Goes _ _ _ _ _ _ _ (T39.setTop (mkF m 80 _ [(.ref va)]))
        refine G1 (fun _ => XS.iload X39.here hx rfl (hb hby d10_80) rfl ) ?_
        refine G1 (fun _ => XS.aloadN X39.here hx rfl (hb hby d10_82) rfl rfl) ?_
        obtain ⟨cl40, Ar40, q40, S40, H40⟩ := id f35
        have hin40 := own_arfin S40 h1 h2
        obtain ⟨T41, h41, X41, e41, W41, st41⟩ := stR X39 hx hZ e39 Ar40 (j := i) hin40 rfl (Sto.ofV Ar40 q40 Ow f37) (g := (mkF m 83 #[.val (.ref x0), .val (.int x1), .val (.ref x2), .val (.ref x3), .val (.int i)] [(.ref x3), (.int i), (.ref va)])) rfl rfl (hb hby d10_83)
        refine G1 st41 ?_
        have V41 := ArF.set Ar40 q40 S40 H40 W41
        have f42 := f26.wr W41
        have f43 := f27.other W41 (Or.inl (Ne.symm ne_va_x0))
        have f44 := f28.other W41 (Or.inl (Ne.symm ne_va_x0))
        have f45 := f29.other W41 (Or.inl (Ne.symm ne_va_x0))
        have f46 := f30.other W41 (Or.inl (Ne.symm ne_va_x0))
        have f47 := f31.other W41 (Or.inl (Ne.symm ne_va_x0))
        have f48 := f32.other W41 (Or.inl (Ne.symm ne_va_x0))
        have f49 := f33.other W41 (Ne.symm ne_va_ka)
        have f50 := f34.other W41 (Ne.symm ne_va_ha)
        have f51 := V41
        have f52 := f36.wr W41
        have f53 := f37.wr W41
        have K54 : Keep h0 h41 [x0, ka, ha, va] := K38.wr W41 (Or.inl (List.mem_of_getElem? (i := 3) rfl))
        have Z54 : n0 ≤ h41.size := by rw [Wr.size W41]; exact Z38
        have N54 := Fr.snoc X41 N38 g_va
        show Goes _ _ _ _ _ _ _ (T41.setTop (mkF m 84 _ []))
        refine G1 (fun _ => XS.aloadN X41.here hx rfl (hb hby d10_84) rfl rfl) ?_
        refine G1 (fun _ => XS.dup X41.here hx rfl (hb hby d10_85) rfl rfl) ?_
        obtain ⟨T55, X55, e55, st55⟩ := getF X41 hx hZ hown (host := "") (Or.inl w_63) Via.refl e41 f47 (g := (mkF m 86 #[.val (.ref x0), .val (.int x1), .val (.ref x2), .val (.ref x3), .val (.int i)] [(.ref x0), (.ref x0)])) rfl rfl (hb hby d10_86)
        refine G1 st55 ?_
        show Goes _ _ _ _ _ _ _ (T55.setTop (mkF m 89 _ [(.int sz), (.ref x0)]))
        refine G1 (fun _ => XS.iconst X55.here hx rfl (hb hby d10_89)) ?_
        refine G1 (fun _ => XS.iadd X55.here hx rfl (hb hby d10_90) rfl) ?_
        show Goes _ _ _ _ _ _ _ (T55.setTop (mkF m 91 _ [(.int (sz + (1 : Int32))), (.ref x0)]))
        obtain ⟨T56, h56, X56, e56, W56, st56⟩ := putF X55 hx hZ hown (host := "") (Or.inl w_63) Via.refl e55 f47 f42 (Or.inl w_64) w_2 (ty := .int) (by decide) rfl rfl (g := (mkF m 91 #[.val (.ref x0), .val (.int x1), .val (.ref x2), .val (.ref x3), .val (.int i)] [(.int (sz + (1 : Int32))), (.ref x0)])) rfl rfl (hb hby d10_91)
        refine G1 st56 ?_
        have f57 := f42.wr W56
        have f58 := f43.other W56 (Or.inr (slot_ne (Or.inr w_25) (Or.inl w_64) (by decide) (t := (.array (.object "java/lang/Object"))) (t' := .int) (by decide) (by decide)))
        have f59 := f44.other W56 (Or.inr (slot_ne (Or.inr w_27) (Or.inl w_64) (by decide) (t := (.array .int)) (t' := .int) (by decide) (by decide)))
        have f60 := f45.other W56 (Or.inr (slot_ne (Or.inr w_29) (Or.inl w_64) (by decide) (t := (.array (.object "java/lang/Object"))) (t' := .int) (by decide) (by decide)))
        have f61 := f46.other W56 (Or.inr (slot_ne (Or.inr w_12) (Or.inl w_64) (by decide) (t := .int) (t' := .int) (by decide) (by decide)))
        have f62 := f47.same W56
        have f63 := f48.other W56 (Or.inr (slot_ne (Or.inr w_32) (Or.inl w_64) (by decide) (t := .int) (t' := .int) (by decide) (by decide)))
        have f64 := f49.other W56 ne_ka_x0
        have f65 := f50.other W56 ne_ha_x0
        have f66 := f51.other W56 ne_va_x0
        have f67 := f52.wr W56
        have f68 := f53.wr W56
        have K69 : Keep h0 h56 [x0, ka, ha, va] := K54.wr W56 (Or.inl (List.mem_of_getElem? (i := 0) rfl))
        have Z69 : n0 ≤ h56.size := by rw [Wr.size W56]; exact Z54
        have N69 := Fr.snoc X56 N54 g_x0
        show Goes _ _ _ _ _ _ _ (T56.setTop (mkF m 94 _ []))
        refine G1 (fun _ => XS.aloadN X56.here hx rfl (hb hby d10_94) rfl rfl) ?_
        exact Goes.ret X56 hx (BodyLoose.notSynchronized Bd) Bd.returns rfl (Or.inr (Or.inr (Or.inr (Or.inr ⟨rfl, rfl, rfl⟩)))) (hb hby d10_95) (by show Q10_n Z x0 x1 x2 x3 ka ha va kk kh kw N t hf KA VA sh mo sz i0 kf q h0 n0 (some (.ref x3)) T56.heap _; rw [e56]; exact ⟨N69, K69, rfl, f57, f58, f59, f60, f61, f62, f63, (f64.congr (own_rfset hka _ (own_probeNone ht6 hs))), (f65.congr (own_hset _ (own_probeNone ht6 hs))), (f66.congr (own_rfset hva _ (own_probeNone ht6 hs)))⟩) (by decide) (by decide)
      · refine G1 (fun _ => XS.ifnullNo X4.here hx rfl (hb hby d10_46) rfl) ?_
        show Goes _ _ _ _ _ _ _ (T4.setTop (mkF m 49 _ []))
        refine G1 (fun _ => XS.aloadN X4.here hx rfl (hb hby d10_49) rfl rfl) ?_
        refine G1 (fun _ => XS.iload X4.here hx rfl (hb hby d10_50) rfl ) ?_
        obtain ⟨cq70, q70, q70'⟩ := E0.cell
        obtain ⟨_, _, ⟨T70, L70, k70, n70⟩, -, X70, ⟨Lc70, hQ70, l70, y70, z70⟩, st70⟩ := X4.privateBack hx (y := mN0) hown (mvT hZ w_70) (mvT hZ w_71) (own_selPriv (mvT hZ w_36) rfl (mvP hZ w_72) (mvT hZ w_71) (by decide)) (Cond.privateMethod_at (mvP hZ w_72 (args := #[]))) (mvT hZ w_73) (by decide) (backOf (W := 0) (rm12 l Z a0 hw [] x0 i ka ha va kk kh kw N t hf KA VA sh mo sz h0 n0 Z0 E0 Fk Fh Fv Fm Fz Fs Ak Ah Av) hZ w_73 w_3 (by decide) (by decide)) (g := (mkF m 52 #[.val (.ref x0), .val (.int x1), .val (.ref x2), .val (.ref x3), .val (.int i)] [(.int i), (.ref x0)])) rfl (by rw [hml]; rfl) (Steps.refl _) (a := x0) (by rw [e4]; exact q70) q70' (argsL := [(.int i)]) (rest := []) (lenOf pd_2 rfl) rfl (by show 2 * 0 + _ ≤ _; exact Nat.le_of_eq rfl) (hb hby d10_52) (fun _ _ => ⟨rfl, e4, (by decide : 0 + 0 ≤ _), (by decide : 0 + 0 ≤ _)⟩)
        dsimp only [Pt.U, Pt.locs, Pt.cells, Pt.slots] at X70 l70 y70 z70 st70 hQ70
        rw [l70, y70, z70] at X70
        obtain ⟨N70, eh70, hv70⟩ := hQ70
        have NA70 := Fr.app NL N70
        subst hv70
        refine G2 st70 ?_
        show Goes _ _ _ _ _ _ _ (T70.setTop (mkF m 55 _ [(.int ((i + (1 : Int32)) &&& ((N).toInt32 - (1 : Int32))))]))
        refine G1 (fun _ => XS.istore X70.here hx rfl (hb hby d10_55) rfl (l' := #[.val (.ref x0), .val (.int x1), .val (.ref x2), .val (.ref x3), .val (.int ((i + (1 : Int32)) &&& ((N).toInt32 - (1 : Int32))))]) rfl) ?_
        show Goes _ _ _ _ _ _ _ (T70.setTop (mkF m 57 _ []))
        refine G1 (fun _ => XS.goto X70.here hx rfl (pc0 := 57) (pc' := 39) rfl (hb hby d10_57) (by decide) (by decide)) ?_
        show Goes _ _ _ _ _ _ _ (T70.setTop (mkF m 39 _ []))
        show Goes _ _ _ _ _ _ _ (T70.setTop (mkF m 39 #[.val (.ref x0), .val (.int x1), .val (.ref x2), .val (.ref x3), .val (.int ((i + (1 : Int32)) &&& ((N).toInt32 - (1 : Int32))))] []))
        exact ih _ _ _ X70 eh70 NA70 (own_after hN h1 h2).1 (own_afterLt hN h1 h2) (by rw [(own_after hN h1 h2).2]; exact own_probeGo ht6 hs)
  exact loop kf _ _ _ X3 eh3 NA3 (own_first x1 hS).1 (own_first x1 hS).2 hp
theorem d11_0 : decode jdk_65_method_117_code 0 = .ok (.iconst 0, 1) := by decide +kernel
theorem d11_1 : decode jdk_65_method_117_code 1 = .ok (.istore_n 2, 1) := by decide +kernel
theorem d11_2 : decode jdk_65_method_117_code 2 = .ok (.aload_n 0, 1) := by decide +kernel
theorem d11_3 : decode jdk_65_method_117_code 3 = .ok (.arraylength, 1) := by decide +kernel
theorem d11_4 : decode jdk_65_method_117_code 4 = .ok (.istore_n 3, 1) := by decide +kernel
theorem d11_5 : decode jdk_65_method_117_code 5 = .ok (.iload_n 2, 1) := by decide +kernel
theorem d11_6 : decode jdk_65_method_117_code 6 = .ok (.iload_n 3, 1) := by decide +kernel
theorem d11_7 : decode jdk_65_method_117_code 7 = .ok (.if_icmp .ge 13, 3) := by decide +kernel
theorem d11_10 : decode jdk_65_method_117_code 10 = .ok (.aload_n 0, 1) := by decide +kernel
theorem d11_11 : decode jdk_65_method_117_code 11 = .ok (.iload_n 2, 1) := by decide +kernel
theorem d11_12 : decode jdk_65_method_117_code 12 = .ok (.aload_n 1, 1) := by decide +kernel
theorem d11_13 : decode jdk_65_method_117_code 13 = .ok (.aastore, 1) := by decide +kernel
theorem d11_14 : decode jdk_65_method_117_code 14 = .ok (.iinc 2 1, 3) := by decide +kernel
theorem d11_17 : decode jdk_65_method_117_code 17 = .ok (.goto (-12), 3) := by decide +kernel
theorem d11_20 : decode jdk_65_method_117_code 20 = .ok (.return_, 1) := by decide +kernel
theorem pn_11 : plainName "java/util/Arrays" = true := by first | (simp [plainName, overriddenIn]; done) | decide +kernel
theorem ef_11_2 (m : MethodId) (x0 : Addr) (kx : ClassId) (ff : Nat → Value)  : entryFrame m #[(.ref x0), .null] 4 = mkF m 0 #[.val (.ref x0), .val .null, .unset, .unset] [] := by first | (simp [entryFrame, mkF, argsToLocals, Value.category]; done) | rfl
def Q11_2 (Z : State) (x0 : Addr) (kx : ClassId) (ff : Nat → Value) (h0 : Heap) (n0 : Nat) (v : Option Value) (h : Heap) (L : List Loc) : Prop := Fr n0 L ∧ Keep h0 h [x0] ∧ v = none ∧ ArF Z h x0 kx (.object "java/lang/Object") 2 (fun _ => .null)
set_option maxRecDepth 65536 in
set_option maxHeartbeats 40000000 in
theorem rm11_2 (l : Launch) (Z : State) (a0 : Array Value) (hw : ∀ d ∈ tables_1, d.before a0 Z = true) (ws : List Jvm.Cond) (x0 : Addr) (kx : ClassId) (ff : Nat → Value) (h0 : Heap) (n0 : Nat) (Z0 : n0 ≤ h0.size) (A0 : ArF Z h0 x0 kx (.object "java/lang/Object") 2 ff) (g_x0 : n0 ≤ x0) :
    MetFree l (⟨"java/util/Arrays", "fill", "([Ljava/lang/Object;Ljava/lang/Object;)V"⟩ : MethodName) (head1 (Jvm.Cond.code (⟨"java/util/Arrays", "fill", "([Ljava/lang/Object;Ljava/lang/Object;)V"⟩ : MethodName) jdk_65_method_117_code 4 none :: ws) ({ frames := 0, cells := 0, slots := 0, locals := 0 } : Room)) (fun a U => a = #[(.ref x0), .null] ∧ Z.Warmed39 U.vm ∧ U.heap = h0) (fun _ _ _ _ _ => True) (fun _ U o U' => ∃ v L, o = .returned v ∧ Q11_2 Z x0 kx ff h0 n0 v U'.heap L ∧ FrameEnd U o U' L ({ frames := 0, cells := 0, slots := 0, locals := 0 } : Room).cells ({ frames := 0, cells := 0, slots := 0, locals := 0 } : Room).slots) := by
  refine MetFree.of_bodySF (plainFor_of_name pn_11) hisR ?_
  intro p e s m args below meth c s₁ Bd hml0 hP hK
  obtain ⟨rfl, hZ, hh⟩ := hP
  have hx := Bd.exec
  have hby := Bd.bytes
  have hml : c.maxLocals = 4 := hml0
  have hown : s.vm.findClass "java/util/Arrays" = some m.cls := findClass_of_methodNamed Bd.named
  have hnm := (name_of_methodNamed Bd.named Bd.method).1
  have X0 : Stand p l e ({ frames := 0, cells := 0, slots := 0, locals := 0 } : Room) s m #[(.ref x0), .null] below meth c s₁ [] 0 0 := Stand.of_body Bd
  have e0 : s₁.heap = h0 := by rw [← hh, Bd.state]; rfl
  have N0 := Fr.nil n0
  have K0 : Keep h0 h0 [x0] := Keep.refl h0 _
  refine (?_ : Goes p e below s ({ frames := 0, cells := 0, slots := 0, locals := 0 } : Room).cells ({ frames := 0, cells := 0, slots := 0, locals := 0 } : Room).slots (fun v h L => Q11_2 Z x0 kx ff h0 n0 v h L) (s₁.setTop (entryFrame m #[(.ref x0), .null] 4)))
  rw [ef_11_2 m x0 kx ff ]
  show Goes _ _ _ _ _ _ _ (s₁.setTop (mkF m 0 #[.val (.ref x0), .val .null, .unset, .unset] []))
  refine G1 (fun _ => XS.iconst X0.here hx rfl (hb hby d11_0)) ?_
  refine G1 (fun _ => XS.istoreN X0.here hx rfl (hb hby d11_1) rfl (l' := #[.val (.ref x0), .val .null, .val (.int (0 : Int32)), .unset]) rfl) ?_
  show Goes _ _ _ _ _ _ _ (s₁.setTop (mkF m 2 _ []))
  refine G1 (fun _ => XS.aloadN X0.here hx rfl (hb hby d11_2) rfl rfl) ?_
  obtain ⟨cl1, Ar1, q1, S1, H1⟩ := id A0
  refine G1 (fun _ => X0.arraylength hx (by rw [e0]; exact Ar1.1) (State.isArrayOf_alike hZ.alike Ar1.2.1) (g := (mkF m 3 #[.val (.ref x0), .val .null, .val (.int (0 : Int32)), .unset] [(.ref x0)])) rfl rfl (hb hby d11_3) _) ?_
  rw [S1]
  show Goes _ _ _ _ _ _ _ (s₁.setTop (mkF m 4 _ [(.int (2 : Int32))]))
  refine G1 (fun _ => XS.istoreN X0.here hx rfl (hb hby d11_4) rfl (l' := #[.val (.ref x0), .val .null, .val (.int (0 : Int32)), .val (.int (2 : Int32))]) rfl) ?_
  show Goes _ _ _ _ _ _ _ (s₁.setTop (mkF m 5 _ []))
  refine G1 (fun _ => XS.iloadN X0.here hx rfl (hb hby d11_5) rfl ) ?_
  refine G1 (fun _ => XS.iloadN X0.here hx rfl (hb hby d11_6) rfl ) ?_
  refine G1 (fun _ => XS.icmpNo X0.here hx rfl (hb hby d11_7) rfl (tlt (by decide : (0 : Int32) < (2 : Int32))).2.1) ?_
  show Goes _ _ _ _ _ _ _ (s₁.setTop (mkF m 10 _ []))
  refine G1 (fun _ => XS.aloadN X0.here hx rfl (hb hby d11_10) rfl rfl) ?_
  refine G1 (fun _ => XS.iloadN X0.here hx rfl (hb hby d11_11) rfl ) ?_
  refine G1 (fun _ => XS.aloadN X0.here hx rfl (hb hby d11_12) rfl rfl) ?_
  obtain ⟨cl2, Ar2, q2, S2, H2⟩ := id A0
  have hin2 := own_arfin S2 (by decide : ¬ (0 : Int32) < 0) (by decide : ((0 : Int32)).toNatClampNeg < 2)
  obtain ⟨T3, h3, X3, e3, W3, st3⟩ := stR X0 hx hZ e0 Ar2 (j := (0 : Int32)) hin2 rfl (Or.inl rfl) (g := (mkF m 13 #[.val (.ref x0), .val .null, .val (.int (0 : Int32)), .val (.int (2 : Int32))] [.null, (.int (0 : Int32)), (.ref x0)])) rfl rfl (hb hby d11_13)
  refine G1 st3 ?_
  have V3 := ArF.set Ar2 q2 S2 H2 W3
  have f4 := V3
  have K5 : Keep h0 h3 [x0] := K0.wr W3 (Or.inl (List.mem_of_getElem? (i := 0) rfl))
  have Z5 : n0 ≤ h3.size := by rw [Wr.size W3]; exact Z0
  have N5 := Fr.snoc X3 N0 g_x0
  show Goes _ _ _ _ _ _ _ (T3.setTop (mkF m 14 _ []))
  refine G1 (fun _ => XS.iinc X3.here hx rfl (hb hby d11_14) rfl (l' := #[.val (.ref x0), .val .null, .val (.int (1 : Int32)), .val (.int (2 : Int32))]) rfl) ?_
  show Goes _ _ _ _ _ _ _ (T3.setTop (mkF m 17 _ []))
  refine G1 (fun _ => XS.goto X3.here hx rfl (pc0 := 17) (pc' := 5) rfl (hb hby d11_17) (by decide) (by decide)) ?_
  show Goes _ _ _ _ _ _ _ (T3.setTop (mkF m 5 _ []))
  refine G1 (fun _ => XS.iloadN X3.here hx rfl (hb hby d11_5) rfl ) ?_
  refine G1 (fun _ => XS.iloadN X3.here hx rfl (hb hby d11_6) rfl ) ?_
  refine G1 (fun _ => XS.icmpNo X3.here hx rfl (hb hby d11_7) rfl (tlt (by decide : (1 : Int32) < (2 : Int32))).2.1) ?_
  show Goes _ _ _ _ _ _ _ (T3.setTop (mkF m 10 _ []))
  refine G1 (fun _ => XS.aloadN X3.here hx rfl (hb hby d11_10) rfl rfl) ?_
  refine G1 (fun _ => XS.iloadN X3.here hx rfl (hb hby d11_11) rfl ) ?_
  refine G1 (fun _ => XS.aloadN X3.here hx rfl (hb hby d11_12) rfl rfl) ?_
  obtain ⟨cl6, Ar6, q6, S6, H6⟩ := id f4
  have hin6 := own_arfin S6 (by decide : ¬ (1 : Int32) < 0) (by decide : ((1 : Int32)).toNatClampNeg < 2)
  obtain ⟨T7, h7, X7, e7, W7, st7⟩ := stR X3 hx hZ e3 Ar6 (j := (1 : Int32)) hin6 rfl (Or.inl rfl) (g := (mkF m 13 #[.val (.ref x0), .val .null, .val (.int (1 : Int32)), .val (.int (2 : Int32))] [.null, (.int (1 : Int32)), (.ref x0)])) rfl rfl (hb hby d11_13)
  refine G1 st7 ?_
  have V7 := ArF.set Ar6 q6 S6 H6 W7
  have f8 := V7
  have K9 : Keep h0 h7 [x0] := K5.wr W7 (Or.inl (List.mem_of_getElem? (i := 0) rfl))
  have Z9 : n0 ≤ h7.size := by rw [Wr.size W7]; exact Z5
  have N9 := Fr.snoc X7 N5 g_x0
  show Goes _ _ _ _ _ _ _ (T7.setTop (mkF m 14 _ []))
  refine G1 (fun _ => XS.iinc X7.here hx rfl (hb hby d11_14) rfl (l' := #[.val (.ref x0), .val .null, .val (.int (2 : Int32)), .val (.int (2 : Int32))]) rfl) ?_
  show Goes _ _ _ _ _ _ _ (T7.setTop (mkF m 17 _ []))
  refine G1 (fun _ => XS.goto X7.here hx rfl (pc0 := 17) (pc' := 5) rfl (hb hby d11_17) (by decide) (by decide)) ?_
  show Goes _ _ _ _ _ _ _ (T7.setTop (mkF m 5 _ []))
  refine G1 (fun _ => XS.iloadN X7.here hx rfl (hb hby d11_5) rfl ) ?_
  refine G1 (fun _ => XS.iloadN X7.here hx rfl (hb hby d11_6) rfl ) ?_
  refine G1 (fun _ => XS.icmpYes X7.here hx rfl (pc0 := 7) (pc' := 20) rfl (hb hby d11_7) rfl (flt (by decide : ¬ ((2 : Int32) < (2 : Int32)))).2.1 (by decide) (by decide)) ?_
  show Goes _ _ _ _ _ _ _ (T7.setTop (mkF m 20 _ []))
  exact Goes.retV X7 hx (BodyLoose.notSynchronized Bd) Bd.returns (hb hby d11_20) (by show Q11_2 Z x0 kx ff h0 n0 none T7.heap _; rw [e7]; exact ⟨N9, K9, rfl, f8.congr (fun j hj => by rcases (show j = 0 ∨ j = 1 by omega) with rfl | rfl <;> rfl)⟩) (by decide) (by decide)
theorem d10_11 : decode prog_31_method_7_code 11 = .ok (.aload_n 0, 1) := by decide +kernel
theorem d10_12 : decode prog_31_method_7_code 12 = .ok (.getfield 29, 3) := by decide +kernel
theorem d10_15 : decode prog_31_method_7_code 15 = .ok (.aconst_null, 1) := by decide +kernel
theorem d10_16 : decode prog_31_method_7_code 16 = .ok (.invokestatic 59, 3) := by decide +kernel
theorem d10_19 : decode prog_31_method_7_code 19 = .ok (.aload_n 0, 1) := by decide +kernel
theorem d10_20 : decode prog_31_method_7_code 20 = .ok (.getfield 37, 3) := by decide +kernel
theorem d10_23 : decode prog_31_method_7_code 23 = .ok (.aconst_null, 1) := by decide +kernel
theorem d10_24 : decode prog_31_method_7_code 24 = .ok (.invokestatic 59, 3) := by decide +kernel
theorem d10_27 : decode prog_31_method_7_code 27 = .ok (.aload_n 0, 1) := by decide +kernel
theorem d10_28 : decode prog_31_method_7_code 28 = .ok (.iconst 0, 1) := by decide +kernel
theorem d10_29 : decode prog_31_method_7_code 29 = .ok (.putfield 56, 3) := by decide +kernel
theorem ef_10_f2 (m : MethodId) (x0 : Addr) (x1 : Int32) (x2 : Addr) (x3 : Addr) (ka : Addr) (ha : Addr) (va : Addr) (kk : ClassId) (kh : ClassId) (kw : ClassId) (t : Nat → Option Nat) (hf : Nat → Int32) (KA : Nat → Addr) (VA : Nat → Addr) (sh : Int32) (mo : Int32) (sz : Int32) (i0 : Nat) (kf : Nat) (q : Nat)  : entryFrame m #[(.ref x0), (.int x1), (.ref x2), (.ref x3)] 5 = mkF m 0 #[.val (.ref x0), .val (.int x1), .val (.ref x2), .val (.ref x3), .unset] [] := by first | (simp [entryFrame, mkF, argsToLocals, Value.category]; done) | rfl
theorem pd_7 : parseMethodDescriptor "([Ljava/lang/Object;Ljava/lang/Object;)V" = some ⟨[(.array (.object "java/lang/Object")), (.object "java/lang/Object")], none⟩ := by decide +kernel
def Q10_f2 (Z : State) (x0 : Addr) (x1 : Int32) (x2 : Addr) (x3 : Addr) (ka : Addr) (ha : Addr) (va : Addr) (kk : ClassId) (kh : ClassId) (kw : ClassId) (t : Nat → Option Nat) (hf : Nat → Int32) (KA : Nat → Addr) (VA : Nat → Addr) (sh : Int32) (mo : Int32) (sz : Int32) (i0 : Nat) (kf : Nat) (q : Nat) (h0 : Heap) (n0 : Nat) (v : Option Value) (h : Heap) (L : List Loc) : Prop := Fr n0 L ∧ Keep h0 h [x0, ka, ha, va] ∧ v = some (.ref x3) ∧ Exa Z h x0 "com/example/nehaba/nehaba/input/KeptValues" ∧ Fld Z h x0 "com/example/nehaba/nehaba/input/KeptValues" "keys" "[Ljava/lang/Object;" (.ref ka) ∧ Fld Z h x0 "com/example/nehaba/nehaba/input/KeptValues" "hashes" "[I" (.ref ha) ∧ Fld Z h x0 "com/example/nehaba/nehaba/input/KeptValues" "values" "[Ljava/lang/Object;" (.ref va) ∧ Fld Z h x0 "com/example/nehaba/nehaba/input/KeptValues" "most" "I" (.int mo) ∧ Fld Z h x0 "com/example/nehaba/nehaba/input/KeptValues" "size" "I" (.int (1 : Int32)) ∧ Fld Z h x0 "com/example/nehaba/nehaba/input/KeptValues" "shift" "I" (.int sh) ∧ ArF Z h ka kk (.object "java/lang/Object") 2 (fun j => rfv KA ((own_put own_t0 q i0) j)) ∧ ArF Z h ha kh .int 2 (fun j => .int (own_hp hf q x1 j)) ∧ ArF Z h va kw (.object "java/lang/Object") 2 (fun j => rfv VA ((own_put own_t0 q i0) j))
set_option maxRecDepth 65536 in
set_option maxHeartbeats 40000000 in
theorem rm10_f2 (l : Launch) (Z : State) (a0 : Array Value) (hw : ∀ d ∈ tables_1, d.before a0 Z = true) (ws : List Jvm.Cond) (x0 : Addr) (x1 : Int32) (x2 : Addr) (x3 : Addr) (ka : Addr) (ha : Addr) (va : Addr) (kk : ClassId) (kh : ClassId) (kw : ClassId) (t : Nat → Option Nat) (hf : Nat → Int32) (KA : Nat → Addr) (VA : Nat → Addr) (sh : Int32) (mo : Int32) (sz : Int32) (i0 : Nat) (kf : Nat) (q : Nat) (h0 : Heap) (n0 : Nat) (Z0 : n0 ≤ h0.size) (E0 : Exa Z h0 x0 "com/example/nehaba/nehaba/input/KeptValues") (Fk : Fld Z h0 x0 "com/example/nehaba/nehaba/input/KeptValues" "keys" "[Ljava/lang/Object;" (.ref ka)) (Fh : Fld Z h0 x0 "com/example/nehaba/nehaba/input/KeptValues" "hashes" "[I" (.ref ha)) (Fv : Fld Z h0 x0 "com/example/nehaba/nehaba/input/KeptValues" "values" "[Ljava/lang/Object;" (.ref va)) (Fm : Fld Z h0 x0 "com/example/nehaba/nehaba/input/KeptValues" "most" "I" (.int mo)) (Fz : Fld Z h0 x0 "com/example/nehaba/nehaba/input/KeptValues" "size" "I" (.int sz)) (Fs : Fld Z h0 x0 "com/example/nehaba/nehaba/input/KeptValues" "shift" "I" (.int sh)) (Ak : ArF Z h0 ka kk (.object "java/lang/Object") 2 (fun j => rfv KA (t j))) (Ah : ArF Z h0 ha kh .int 2 (fun j => .int (hf j))) (Av : ArF Z h0 va kw (.object "java/lang/Object") 2 (fun j => rfv VA (t j))) (Ok : Ovr Z kk "java/lang/Object") (Ow : Ovr Z kw "java/lang/Object") (I2 : Ins Z h0 x2 "java/lang/Object" true) (I3 : Ins Z h0 x3 "java/lang/Object" true) (hka : KA i0 = x2) (hva : VA i0 = x3) (g_x0 : n0 ≤ x0) (g_ka : n0 ≤ ka) (g_ha : n0 ≤ ha) (g_va : n0 ≤ va) (ne_ka_x0 : ka ≠ x0) (ne_ha_x0 : ha ≠ x0) (ne_ha_ka : ha ≠ ka) (ne_va_x0 : va ≠ x0) (ne_va_ka : va ≠ ka) (ne_va_ha : va ≠ ha) (hfull : sz = mo) (hS : (2 = 2 ∧ sh = 31) ∨ (2 = 4 ∧ sh = 30) ∨ (2 = 8 ∧ sh = 29)) (hq : (own_f x1 sh).toNatClampNeg = q) :
    MetFree l (⟨"com/example/nehaba/nehaba/input/KeptValues", "put", "(ILjava/lang/Object;Ljava/lang/Object;)Ljava/lang/Object;"⟩ : MethodName) (head1 (Jvm.Cond.code (⟨"com/example/nehaba/nehaba/input/KeptValues", "put", "(ILjava/lang/Object;Ljava/lang/Object;)Ljava/lang/Object;"⟩ : MethodName) prog_31_method_7_code 5 (some (.object "java/lang/Object")) :: ws) ({ frames := 1, cells := 0, slots := 0, locals := 15 } : Room)) (fun a U => a = #[(.ref x0), (.int x1), (.ref x2), (.ref x3)] ∧ Z.Warmed39 U.vm ∧ U.heap = h0) (fun _ _ _ _ _ => True) (fun _ U o U' => ∃ v L, o = .returned v ∧ Q10_f2 Z x0 x1 x2 x3 ka ha va kk kh kw t hf KA VA sh mo sz i0 kf q h0 n0 v U'.heap L ∧ FrameEnd U o U' L ({ frames := 1, cells := 0, slots := 0, locals := 15 } : Room).cells ({ frames := 1, cells := 0, slots := 0, locals := 15 } : Room).slots) := by
  refine MetFree.of_bodySF (plainFor_of_name pn_10) hisR ?_
  intro p e s m args below meth c s₁ Bd hml0 hP hK
  obtain ⟨rfl, hZ, hh⟩ := hP
  have w_2 := own_at hw 2 rfl
  have w_3 := own_at hw 3 rfl
  have w_11 := own_at hw 11 rfl
  have w_12 := own_at hw 12 rfl
  have w_24 := own_at hw 24 rfl
  have w_25 := own_at hw 25 rfl
  have w_26 := own_at hw 26 rfl
  have w_27 := own_at hw 27 rfl
  have w_28 := own_at hw 28 rfl
  have w_29 := own_at hw 29 rfl
  have w_32 := own_at hw 32 rfl
  have w_36 := own_at hw 36 rfl
  have w_38 := own_at hw 38 rfl
  have w_39 := own_at hw 39 rfl
  have w_40 := own_at hw 40 rfl
  have w_41 := own_at hw 41 rfl
  have w_63 := own_at hw 63 rfl
  have w_64 := own_at hw 64 rfl
  have w_66 := own_at hw 66 rfl
  have w_67 := own_at hw 67 rfl
  have w_68 := own_at hw 68 rfl
  have w_69 := own_at hw 69 rfl
  have hx := Bd.exec
  have hby := Bd.bytes
  have hml : c.maxLocals = 5 := hml0
  have hown : s.vm.findClass "com/example/nehaba/nehaba/input/KeptValues" = some m.cls := findClass_of_methodNamed Bd.named
  have hnm := (name_of_methodNamed Bd.named Bd.method).1
  have X0 : Stand p l e ({ frames := 1, cells := 0, slots := 0, locals := 15 } : Room) s m #[(.ref x0), (.int x1), (.ref x2), (.ref x3)] below meth c s₁ [] 0 0 := Stand.of_body Bd
  have e0 : s₁.heap = h0 := by rw [← hh, Bd.state]; rfl
  have N0 := Fr.nil n0
  have K0 : Keep h0 h0 [x0, ka, ha, va] := Keep.refl h0 _
  refine (?_ : Goes p e below s ({ frames := 1, cells := 0, slots := 0, locals := 15 } : Room).cells ({ frames := 1, cells := 0, slots := 0, locals := 15 } : Room).slots (fun v h L => Q10_f2 Z x0 x1 x2 x3 ka ha va kk kh kw t hf KA VA sh mo sz i0 kf q h0 n0 v h L) (s₁.setTop (entryFrame m #[(.ref x0), (.int x1), (.ref x2), (.ref x3)] 5)))
  rw [ef_10_f2 m x0 x1 x2 x3 ka ha va kk kh kw t hf KA VA sh mo sz i0 kf q ]
  show Goes _ _ _ _ _ _ _ (s₁.setTop (mkF m 0 #[.val (.ref x0), .val (.int x1), .val (.ref x2), .val (.ref x3), .unset] []))
  refine G1 (fun _ => XS.aloadN X0.here hx rfl (hb hby d10_0) rfl rfl) ?_
  obtain ⟨T1, X1, e1, st1⟩ := getF X0 hx hZ hown (host := "") (Or.inl w_63) Via.refl e0 Fz (g := (mkF m 1 #[.val (.ref x0), .val (.int x1), .val (.ref x2), .val (.ref x3), .unset] [(.ref x0)])) rfl rfl (hb hby d10_1)
  refine G1 st1 ?_
  show Goes _ _ _ _ _ _ _ (T1.setTop (mkF m 4 _ [(.int sz)]))
  refine G1 (fun _ => XS.aloadN X1.here hx rfl (hb hby d10_4) rfl rfl) ?_
  obtain ⟨T2, X2, e2, st2⟩ := getF X1 hx hZ hown (host := "") (Or.inl w_11) Via.refl e1 Fm (g := (mkF m 5 #[.val (.ref x0), .val (.int x1), .val (.ref x2), .val (.ref x3), .unset] [(.ref x0), (.int sz)])) rfl rfl (hb hby d10_5)
  refine G1 st2 ?_
  show Goes _ _ _ _ _ _ _ (T2.setTop (mkF m 8 _ [(.int mo), (.int sz)]))
  refine G1 (fun _ => XS.icmpNo X2.here hx rfl (hb hby d10_8) rfl (teq hfull).2) ?_
  show Goes _ _ _ _ _ _ _ (T2.setTop (mkF m 11 _ []))
  refine G1 (fun _ => XS.aloadN X2.here hx rfl (hb hby d10_11) rfl rfl) ?_
  obtain ⟨T3, X3, e3, st3⟩ := getF X2 hx hZ hown (host := "") (Or.inl w_24) Via.refl e2 Fk (g := (mkF m 12 #[.val (.ref x0), .val (.int x1), .val (.ref x2), .val (.ref x3), .unset] [(.ref x0)])) rfl rfl (hb hby d10_12)
  refine G1 st3 ?_
  show Goes _ _ _ _ _ _ _ (T3.setTop (mkF m 15 _ [(.ref ka)]))
  refine G1 (fun _ => XS.aconstNull X3.here hx rfl (hb hby d10_15)) ?_
  obtain ⟨_, _, ⟨T4, L4, k4, n4⟩, -, X4, ⟨Lc4, hQ4, l4, y4, z4⟩, st4⟩ := Jvm.LawKit.callS X3 hx (y := mN3) hown (mvT hZ w_66) (mvT hZ w_67) (mvT hZ w_68) (mvT hZ w_69) (by decide) (backOf (W := 0) (rm11_2 l Z a0 hw [] ka kk (fun j => rfv KA (t j)) h0 n0 Z0 Ak g_ka) hZ w_69 w_68 (by decide) (by decide)) (g := (mkF m 16 #[.val (.ref x0), .val (.int x1), .val (.ref x2), .val (.ref x3), .unset] [.null, (.ref ka)])) rfl (by rw [hml]; rfl) (argsL := [(.ref ka), .null]) (rest := []) (lenOf pd_7 rfl) rfl (by show 2 * 0 + _ ≤ _; exact Nat.le_of_eq rfl) (hb hby d10_16) (fun _ _ => ⟨rfl, e3, (by decide : 0 + 0 ≤ _), (by decide : 0 + 0 ≤ _)⟩)
  dsimp only [Pt.U, Pt.locs, Pt.cells, Pt.slots] at X4 l4 y4 z4 st4 hQ4
  rw [l4, y4, z4] at X4
  obtain ⟨N4, KK4, rfl, V4⟩ := hQ4
  have NA4 := Fr.app N0 N4
  have f5 := E0.keep KK4
  have f6 := Fk.keep KK4 (ninS (Ne.symm ne_ka_x0) nin0)
  have f7 := Fh.keep KK4 (ninS (Ne.symm ne_ka_x0) nin0)
  have f8 := Fv.keep KK4 (ninS (Ne.symm ne_ka_x0) nin0)
  have f9 := Fm.keep KK4 (ninS (Ne.symm ne_ka_x0) nin0)
  have f10 := Fz.keep KK4 (ninS (Ne.symm ne_ka_x0) nin0)
  have f11 := Fs.keep KK4 (ninS (Ne.symm ne_ka_x0) nin0)
  have f13 := Ah.keep KK4 (ninS ne_ha_ka nin0)
  have f14 := Av.keep KK4 (ninS ne_va_ka nin0)
  have f15 := own_insKeep I2 KK4
  have f16 := own_insKeep I3 KK4
  have K17 : Keep h0 T4.heap [x0, ka, ha, va] := K0.trans KK4 (allS (Or.inl (List.mem_of_getElem? (i := 1) rfl)) all0)
  have Z17 : n0 ≤ T4.heap.size := Nat.le_trans Z0 KK4.1
  refine G1 st4 ?_
  show Goes _ _ _ _ _ _ _ (T4.setTop (mkF m 19 _ []))
  refine G1 (fun _ => XS.aloadN X4.here hx rfl (hb hby d10_19) rfl rfl) ?_
  obtain ⟨T18, X18, e18, st18⟩ := getF X4 hx hZ hown (host := "") (Or.inl w_28) Via.refl rfl f8 (g := (mkF m 20 #[.val (.ref x0), .val (.int x1), .val (.ref x2), .val (.ref x3), .unset] [(.ref x0)])) rfl rfl (hb hby d10_20)
  refine G1 st18 ?_
  show Goes _ _ _ _ _ _ _ (T18.setTop (mkF m 23 _ [(.ref va)]))
  refine G1 (fun _ => XS.aconstNull X18.here hx rfl (hb hby d10_23)) ?_
  obtain ⟨_, _, ⟨T19, L19, k19, n19⟩, -, X19, ⟨Lc19, hQ19, l19, y19, z19⟩, st19⟩ := Jvm.LawKit.callS X18 hx (y := mN3) hown (mvT hZ w_66) (mvT hZ w_67) (mvT hZ w_68) (mvT hZ w_69) (by decide) (backOf (W := 0) (rm11_2 l Z a0 hw [] va kw (fun j => rfv VA (t j)) T4.heap n0 Z17 f14 g_va) hZ w_69 w_68 (by decide) (by decide)) (g := (mkF m 24 #[.val (.ref x0), .val (.int x1), .val (.ref x2), .val (.ref x3), .unset] [.null, (.ref va)])) rfl (by rw [hml]; rfl) (argsL := [(.ref va), .null]) (rest := []) (lenOf pd_7 rfl) rfl (by show 2 * 0 + _ ≤ _; exact Nat.le_of_eq rfl) (hb hby d10_24) (fun _ _ => ⟨rfl, e18, (by decide : 0 + 0 ≤ _), (by decide : 0 + 0 ≤ _)⟩)
  dsimp only [Pt.U, Pt.locs, Pt.cells, Pt.slots] at X19 l19 y19 z19 st19 hQ19
  rw [l19, y19, z19] at X19
  obtain ⟨N19, KK19, rfl, V19⟩ := hQ19
  have NA19 := Fr.app NA4 N19
  have f20 := f5.keep KK19
  have f21 := f6.keep KK19 (ninS (Ne.symm ne_va_x0) nin0)
  have f22 := f7.keep KK19 (ninS (Ne.symm ne_va_x0) nin0)
  have f23 := f8.keep KK19 (ninS (Ne.symm ne_va_x0) nin0)
  have f24 := f9.keep KK19 (ninS (Ne.symm ne_va_x0) nin0)
  have f25 := f10.keep KK19 (ninS (Ne.symm ne_va_x0) nin0)
  have f26 := f11.keep KK19 (ninS (Ne.symm ne_va_x0) nin0)
  have f27 := f13.keep KK19 (ninS (Ne.symm ne_va_ha) nin0)
  have f29 := own_insKeep f15 KK19
  have f30 := own_insKeep f16 KK19
  have f31 := V4.keep KK19 (ninS (Ne.symm ne_va_ka) nin0)
  have K32 : Keep h0 T19.heap [x0, ka, ha, va] := K17.trans KK19 (allS (Or.inl (List.mem_of_getElem? (i := 3) rfl)) all0)
  have Z32 : n0 ≤ T19.heap.size := Nat.le_trans Z17 KK19.1
  refine G1 st19 ?_
  show Goes _ _ _ _ _ _ _ (T19.setTop (mkF m 27 _ []))
  refine G1 (fun _ => XS.aloadN X19.here hx rfl (hb hby d10_27) rfl rfl) ?_
  refine G1 (fun _ => XS.iconst X19.here hx rfl (hb hby d10_28)) ?_
  obtain ⟨T33, h33, X33, e33, W33, st33⟩ := putF X19 hx hZ hown (host := "") (Or.inl w_63) Via.refl rfl f25 f20 (Or.inl w_64) w_2 (ty := .int) (by decide) rfl rfl (g := (mkF m 29 #[.val (.ref x0), .val (.int x1), .val (.ref x2), .val (.ref x3), .unset] [(.int (0 : Int32)), (.ref x0)])) rfl rfl (hb hby d10_29)
  refine G1 st33 ?_
  have f34 := f20.wr W33
  have f35 := f21.other W33 (Or.inr (slot_ne (Or.inr w_25) (Or.inl w_64) (by decide) (t := (.array (.object "java/lang/Object"))) (t' := .int) (by decide) (by decide)))
  have f36 := f22.other W33 (Or.inr (slot_ne (Or.inr w_27) (Or.inl w_64) (by decide) (t := (.array .int)) (t' := .int) (by decide) (by decide)))
  have f37 := f23.other W33 (Or.inr (slot_ne (Or.inr w_29) (Or.inl w_64) (by decide) (t := (.array (.object "java/lang/Object"))) (t' := .int) (by decide) (by decide)))
  have f38 := f24.other W33 (Or.inr (slot_ne (Or.inr w_12) (Or.inl w_64) (by decide) (t := .int) (t' := .int) (by decide) (by decide)))
  have f39 := f25.same W33
  have f40 := f26.other W33 (Or.inr (slot_ne (Or.inr w_32) (Or.inl w_64) (by decide) (t := .int) (t' := .int) (by decide) (by decide)))
  have f41 := f27.other W33 ne_ha_x0
  have f42 := f29.wr W33
  have f43 := f30.wr W33
  have f44 := f31.other W33 ne_ka_x0
  have f45 := V19.other W33 ne_va_x0
  have K46 : Keep h0 h33 [x0, ka, ha, va] := K32.wr W33 (Or.inl (List.mem_of_getElem? (i := 0) rfl))
  have Z46 : n0 ≤ h33.size := by rw [Wr.size W33]; exact Z32
  have N46 := Fr.snoc X33 NA19 g_x0
  show Goes _ _ _ _ _ _ _ (T33.setTop (mkF m 32 _ []))
  refine G1 (fun _ => XS.aloadN X33.here hx rfl (hb hby d10_32) rfl rfl) ?_
  refine G1 (fun _ => XS.iloadN X33.here hx rfl (hb hby d10_33) rfl ) ?_
  obtain ⟨cq47, q47, q47'⟩ := f34.cell
  obtain ⟨_, _, ⟨T47, L47, k47, n47⟩, -, X47, ⟨Lc47, hQ47, l47, y47, z47⟩, st47⟩ := X33.privateBack hx (y := mN1) hown (mvT hZ w_38) (mvT hZ w_39) (own_selPriv (mvT hZ w_36) rfl (mvP hZ w_40) (mvT hZ w_39) (by decide)) (Cond.privateMethod_at (mvP hZ w_40 (args := #[]))) (mvT hZ w_41) (by decide) (backOf (W := 0) (rm6 l Z a0 hw [] x0 x1 ka ha va kk kh kw 2 own_t0 hf KA VA sh mo (0 : Int32) h33 n0 Z46 f34 f35 f36 f37 f38 f39 f40 f44 f41 f45) hZ w_41 w_3 (by decide) (by decide)) (g := (mkF m 34 #[.val (.ref x0), .val (.int x1), .val (.ref x2), .val (.ref x3), .unset] [(.int x1), (.ref x0)])) rfl (by rw [hml]; rfl) (Steps.refl _) (a := x0) (by rw [e33]; exact q47) q47' (argsL := [(.int x1)]) (rest := []) (lenOf pd_2 rfl) rfl (by show 2 * 0 + _ ≤ _; exact Nat.le_of_eq rfl) (hb hby d10_34) (fun _ _ => ⟨rfl, e33, (by decide : 0 + 0 ≤ _), (by decide : 0 + 0 ≤ _)⟩)
  dsimp only [Pt.U, Pt.locs, Pt.cells, Pt.slots] at X47 l47 y47 z47 st47 hQ47
  rw [l47, y47, z47] at X47
  obtain ⟨N47, eh47, hv47⟩ := hQ47
  have NA47 := Fr.app N46 N47
  subst hv47
  refine G2 st47 ?_
  show Goes _ _ _ _ _ _ _ (T47.setTop (mkF m 37 _ [(.int (own_f x1 sh))]))
  refine G1 (fun _ => XS.istore X47.here hx rfl (hb hby d10_37) rfl (l' := #[.val (.ref x0), .val (.int x1), .val (.ref x2), .val (.ref x3), .val (.int (own_f x1 sh))]) rfl) ?_
  show Goes _ _ _ _ _ _ _ (T47.setTop (mkF m 39 _ []))
  show Goes _ _ _ _ _ _ _ (T47.setTop (mkF m 39 #[.val (.ref x0), .val (.int x1), .val (.ref x2), .val (.ref x3), .val (.int (own_f x1 sh))] []))
  refine G1 (fun _ => XS.aloadN X47.here hx rfl (hb hby d10_39) rfl rfl) ?_
  obtain ⟨T48, X48, e48, st48⟩ := getF X47 hx hZ hown (host := "") (Or.inl w_24) Via.refl eh47 f35 (g := (mkF m 40 #[.val (.ref x0), .val (.int x1), .val (.ref x2), .val (.ref x3), .val (.int (own_f x1 sh))] [(.ref x0)])) rfl rfl (hb hby d10_40)
  refine G1 st48 ?_
  show Goes _ _ _ _ _ _ _ (T48.setTop (mkF m 43 _ [(.ref ka)]))
  refine G1 (fun _ => XS.iload X48.here hx rfl (hb hby d10_43) rfl ) ?_
  obtain ⟨cl49, Ar49, q49, S49, H49⟩ := id f44
  have hin49 := own_arfin S49 (own_first x1 hS).1 (own_first x1 hS).2
  have hat49 : cl49.slots[((own_f x1 sh)).toNatClampNeg]? = some .null := H49 _ (own_first x1 hS).2
  refine G1 (fun _ => X48.aaload hx (j := (own_f x1 sh)) (v := .null) (by rw [e48]; exact Ar49.1) (State.isArrayOf_alike hZ.alike Ar49.2.1) rfl Ar49.2.2 hin49 hat49 (g := (mkF m 45 #[.val (.ref x0), .val (.int x1), .val (.ref x2), .val (.ref x3), .val (.int (own_f x1 sh))] [(.int (own_f x1 sh)), (.ref ka)])) rfl rfl (hb hby d10_45) _) ?_
  show Goes _ _ _ _ _ _ _ (T48.setTop (mkF m 46 _ [.null]))
  refine G1 (fun _ => XS.ifnullYes X48.here hx rfl (pc0 := 46) (pc' := 60) rfl (hb hby d10_46) rfl (by decide) (by decide)) ?_
  show Goes _ _ _ _ _ _ _ (T48.setTop (mkF m 60 _ []))
  refine G1 (fun _ => XS.aloadN X48.here hx rfl (hb hby d10_60) rfl rfl) ?_
  obtain ⟨T50, X50, e50, st50⟩ := getF X48 hx hZ hown (host := "") (Or.inl w_24) Via.refl e48 f35 (g := (mkF m 61 #[.val (.ref x0), .val (.int x1), .val (.ref x2), .val (.ref x3), .val (.int (own_f x1 sh))] [(.ref x0)])) rfl rfl (hb hby d10_61)
  refine G1 st50 ?_
  show Goes _ _ _ _ _ _ _ (T50.setTop (mkF m 64 _ [(.ref ka)]))
  refine G1 (fun _ => XS.iload X50.here hx rfl (hb hby d10_64) rfl ) ?_
  refine G1 (fun _ => XS.aloadN X50.here hx rfl (hb hby d10_66) rfl rfl) ?_
  obtain ⟨cl51, Ar51, q51, S51, H51⟩ := id f44
  have hin51 := own_arfin S51 (own_first x1 hS).1 (own_first x1 hS).2
  obtain ⟨T52, h52, X52, e52, W52, st52⟩ := stR X50 hx hZ e50 Ar51 (j := (own_f x1 sh)) hin51 rfl (Sto.ofV Ar51 q51 Ok f42) (g := (mkF m 67 #[.val (.ref x0), .val (.int x1), .val (.ref x2), .val (.ref x3), .val (.int (own_f x1 sh))] [(.ref x2), (.int (own_f x1 sh)), (.ref ka)])) rfl rfl (hb hby d10_67)
  refine G1 st52 ?_
  have V52 := ArF.set Ar51 q51 S51 H51 W52
  have f53 := f34.wr W52
  have f54 := f35.other W52 (Or.inl (Ne.symm ne_ka_x0))
  have f55 := f36.other W52 (Or.inl (Ne.symm ne_ka_x0))
  have f56 := f37.other W52 (Or.inl (Ne.symm ne_ka_x0))
  have f57 := f38.other W52 (Or.inl (Ne.symm ne_ka_x0))
  have f58 := f39.other W52 (Or.inl (Ne.symm ne_ka_x0))
  have f59 := f40.other W52 (Or.inl (Ne.symm ne_ka_x0))
  have f60 := f41.other W52 ne_ha_ka
  have f61 := f42.wr W52
  have f62 := f43.wr W52
  have f63 := V52
  have f64 := f45.other W52 ne_va_ka
  have K65 : Keep h0 h52 [x0, ka, ha, va] := K46.wr W52 (Or.inl (List.mem_of_getElem? (i := 1) rfl))
  have Z65 : n0 ≤ h52.size := by rw [Wr.size W52]; exact Z46
  have N65 := Fr.snoc X52 NA47 g_ka
  show Goes _ _ _ _ _ _ _ (T52.setTop (mkF m 68 _ []))
  refine G1 (fun _ => XS.aloadN X52.here hx rfl (hb hby d10_68) rfl rfl) ?_
  obtain ⟨T66, X66, e66, st66⟩ := getF X52 hx hZ hown (host := "") (Or.inl w_26) Via.refl e52 f55 (g := (mkF m 69 #[.val (.ref x0), .val (.int x1), .val (.ref x2), .val (.ref x3), .val (.int (own_f x1 sh))] [(.ref x0)])) rfl rfl (hb hby d10_69)
  refine G1 st66 ?_
  show Goes _ _ _ _ _ _ _ (T66.setTop (mkF m 72 _ [(.ref ha)]))
  refine G1 (fun _ => XS.iload X66.here hx rfl (hb hby d10_72) rfl ) ?_
  refine G1 (fun _ => XS.iloadN X66.here hx rfl (hb hby d10_74) rfl ) ?_
  obtain ⟨cl67, Ar67, q67, S67, H67⟩ := id f60
  have hin67 := own_arfin S67 (own_first x1 hS).1 (own_first x1 hS).2
  obtain ⟨T68, h68, X68, e68, W68, st68⟩ := stI X66 hx hZ e66 Ar67 (j := (own_f x1 sh)) hin67 (g := (mkF m 75 #[.val (.ref x0), .val (.int x1), .val (.ref x2), .val (.ref x3), .val (.int (own_f x1 sh))] [(.int x1), (.int (own_f x1 sh)), (.ref ha)])) rfl rfl (hb hby d10_75)
  refine G1 st68 ?_
  have V68 := ArF.set Ar67 q67 S67 H67 W68
  have f69 := f53.wr W68
  have f70 := f54.other W68 (Or.inl (Ne.symm ne_ha_x0))
  have f71 := f55.other W68 (Or.inl (Ne.symm ne_ha_x0))
  have f72 := f56.other W68 (Or.inl (Ne.symm ne_ha_x0))
  have f73 := f57.other W68 (Or.inl (Ne.symm ne_ha_x0))
  have f74 := f58.other W68 (Or.inl (Ne.symm ne_ha_x0))
  have f75 := f59.other W68 (Or.inl (Ne.symm ne_ha_x0))
  have f76 := V68
  have f77 := f61.wr W68
  have f78 := f62.wr W68
  have f79 := f63.other W68 (Ne.symm ne_ha_ka)
  have f80 := f64.other W68 ne_va_ha
  have K81 : Keep h0 h68 [x0, ka, ha, va] := K65.wr W68 (Or.inl (List.mem_of_getElem? (i := 2) rfl))
  have Z81 : n0 ≤ h68.size := by rw [Wr.size W68]; exact Z65
  have N81 := Fr.snoc X68 N65 g_ha
  show Goes _ _ _ _ _ _ _ (T68.setTop (mkF m 76 _ []))
  refine G1 (fun _ => XS.aloadN X68.here hx rfl (hb hby d10_76) rfl rfl) ?_
  obtain ⟨T82, X82, e82, st82⟩ := getF X68 hx hZ hown (host := "") (Or.inl w_28) Via.refl e68 f72 (g := (mkF m 77 #[.val (.ref x0), .val (.int x1), .val (.ref x2), .val (.ref x3), .val (.int (own_f x1 sh))] [(.ref x0)])) rfl rfl (hb hby d10_77)
  refine G1 st82 ?_
  show Goes _ _ _ _ _ _ _ (T82.setTop (mkF m 80 _ [(.ref va)]))
  refine G1 (fun _ => XS.iload X82.here hx rfl (hb hby d10_80) rfl ) ?_
  refine G1 (fun _ => XS.aloadN X82.here hx rfl (hb hby d10_82) rfl rfl) ?_
  obtain ⟨cl83, Ar83, q83, S83, H83⟩ := id f80
  have hin83 := own_arfin S83 (own_first x1 hS).1 (own_first x1 hS).2
  obtain ⟨T84, h84, X84, e84, W84, st84⟩ := stR X82 hx hZ e82 Ar83 (j := (own_f x1 sh)) hin83 rfl (Sto.ofV Ar83 q83 Ow f78) (g := (mkF m 83 #[.val (.ref x0), .val (.int x1), .val (.ref x2), .val (.ref x3), .val (.int (own_f x1 sh))] [(.ref x3), (.int (own_f x1 sh)), (.ref va)])) rfl rfl (hb hby d10_83)
  refine G1 st84 ?_
  have V84 := ArF.set Ar83 q83 S83 H83 W84
  have f85 := f69.wr W84
  have f86 := f70.other W84 (Or.inl (Ne.symm ne_va_x0))
  have f87 := f71.other W84 (Or.inl (Ne.symm ne_va_x0))
  have f88 := f72.other W84 (Or.inl (Ne.symm ne_va_x0))
  have f89 := f73.other W84 (Or.inl (Ne.symm ne_va_x0))
  have f90 := f74.other W84 (Or.inl (Ne.symm ne_va_x0))
  have f91 := f75.other W84 (Or.inl (Ne.symm ne_va_x0))
  have f92 := f76.other W84 (Ne.symm ne_va_ha)
  have f93 := f77.wr W84
  have f94 := f78.wr W84
  have f95 := f79.other W84 (Ne.symm ne_va_ka)
  have f96 := V84
  have K97 : Keep h0 h84 [x0, ka, ha, va] := K81.wr W84 (Or.inl (List.mem_of_getElem? (i := 3) rfl))
  have Z97 : n0 ≤ h84.size := by rw [Wr.size W84]; exact Z81
  have N97 := Fr.snoc X84 N81 g_va
  show Goes _ _ _ _ _ _ _ (T84.setTop (mkF m 84 _ []))
  refine G1 (fun _ => XS.aloadN X84.here hx rfl (hb hby d10_84) rfl rfl) ?_
  refine G1 (fun _ => XS.dup X84.here hx rfl (hb hby d10_85) rfl rfl) ?_
  obtain ⟨T98, X98, e98, st98⟩ := getF X84 hx hZ hown (host := "") (Or.inl w_63) Via.refl e84 f90 (g := (mkF m 86 #[.val (.ref x0), .val (.int x1), .val (.ref x2), .val (.ref x3), .val (.int (own_f x1 sh))] [(.ref x0), (.ref x0)])) rfl rfl (hb hby d10_86)
  refine G1 st98 ?_
  show Goes _ _ _ _ _ _ _ (T98.setTop (mkF m 89 _ [(.int (0 : Int32)), (.ref x0)]))
  refine G1 (fun _ => XS.iconst X98.here hx rfl (hb hby d10_89)) ?_
  refine G1 (fun _ => XS.iadd X98.here hx rfl (hb hby d10_90) rfl) ?_
  show Goes _ _ _ _ _ _ _ (T98.setTop (mkF m 91 _ [(.int (1 : Int32)), (.ref x0)]))
  obtain ⟨T99, h99, X99, e99, W99, st99⟩ := putF X98 hx hZ hown (host := "") (Or.inl w_63) Via.refl e98 f90 f85 (Or.inl w_64) w_2 (ty := .int) (by decide) rfl rfl (g := (mkF m 91 #[.val (.ref x0), .val (.int x1), .val (.ref x2), .val (.ref x3), .val (.int (own_f x1 sh))] [(.int (1 : Int32)), (.ref x0)])) rfl rfl (hb hby d10_91)
  refine G1 st99 ?_
  have f100 := f85.wr W99
  have f101 := f86.other W99 (Or.inr (slot_ne (Or.inr w_25) (Or.inl w_64) (by decide) (t := (.array (.object "java/lang/Object"))) (t' := .int) (by decide) (by decide)))
  have f102 := f87.other W99 (Or.inr (slot_ne (Or.inr w_27) (Or.inl w_64) (by decide) (t := (.array .int)) (t' := .int) (by decide) (by decide)))
  have f103 := f88.other W99 (Or.inr (slot_ne (Or.inr w_29) (Or.inl w_64) (by decide) (t := (.array (.object "java/lang/Object"))) (t' := .int) (by decide) (by decide)))
  have f104 := f89.other W99 (Or.inr (slot_ne (Or.inr w_12) (Or.inl w_64) (by decide) (t := .int) (t' := .int) (by decide) (by decide)))
  have f105 := f90.same W99
  have f106 := f91.other W99 (Or.inr (slot_ne (Or.inr w_32) (Or.inl w_64) (by decide) (t := .int) (t' := .int) (by decide) (by decide)))
  have f107 := f92.other W99 ne_ha_x0
  have f108 := f93.wr W99
  have f109 := f94.wr W99
  have f110 := f95.other W99 ne_ka_x0
  have f111 := f96.other W99 ne_va_x0
  have K112 : Keep h0 h99 [x0, ka, ha, va] := K97.wr W99 (Or.inl (List.mem_of_getElem? (i := 0) rfl))
  have Z112 : n0 ≤ h99.size := by rw [Wr.size W99]; exact Z97
  have N112 := Fr.snoc X99 N97 g_x0
  show Goes _ _ _ _ _ _ _ (T99.setTop (mkF m 94 _ []))
  refine G1 (fun _ => XS.aloadN X99.here hx rfl (hb hby d10_94) rfl rfl) ?_
  exact Goes.ret X99 hx (BodyLoose.notSynchronized Bd) Bd.returns rfl (Or.inr (Or.inr (Or.inr (Or.inr ⟨rfl, rfl, rfl⟩)))) (hb hby d10_95) (by show Q10_f2 Z x0 x1 x2 x3 ka ha va kk kh kw t hf KA VA sh mo sz i0 kf q h0 n0 (some (.ref x3)) T99.heap _; rw [e99]; exact ⟨N112, K112, rfl, f100, f101, f102, f103, f104, f105, f106, (f110.congr (own_rfset (t := own_t0) hka _ hq)), (f107.congr (own_hset _ hq)), (f111.congr (own_rfset (t := own_t0) hva _ hq))⟩) (by decide) (by decide)
theorem ef_11_4 (m : MethodId) (x0 : Addr) (kx : ClassId) (ff : Nat → Value)  : entryFrame m #[(.ref x0), .null] 4 = mkF m 0 #[.val (.ref x0), .val .null, .unset, .unset] [] := by first | (simp [entryFrame, mkF, argsToLocals, Value.category]; done) | rfl
def Q11_4 (Z : State) (x0 : Addr) (kx : ClassId) (ff : Nat → Value) (h0 : Heap) (n0 : Nat) (v : Option Value) (h : Heap) (L : List Loc) : Prop := Fr n0 L ∧ Keep h0 h [x0] ∧ v = none ∧ ArF Z h x0 kx (.object "java/lang/Object") 4 (fun _ => .null)
set_option maxRecDepth 65536 in
set_option maxHeartbeats 40000000 in
theorem rm11_4 (l : Launch) (Z : State) (a0 : Array Value) (hw : ∀ d ∈ tables_1, d.before a0 Z = true) (ws : List Jvm.Cond) (x0 : Addr) (kx : ClassId) (ff : Nat → Value) (h0 : Heap) (n0 : Nat) (Z0 : n0 ≤ h0.size) (A0 : ArF Z h0 x0 kx (.object "java/lang/Object") 4 ff) (g_x0 : n0 ≤ x0) :
    MetFree l (⟨"java/util/Arrays", "fill", "([Ljava/lang/Object;Ljava/lang/Object;)V"⟩ : MethodName) (head1 (Jvm.Cond.code (⟨"java/util/Arrays", "fill", "([Ljava/lang/Object;Ljava/lang/Object;)V"⟩ : MethodName) jdk_65_method_117_code 4 none :: ws) ({ frames := 0, cells := 0, slots := 0, locals := 0 } : Room)) (fun a U => a = #[(.ref x0), .null] ∧ Z.Warmed39 U.vm ∧ U.heap = h0) (fun _ _ _ _ _ => True) (fun _ U o U' => ∃ v L, o = .returned v ∧ Q11_4 Z x0 kx ff h0 n0 v U'.heap L ∧ FrameEnd U o U' L ({ frames := 0, cells := 0, slots := 0, locals := 0 } : Room).cells ({ frames := 0, cells := 0, slots := 0, locals := 0 } : Room).slots) := by
  refine MetFree.of_bodySF (plainFor_of_name pn_11) hisR ?_
  intro p e s m args below meth c s₁ Bd hml0 hP hK
  obtain ⟨rfl, hZ, hh⟩ := hP
  have hx := Bd.exec
  have hby := Bd.bytes
  have hml : c.maxLocals = 4 := hml0
  have hown : s.vm.findClass "java/util/Arrays" = some m.cls := findClass_of_methodNamed Bd.named
  have hnm := (name_of_methodNamed Bd.named Bd.method).1
  have X0 : Stand p l e ({ frames := 0, cells := 0, slots := 0, locals := 0 } : Room) s m #[(.ref x0), .null] below meth c s₁ [] 0 0 := Stand.of_body Bd
  have e0 : s₁.heap = h0 := by rw [← hh, Bd.state]; rfl
  have N0 := Fr.nil n0
  have K0 : Keep h0 h0 [x0] := Keep.refl h0 _
  refine (?_ : Goes p e below s ({ frames := 0, cells := 0, slots := 0, locals := 0 } : Room).cells ({ frames := 0, cells := 0, slots := 0, locals := 0 } : Room).slots (fun v h L => Q11_4 Z x0 kx ff h0 n0 v h L) (s₁.setTop (entryFrame m #[(.ref x0), .null] 4)))
  rw [ef_11_4 m x0 kx ff ]
  show Goes _ _ _ _ _ _ _ (s₁.setTop (mkF m 0 #[.val (.ref x0), .val .null, .unset, .unset] []))
  refine G1 (fun _ => XS.iconst X0.here hx rfl (hb hby d11_0)) ?_
  refine G1 (fun _ => XS.istoreN X0.here hx rfl (hb hby d11_1) rfl (l' := #[.val (.ref x0), .val .null, .val (.int (0 : Int32)), .unset]) rfl) ?_
  show Goes _ _ _ _ _ _ _ (s₁.setTop (mkF m 2 _ []))
  refine G1 (fun _ => XS.aloadN X0.here hx rfl (hb hby d11_2) rfl rfl) ?_
  obtain ⟨cl1, Ar1, q1, S1, H1⟩ := id A0
  refine G1 (fun _ => X0.arraylength hx (by rw [e0]; exact Ar1.1) (State.isArrayOf_alike hZ.alike Ar1.2.1) (g := (mkF m 3 #[.val (.ref x0), .val .null, .val (.int (0 : Int32)), .unset] [(.ref x0)])) rfl rfl (hb hby d11_3) _) ?_
  rw [S1]
  show Goes _ _ _ _ _ _ _ (s₁.setTop (mkF m 4 _ [(.int (4 : Int32))]))
  refine G1 (fun _ => XS.istoreN X0.here hx rfl (hb hby d11_4) rfl (l' := #[.val (.ref x0), .val .null, .val (.int (0 : Int32)), .val (.int (4 : Int32))]) rfl) ?_
  show Goes _ _ _ _ _ _ _ (s₁.setTop (mkF m 5 _ []))
  refine G1 (fun _ => XS.iloadN X0.here hx rfl (hb hby d11_5) rfl ) ?_
  refine G1 (fun _ => XS.iloadN X0.here hx rfl (hb hby d11_6) rfl ) ?_
  refine G1 (fun _ => XS.icmpNo X0.here hx rfl (hb hby d11_7) rfl (tlt (by decide : (0 : Int32) < (4 : Int32))).2.1) ?_
  show Goes _ _ _ _ _ _ _ (s₁.setTop (mkF m 10 _ []))
  refine G1 (fun _ => XS.aloadN X0.here hx rfl (hb hby d11_10) rfl rfl) ?_
  refine G1 (fun _ => XS.iloadN X0.here hx rfl (hb hby d11_11) rfl ) ?_
  refine G1 (fun _ => XS.aloadN X0.here hx rfl (hb hby d11_12) rfl rfl) ?_
  obtain ⟨cl2, Ar2, q2, S2, H2⟩ := id A0
  have hin2 := own_arfin S2 (by decide : ¬ (0 : Int32) < 0) (by decide : ((0 : Int32)).toNatClampNeg < 4)
  obtain ⟨T3, h3, X3, e3, W3, st3⟩ := stR X0 hx hZ e0 Ar2 (j := (0 : Int32)) hin2 rfl (Or.inl rfl) (g := (mkF m 13 #[.val (.ref x0), .val .null, .val (.int (0 : Int32)), .val (.int (4 : Int32))] [.null, (.int (0 : Int32)), (.ref x0)])) rfl rfl (hb hby d11_13)
  refine G1 st3 ?_
  have V3 := ArF.set Ar2 q2 S2 H2 W3
  have f4 := V3
  have K5 : Keep h0 h3 [x0] := K0.wr W3 (Or.inl (List.mem_of_getElem? (i := 0) rfl))
  have Z5 : n0 ≤ h3.size := by rw [Wr.size W3]; exact Z0
  have N5 := Fr.snoc X3 N0 g_x0
  show Goes _ _ _ _ _ _ _ (T3.setTop (mkF m 14 _ []))
  refine G1 (fun _ => XS.iinc X3.here hx rfl (hb hby d11_14) rfl (l' := #[.val (.ref x0), .val .null, .val (.int (1 : Int32)), .val (.int (4 : Int32))]) rfl) ?_
  show Goes _ _ _ _ _ _ _ (T3.setTop (mkF m 17 _ []))
  refine G1 (fun _ => XS.goto X3.here hx rfl (pc0 := 17) (pc' := 5) rfl (hb hby d11_17) (by decide) (by decide)) ?_
  show Goes _ _ _ _ _ _ _ (T3.setTop (mkF m 5 _ []))
  refine G1 (fun _ => XS.iloadN X3.here hx rfl (hb hby d11_5) rfl ) ?_
  refine G1 (fun _ => XS.iloadN X3.here hx rfl (hb hby d11_6) rfl ) ?_
  refine G1 (fun _ => XS.icmpNo X3.here hx rfl (hb hby d11_7) rfl (tlt (by decide : (1 : Int32) < (4 : Int32))).2.1) ?_
  show Goes _ _ _ _ _ _ _ (T3.setTop (mkF m 10 _ []))
  refine G1 (fun _ => XS.aloadN X3.here hx rfl (hb hby d11_10) rfl rfl) ?_
  refine G1 (fun _ => XS.iloadN X3.here hx rfl (hb hby d11_11) rfl ) ?_
  refine G1 (fun _ => XS.aloadN X3.here hx rfl (hb hby d11_12) rfl rfl) ?_
  obtain ⟨cl6, Ar6, q6, S6, H6⟩ := id f4
  have hin6 := own_arfin S6 (by decide : ¬ (1 : Int32) < 0) (by decide : ((1 : Int32)).toNatClampNeg < 4)
  obtain ⟨T7, h7, X7, e7, W7, st7⟩ := stR X3 hx hZ e3 Ar6 (j := (1 : Int32)) hin6 rfl (Or.inl rfl) (g := (mkF m 13 #[.val (.ref x0), .val .null, .val (.int (1 : Int32)), .val (.int (4 : Int32))] [.null, (.int (1 : Int32)), (.ref x0)])) rfl rfl (hb hby d11_13)
  refine G1 st7 ?_
  have V7 := ArF.set Ar6 q6 S6 H6 W7
  have f8 := V7
  have K9 : Keep h0 h7 [x0] := K5.wr W7 (Or.inl (List.mem_of_getElem? (i := 0) rfl))
  have Z9 : n0 ≤ h7.size := by rw [Wr.size W7]; exact Z5
  have N9 := Fr.snoc X7 N5 g_x0
  show Goes _ _ _ _ _ _ _ (T7.setTop (mkF m 14 _ []))
  refine G1 (fun _ => XS.iinc X7.here hx rfl (hb hby d11_14) rfl (l' := #[.val (.ref x0), .val .null, .val (.int (2 : Int32)), .val (.int (4 : Int32))]) rfl) ?_
  show Goes _ _ _ _ _ _ _ (T7.setTop (mkF m 17 _ []))
  refine G1 (fun _ => XS.goto X7.here hx rfl (pc0 := 17) (pc' := 5) rfl (hb hby d11_17) (by decide) (by decide)) ?_
  show Goes _ _ _ _ _ _ _ (T7.setTop (mkF m 5 _ []))
  refine G1 (fun _ => XS.iloadN X7.here hx rfl (hb hby d11_5) rfl ) ?_
  refine G1 (fun _ => XS.iloadN X7.here hx rfl (hb hby d11_6) rfl ) ?_
  refine G1 (fun _ => XS.icmpNo X7.here hx rfl (hb hby d11_7) rfl (tlt (by decide : (2 : Int32) < (4 : Int32))).2.1) ?_
  show Goes _ _ _ _ _ _ _ (T7.setTop (mkF m 10 _ []))
  refine G1 (fun _ => XS.aloadN X7.here hx rfl (hb hby d11_10) rfl rfl) ?_
  refine G1 (fun _ => XS.iloadN X7.here hx rfl (hb hby d11_11) rfl ) ?_
  refine G1 (fun _ => XS.aloadN X7.here hx rfl (hb hby d11_12) rfl rfl) ?_
  obtain ⟨cl10, Ar10, q10, S10, H10⟩ := id f8
  have hin10 := own_arfin S10 (by decide : ¬ (2 : Int32) < 0) (by decide : ((2 : Int32)).toNatClampNeg < 4)
  obtain ⟨T11, h11, X11, e11, W11, st11⟩ := stR X7 hx hZ e7 Ar10 (j := (2 : Int32)) hin10 rfl (Or.inl rfl) (g := (mkF m 13 #[.val (.ref x0), .val .null, .val (.int (2 : Int32)), .val (.int (4 : Int32))] [.null, (.int (2 : Int32)), (.ref x0)])) rfl rfl (hb hby d11_13)
  refine G1 st11 ?_
  have V11 := ArF.set Ar10 q10 S10 H10 W11
  have f12 := V11
  have K13 : Keep h0 h11 [x0] := K9.wr W11 (Or.inl (List.mem_of_getElem? (i := 0) rfl))
  have Z13 : n0 ≤ h11.size := by rw [Wr.size W11]; exact Z9
  have N13 := Fr.snoc X11 N9 g_x0
  show Goes _ _ _ _ _ _ _ (T11.setTop (mkF m 14 #[.val (.ref x0), .val .null, .val (.int (2 : Int32)), .val (.int (4 : Int32))] []))
  refine G1 (fun _ => XS.iinc X11.here hx rfl (hb hby d11_14) rfl (l' := #[.val (.ref x0), .val .null, .val (.int (3 : Int32)), .val (.int (4 : Int32))]) rfl) ?_
  show Goes _ _ _ _ _ _ _ (T11.setTop (mkF m 17 _ []))
  refine G1 (fun _ => XS.goto X11.here hx rfl (pc0 := 17) (pc' := 5) rfl (hb hby d11_17) (by decide) (by decide)) ?_
  show Goes _ _ _ _ _ _ _ (T11.setTop (mkF m 5 _ []))
  refine G1 (fun _ => XS.iloadN X11.here hx rfl (hb hby d11_5) rfl ) ?_
  refine G1 (fun _ => XS.iloadN X11.here hx rfl (hb hby d11_6) rfl ) ?_
  refine G1 (fun _ => XS.icmpNo X11.here hx rfl (hb hby d11_7) rfl (tlt (by decide : (3 : Int32) < (4 : Int32))).2.1) ?_
  show Goes _ _ _ _ _ _ _ (T11.setTop (mkF m 10 _ []))
  refine G1 (fun _ => XS.aloadN X11.here hx rfl (hb hby d11_10) rfl rfl) ?_
  refine G1 (fun _ => XS.iloadN X11.here hx rfl (hb hby d11_11) rfl ) ?_
  refine G1 (fun _ => XS.aloadN X11.here hx rfl (hb hby d11_12) rfl rfl) ?_
  obtain ⟨cl14, Ar14, q14, S14, H14⟩ := id f12
  have hin14 := own_arfin S14 (by decide : ¬ (3 : Int32) < 0) (by decide : ((3 : Int32)).toNatClampNeg < 4)
  obtain ⟨T15, h15, X15, e15, W15, st15⟩ := stR X11 hx hZ e11 Ar14 (j := (3 : Int32)) hin14 rfl (Or.inl rfl) (g := (mkF m 13 #[.val (.ref x0), .val .null, .val (.int (3 : Int32)), .val (.int (4 : Int32))] [.null, (.int (3 : Int32)), (.ref x0)])) rfl rfl (hb hby d11_13)
  refine G1 st15 ?_
  have V15 := ArF.set Ar14 q14 S14 H14 W15
  have f16 := V15
  have K17 : Keep h0 h15 [x0] := K13.wr W15 (Or.inl (List.mem_of_getElem? (i := 0) rfl))
  have Z17 : n0 ≤ h15.size := by rw [Wr.size W15]; exact Z13
  have N17 := Fr.snoc X15 N13 g_x0
  show Goes _ _ _ _ _ _ _ (T15.setTop (mkF m 14 _ []))
  refine G1 (fun _ => XS.iinc X15.here hx rfl (hb hby d11_14) rfl (l' := #[.val (.ref x0), .val .null, .val (.int (4 : Int32)), .val (.int (4 : Int32))]) rfl) ?_
  show Goes _ _ _ _ _ _ _ (T15.setTop (mkF m 17 _ []))
  refine G1 (fun _ => XS.goto X15.here hx rfl (pc0 := 17) (pc' := 5) rfl (hb hby d11_17) (by decide) (by decide)) ?_
  show Goes _ _ _ _ _ _ _ (T15.setTop (mkF m 5 _ []))
  refine G1 (fun _ => XS.iloadN X15.here hx rfl (hb hby d11_5) rfl ) ?_
  refine G1 (fun _ => XS.iloadN X15.here hx rfl (hb hby d11_6) rfl ) ?_
  refine G1 (fun _ => XS.icmpYes X15.here hx rfl (pc0 := 7) (pc' := 20) rfl (hb hby d11_7) rfl (flt (by decide : ¬ ((4 : Int32) < (4 : Int32)))).2.1 (by decide) (by decide)) ?_
  show Goes _ _ _ _ _ _ _ (T15.setTop (mkF m 20 _ []))
  exact Goes.retV X15 hx (BodyLoose.notSynchronized Bd) Bd.returns (hb hby d11_20) (by show Q11_4 Z x0 kx ff h0 n0 none T15.heap _; rw [e15]; exact ⟨N17, K17, rfl, f16.congr (fun j hj => by rcases (show j = 0 ∨ j = 1 ∨ j = 2 ∨ j = 3 by omega) with rfl | rfl | rfl | rfl <;> rfl)⟩) (by decide) (by decide)
theorem ef_10_f4 (m : MethodId) (x0 : Addr) (x1 : Int32) (x2 : Addr) (x3 : Addr) (ka : Addr) (ha : Addr) (va : Addr) (kk : ClassId) (kh : ClassId) (kw : ClassId) (t : Nat → Option Nat) (hf : Nat → Int32) (KA : Nat → Addr) (VA : Nat → Addr) (sh : Int32) (mo : Int32) (sz : Int32) (i0 : Nat) (kf : Nat) (q : Nat)  : entryFrame m #[(.ref x0), (.int x1), (.ref x2), (.ref x3)] 5 = mkF m 0 #[.val (.ref x0), .val (.int x1), .val (.ref x2), .val (.ref x3), .unset] [] := by first | (simp [entryFrame, mkF, argsToLocals, Value.category]; done) | rfl
def Q10_f4 (Z : State) (x0 : Addr) (x1 : Int32) (x2 : Addr) (x3 : Addr) (ka : Addr) (ha : Addr) (va : Addr) (kk : ClassId) (kh : ClassId) (kw : ClassId) (t : Nat → Option Nat) (hf : Nat → Int32) (KA : Nat → Addr) (VA : Nat → Addr) (sh : Int32) (mo : Int32) (sz : Int32) (i0 : Nat) (kf : Nat) (q : Nat) (h0 : Heap) (n0 : Nat) (v : Option Value) (h : Heap) (L : List Loc) : Prop := Fr n0 L ∧ Keep h0 h [x0, ka, ha, va] ∧ v = some (.ref x3) ∧ Exa Z h x0 "com/example/nehaba/nehaba/input/KeptValues" ∧ Fld Z h x0 "com/example/nehaba/nehaba/input/KeptValues" "keys" "[Ljava/lang/Object;" (.ref ka) ∧ Fld Z h x0 "com/example/nehaba/nehaba/input/KeptValues" "hashes" "[I" (.ref ha) ∧ Fld Z h x0 "com/example/nehaba/nehaba/input/KeptValues" "values" "[Ljava/lang/Object;" (.ref va) ∧ Fld Z h x0 "com/example/nehaba/nehaba/input/KeptValues" "most" "I" (.int mo) ∧ Fld Z h x0 "com/example/nehaba/nehaba/input/KeptValues" "size" "I" (.int (1 : Int32)) ∧ Fld Z h x0 "com/example/nehaba/nehaba/input/KeptValues" "shift" "I" (.int sh) ∧ ArF Z h ka kk (.object "java/lang/Object") 4 (fun j => rfv KA ((own_put own_t0 q i0) j)) ∧ ArF Z h ha kh .int 4 (fun j => .int (own_hp hf q x1 j)) ∧ ArF Z h va kw (.object "java/lang/Object") 4 (fun j => rfv VA ((own_put own_t0 q i0) j))
set_option maxRecDepth 65536 in
set_option maxHeartbeats 40000000 in
theorem rm10_f4 (l : Launch) (Z : State) (a0 : Array Value) (hw : ∀ d ∈ tables_1, d.before a0 Z = true) (ws : List Jvm.Cond) (x0 : Addr) (x1 : Int32) (x2 : Addr) (x3 : Addr) (ka : Addr) (ha : Addr) (va : Addr) (kk : ClassId) (kh : ClassId) (kw : ClassId) (t : Nat → Option Nat) (hf : Nat → Int32) (KA : Nat → Addr) (VA : Nat → Addr) (sh : Int32) (mo : Int32) (sz : Int32) (i0 : Nat) (kf : Nat) (q : Nat) (h0 : Heap) (n0 : Nat) (Z0 : n0 ≤ h0.size) (E0 : Exa Z h0 x0 "com/example/nehaba/nehaba/input/KeptValues") (Fk : Fld Z h0 x0 "com/example/nehaba/nehaba/input/KeptValues" "keys" "[Ljava/lang/Object;" (.ref ka)) (Fh : Fld Z h0 x0 "com/example/nehaba/nehaba/input/KeptValues" "hashes" "[I" (.ref ha)) (Fv : Fld Z h0 x0 "com/example/nehaba/nehaba/input/KeptValues" "values" "[Ljava/lang/Object;" (.ref va)) (Fm : Fld Z h0 x0 "com/example/nehaba/nehaba/input/KeptValues" "most" "I" (.int mo)) (Fz : Fld Z h0 x0 "com/example/nehaba/nehaba/input/KeptValues" "size" "I" (.int sz)) (Fs : Fld Z h0 x0 "com/example/nehaba/nehaba/input/KeptValues" "shift" "I" (.int sh)) (Ak : ArF Z h0 ka kk (.object "java/lang/Object") 4 (fun j => rfv KA (t j))) (Ah : ArF Z h0 ha kh .int 4 (fun j => .int (hf j))) (Av : ArF Z h0 va kw (.object "java/lang/Object") 4 (fun j => rfv VA (t j))) (Ok : Ovr Z kk "java/lang/Object") (Ow : Ovr Z kw "java/lang/Object") (I2 : Ins Z h0 x2 "java/lang/Object" true) (I3 : Ins Z h0 x3 "java/lang/Object" true) (hka : KA i0 = x2) (hva : VA i0 = x3) (g_x0 : n0 ≤ x0) (g_ka : n0 ≤ ka) (g_ha : n0 ≤ ha) (g_va : n0 ≤ va) (ne_ka_x0 : ka ≠ x0) (ne_ha_x0 : ha ≠ x0) (ne_ha_ka : ha ≠ ka) (ne_va_x0 : va ≠ x0) (ne_va_ka : va ≠ ka) (ne_va_ha : va ≠ ha) (hfull : sz = mo) (hS : (4 = 2 ∧ sh = 31) ∨ (4 = 4 ∧ sh = 30) ∨ (4 = 8 ∧ sh = 29)) (hq : (own_f x1 sh).toNatClampNeg = q) :
    MetFree l (⟨"com/example/nehaba/nehaba/input/KeptValues", "put", "(ILjava/lang/Object;Ljava/lang/Object;)Ljava/lang/Object;"⟩ : MethodName) (head1 (Jvm.Cond.code (⟨"com/example/nehaba/nehaba/input/KeptValues", "put", "(ILjava/lang/Object;Ljava/lang/Object;)Ljava/lang/Object;"⟩ : MethodName) prog_31_method_7_code 5 (some (.object "java/lang/Object")) :: ws) ({ frames := 1, cells := 0, slots := 0, locals := 15 } : Room)) (fun a U => a = #[(.ref x0), (.int x1), (.ref x2), (.ref x3)] ∧ Z.Warmed39 U.vm ∧ U.heap = h0) (fun _ _ _ _ _ => True) (fun _ U o U' => ∃ v L, o = .returned v ∧ Q10_f4 Z x0 x1 x2 x3 ka ha va kk kh kw t hf KA VA sh mo sz i0 kf q h0 n0 v U'.heap L ∧ FrameEnd U o U' L ({ frames := 1, cells := 0, slots := 0, locals := 15 } : Room).cells ({ frames := 1, cells := 0, slots := 0, locals := 15 } : Room).slots) := by
  refine MetFree.of_bodySF (plainFor_of_name pn_10) hisR ?_
  intro p e s m args below meth c s₁ Bd hml0 hP hK
  obtain ⟨rfl, hZ, hh⟩ := hP
  have w_2 := own_at hw 2 rfl
  have w_3 := own_at hw 3 rfl
  have w_11 := own_at hw 11 rfl
  have w_12 := own_at hw 12 rfl
  have w_24 := own_at hw 24 rfl
  have w_25 := own_at hw 25 rfl
  have w_26 := own_at hw 26 rfl
  have w_27 := own_at hw 27 rfl
  have w_28 := own_at hw 28 rfl
  have w_29 := own_at hw 29 rfl
  have w_32 := own_at hw 32 rfl
  have w_36 := own_at hw 36 rfl
  have w_38 := own_at hw 38 rfl
  have w_39 := own_at hw 39 rfl
  have w_40 := own_at hw 40 rfl
  have w_41 := own_at hw 41 rfl
  have w_63 := own_at hw 63 rfl
  have w_64 := own_at hw 64 rfl
  have w_66 := own_at hw 66 rfl
  have w_67 := own_at hw 67 rfl
  have w_68 := own_at hw 68 rfl
  have w_69 := own_at hw 69 rfl
  have hx := Bd.exec
  have hby := Bd.bytes
  have hml : c.maxLocals = 5 := hml0
  have hown : s.vm.findClass "com/example/nehaba/nehaba/input/KeptValues" = some m.cls := findClass_of_methodNamed Bd.named
  have hnm := (name_of_methodNamed Bd.named Bd.method).1
  have X0 : Stand p l e ({ frames := 1, cells := 0, slots := 0, locals := 15 } : Room) s m #[(.ref x0), (.int x1), (.ref x2), (.ref x3)] below meth c s₁ [] 0 0 := Stand.of_body Bd
  have e0 : s₁.heap = h0 := by rw [← hh, Bd.state]; rfl
  have N0 := Fr.nil n0
  have K0 : Keep h0 h0 [x0, ka, ha, va] := Keep.refl h0 _
  refine (?_ : Goes p e below s ({ frames := 1, cells := 0, slots := 0, locals := 15 } : Room).cells ({ frames := 1, cells := 0, slots := 0, locals := 15 } : Room).slots (fun v h L => Q10_f4 Z x0 x1 x2 x3 ka ha va kk kh kw t hf KA VA sh mo sz i0 kf q h0 n0 v h L) (s₁.setTop (entryFrame m #[(.ref x0), (.int x1), (.ref x2), (.ref x3)] 5)))
  rw [ef_10_f4 m x0 x1 x2 x3 ka ha va kk kh kw t hf KA VA sh mo sz i0 kf q ]
  show Goes _ _ _ _ _ _ _ (s₁.setTop (mkF m 0 #[.val (.ref x0), .val (.int x1), .val (.ref x2), .val (.ref x3), .unset] []))
  refine G1 (fun _ => XS.aloadN X0.here hx rfl (hb hby d10_0) rfl rfl) ?_
  obtain ⟨T1, X1, e1, st1⟩ := getF X0 hx hZ hown (host := "") (Or.inl w_63) Via.refl e0 Fz (g := (mkF m 1 #[.val (.ref x0), .val (.int x1), .val (.ref x2), .val (.ref x3), .unset] [(.ref x0)])) rfl rfl (hb hby d10_1)
  refine G1 st1 ?_
  show Goes _ _ _ _ _ _ _ (T1.setTop (mkF m 4 _ [(.int sz)]))
  refine G1 (fun _ => XS.aloadN X1.here hx rfl (hb hby d10_4) rfl rfl) ?_
  obtain ⟨T2, X2, e2, st2⟩ := getF X1 hx hZ hown (host := "") (Or.inl w_11) Via.refl e1 Fm (g := (mkF m 5 #[.val (.ref x0), .val (.int x1), .val (.ref x2), .val (.ref x3), .unset] [(.ref x0), (.int sz)])) rfl rfl (hb hby d10_5)
  refine G1 st2 ?_
  show Goes _ _ _ _ _ _ _ (T2.setTop (mkF m 8 _ [(.int mo), (.int sz)]))
  refine G1 (fun _ => XS.icmpNo X2.here hx rfl (hb hby d10_8) rfl (teq hfull).2) ?_
  show Goes _ _ _ _ _ _ _ (T2.setTop (mkF m 11 _ []))
  refine G1 (fun _ => XS.aloadN X2.here hx rfl (hb hby d10_11) rfl rfl) ?_
  obtain ⟨T3, X3, e3, st3⟩ := getF X2 hx hZ hown (host := "") (Or.inl w_24) Via.refl e2 Fk (g := (mkF m 12 #[.val (.ref x0), .val (.int x1), .val (.ref x2), .val (.ref x3), .unset] [(.ref x0)])) rfl rfl (hb hby d10_12)
  refine G1 st3 ?_
  show Goes _ _ _ _ _ _ _ (T3.setTop (mkF m 15 _ [(.ref ka)]))
  refine G1 (fun _ => XS.aconstNull X3.here hx rfl (hb hby d10_15)) ?_
  obtain ⟨_, _, ⟨T4, L4, k4, n4⟩, -, X4, ⟨Lc4, hQ4, l4, y4, z4⟩, st4⟩ := Jvm.LawKit.callS X3 hx (y := mN3) hown (mvT hZ w_66) (mvT hZ w_67) (mvT hZ w_68) (mvT hZ w_69) (by decide) (backOf (W := 0) (rm11_4 l Z a0 hw [] ka kk (fun j => rfv KA (t j)) h0 n0 Z0 Ak g_ka) hZ w_69 w_68 (by decide) (by decide)) (g := (mkF m 16 #[.val (.ref x0), .val (.int x1), .val (.ref x2), .val (.ref x3), .unset] [.null, (.ref ka)])) rfl (by rw [hml]; rfl) (argsL := [(.ref ka), .null]) (rest := []) (lenOf pd_7 rfl) rfl (by show 2 * 0 + _ ≤ _; exact Nat.le_of_eq rfl) (hb hby d10_16) (fun _ _ => ⟨rfl, e3, (by decide : 0 + 0 ≤ _), (by decide : 0 + 0 ≤ _)⟩)
  dsimp only [Pt.U, Pt.locs, Pt.cells, Pt.slots] at X4 l4 y4 z4 st4 hQ4
  rw [l4, y4, z4] at X4
  obtain ⟨N4, KK4, rfl, V4⟩ := hQ4
  have NA4 := Fr.app N0 N4
  have f5 := E0.keep KK4
  have f6 := Fk.keep KK4 (ninS (Ne.symm ne_ka_x0) nin0)
  have f7 := Fh.keep KK4 (ninS (Ne.symm ne_ka_x0) nin0)
  have f8 := Fv.keep KK4 (ninS (Ne.symm ne_ka_x0) nin0)
  have f9 := Fm.keep KK4 (ninS (Ne.symm ne_ka_x0) nin0)
  have f10 := Fz.keep KK4 (ninS (Ne.symm ne_ka_x0) nin0)
  have f11 := Fs.keep KK4 (ninS (Ne.symm ne_ka_x0) nin0)
  have f13 := Ah.keep KK4 (ninS ne_ha_ka nin0)
  have f14 := Av.keep KK4 (ninS ne_va_ka nin0)
  have f15 := own_insKeep I2 KK4
  have f16 := own_insKeep I3 KK4
  have K17 : Keep h0 T4.heap [x0, ka, ha, va] := K0.trans KK4 (allS (Or.inl (List.mem_of_getElem? (i := 1) rfl)) all0)
  have Z17 : n0 ≤ T4.heap.size := Nat.le_trans Z0 KK4.1
  refine G1 st4 ?_
  show Goes _ _ _ _ _ _ _ (T4.setTop (mkF m 19 _ []))
  refine G1 (fun _ => XS.aloadN X4.here hx rfl (hb hby d10_19) rfl rfl) ?_
  obtain ⟨T18, X18, e18, st18⟩ := getF X4 hx hZ hown (host := "") (Or.inl w_28) Via.refl rfl f8 (g := (mkF m 20 #[.val (.ref x0), .val (.int x1), .val (.ref x2), .val (.ref x3), .unset] [(.ref x0)])) rfl rfl (hb hby d10_20)
  refine G1 st18 ?_
  show Goes _ _ _ _ _ _ _ (T18.setTop (mkF m 23 _ [(.ref va)]))
  refine G1 (fun _ => XS.aconstNull X18.here hx rfl (hb hby d10_23)) ?_
  obtain ⟨_, _, ⟨T19, L19, k19, n19⟩, -, X19, ⟨Lc19, hQ19, l19, y19, z19⟩, st19⟩ := Jvm.LawKit.callS X18 hx (y := mN3) hown (mvT hZ w_66) (mvT hZ w_67) (mvT hZ w_68) (mvT hZ w_69) (by decide) (backOf (W := 0) (rm11_4 l Z a0 hw [] va kw (fun j => rfv VA (t j)) T4.heap n0 Z17 f14 g_va) hZ w_69 w_68 (by decide) (by decide)) (g := (mkF m 24 #[.val (.ref x0), .val (.int x1), .val (.ref x2), .val (.ref x3), .unset] [.null, (.ref va)])) rfl (by rw [hml]; rfl) (argsL := [(.ref va), .null]) (rest := []) (lenOf pd_7 rfl) rfl (by show 2 * 0 + _ ≤ _; exact Nat.le_of_eq rfl) (hb hby d10_24) (fun _ _ => ⟨rfl, e18, (by decide : 0 + 0 ≤ _), (by decide : 0 + 0 ≤ _)⟩)
  dsimp only [Pt.U, Pt.locs, Pt.cells, Pt.slots] at X19 l19 y19 z19 st19 hQ19
  rw [l19, y19, z19] at X19
  obtain ⟨N19, KK19, rfl, V19⟩ := hQ19
  have NA19 := Fr.app NA4 N19
  have f20 := f5.keep KK19
  have f21 := f6.keep KK19 (ninS (Ne.symm ne_va_x0) nin0)
  have f22 := f7.keep KK19 (ninS (Ne.symm ne_va_x0) nin0)
  have f23 := f8.keep KK19 (ninS (Ne.symm ne_va_x0) nin0)
  have f24 := f9.keep KK19 (ninS (Ne.symm ne_va_x0) nin0)
  have f25 := f10.keep KK19 (ninS (Ne.symm ne_va_x0) nin0)
  have f26 := f11.keep KK19 (ninS (Ne.symm ne_va_x0) nin0)
  have f27 := f13.keep KK19 (ninS (Ne.symm ne_va_ha) nin0)
  have f29 := own_insKeep f15 KK19
  have f30 := own_insKeep f16 KK19
  have f31 := V4.keep KK19 (ninS (Ne.symm ne_va_ka) nin0)
  have K32 : Keep h0 T19.heap [x0, ka, ha, va] := K17.trans KK19 (allS (Or.inl (List.mem_of_getElem? (i := 3) rfl)) all0)
  have Z32 : n0 ≤ T19.heap.size := Nat.le_trans Z17 KK19.1
  refine G1 st19 ?_
  show Goes _ _ _ _ _ _ _ (T19.setTop (mkF m 27 _ []))
  refine G1 (fun _ => XS.aloadN X19.here hx rfl (hb hby d10_27) rfl rfl) ?_
  refine G1 (fun _ => XS.iconst X19.here hx rfl (hb hby d10_28)) ?_
  obtain ⟨T33, h33, X33, e33, W33, st33⟩ := putF X19 hx hZ hown (host := "") (Or.inl w_63) Via.refl rfl f25 f20 (Or.inl w_64) w_2 (ty := .int) (by decide) rfl rfl (g := (mkF m 29 #[.val (.ref x0), .val (.int x1), .val (.ref x2), .val (.ref x3), .unset] [(.int (0 : Int32)), (.ref x0)])) rfl rfl (hb hby d10_29)
  refine G1 st33 ?_
  have f34 := f20.wr W33
  have f35 := f21.other W33 (Or.inr (slot_ne (Or.inr w_25) (Or.inl w_64) (by decide) (t := (.array (.object "java/lang/Object"))) (t' := .int) (by decide) (by decide)))
  have f36 := f22.other W33 (Or.inr (slot_ne (Or.inr w_27) (Or.inl w_64) (by decide) (t := (.array .int)) (t' := .int) (by decide) (by decide)))
  have f37 := f23.other W33 (Or.inr (slot_ne (Or.inr w_29) (Or.inl w_64) (by decide) (t := (.array (.object "java/lang/Object"))) (t' := .int) (by decide) (by decide)))
  have f38 := f24.other W33 (Or.inr (slot_ne (Or.inr w_12) (Or.inl w_64) (by decide) (t := .int) (t' := .int) (by decide) (by decide)))
  have f39 := f25.same W33
  have f40 := f26.other W33 (Or.inr (slot_ne (Or.inr w_32) (Or.inl w_64) (by decide) (t := .int) (t' := .int) (by decide) (by decide)))
  have f41 := f27.other W33 ne_ha_x0
  have f42 := f29.wr W33
  have f43 := f30.wr W33
  have f44 := f31.other W33 ne_ka_x0
  have f45 := V19.other W33 ne_va_x0
  have K46 : Keep h0 h33 [x0, ka, ha, va] := K32.wr W33 (Or.inl (List.mem_of_getElem? (i := 0) rfl))
  have Z46 : n0 ≤ h33.size := by rw [Wr.size W33]; exact Z32
  have N46 := Fr.snoc X33 NA19 g_x0
  show Goes _ _ _ _ _ _ _ (T33.setTop (mkF m 32 _ []))
  refine G1 (fun _ => XS.aloadN X33.here hx rfl (hb hby d10_32) rfl rfl) ?_
  refine G1 (fun _ => XS.iloadN X33.here hx rfl (hb hby d10_33) rfl ) ?_
  obtain ⟨cq47, q47, q47'⟩ := f34.cell
  obtain ⟨_, _, ⟨T47, L47, k47, n47⟩, -, X47, ⟨Lc47, hQ47, l47, y47, z47⟩, st47⟩ := X33.privateBack hx (y := mN1) hown (mvT hZ w_38) (mvT hZ w_39) (own_selPriv (mvT hZ w_36) rfl (mvP hZ w_40) (mvT hZ w_39) (by decide)) (Cond.privateMethod_at (mvP hZ w_40 (args := #[]))) (mvT hZ w_41) (by decide) (backOf (W := 0) (rm6 l Z a0 hw [] x0 x1 ka ha va kk kh kw 4 own_t0 hf KA VA sh mo (0 : Int32) h33 n0 Z46 f34 f35 f36 f37 f38 f39 f40 f44 f41 f45) hZ w_41 w_3 (by decide) (by decide)) (g := (mkF m 34 #[.val (.ref x0), .val (.int x1), .val (.ref x2), .val (.ref x3), .unset] [(.int x1), (.ref x0)])) rfl (by rw [hml]; rfl) (Steps.refl _) (a := x0) (by rw [e33]; exact q47) q47' (argsL := [(.int x1)]) (rest := []) (lenOf pd_2 rfl) rfl (by show 2 * 0 + _ ≤ _; exact Nat.le_of_eq rfl) (hb hby d10_34) (fun _ _ => ⟨rfl, e33, (by decide : 0 + 0 ≤ _), (by decide : 0 + 0 ≤ _)⟩)
  dsimp only [Pt.U, Pt.locs, Pt.cells, Pt.slots] at X47 l47 y47 z47 st47 hQ47
  rw [l47, y47, z47] at X47
  obtain ⟨N47, eh47, hv47⟩ := hQ47
  have NA47 := Fr.app N46 N47
  subst hv47
  refine G2 st47 ?_
  show Goes _ _ _ _ _ _ _ (T47.setTop (mkF m 37 _ [(.int (own_f x1 sh))]))
  refine G1 (fun _ => XS.istore X47.here hx rfl (hb hby d10_37) rfl (l' := #[.val (.ref x0), .val (.int x1), .val (.ref x2), .val (.ref x3), .val (.int (own_f x1 sh))]) rfl) ?_
  show Goes _ _ _ _ _ _ _ (T47.setTop (mkF m 39 _ []))
  show Goes _ _ _ _ _ _ _ (T47.setTop (mkF m 39 #[.val (.ref x0), .val (.int x1), .val (.ref x2), .val (.ref x3), .val (.int (own_f x1 sh))] []))
  refine G1 (fun _ => XS.aloadN X47.here hx rfl (hb hby d10_39) rfl rfl) ?_
  obtain ⟨T48, X48, e48, st48⟩ := getF X47 hx hZ hown (host := "") (Or.inl w_24) Via.refl eh47 f35 (g := (mkF m 40 #[.val (.ref x0), .val (.int x1), .val (.ref x2), .val (.ref x3), .val (.int (own_f x1 sh))] [(.ref x0)])) rfl rfl (hb hby d10_40)
  refine G1 st48 ?_
  show Goes _ _ _ _ _ _ _ (T48.setTop (mkF m 43 _ [(.ref ka)]))
  refine G1 (fun _ => XS.iload X48.here hx rfl (hb hby d10_43) rfl ) ?_
  obtain ⟨cl49, Ar49, q49, S49, H49⟩ := id f44
  have hin49 := own_arfin S49 (own_first x1 hS).1 (own_first x1 hS).2
  have hat49 : cl49.slots[((own_f x1 sh)).toNatClampNeg]? = some .null := H49 _ (own_first x1 hS).2
  refine G1 (fun _ => X48.aaload hx (j := (own_f x1 sh)) (v := .null) (by rw [e48]; exact Ar49.1) (State.isArrayOf_alike hZ.alike Ar49.2.1) rfl Ar49.2.2 hin49 hat49 (g := (mkF m 45 #[.val (.ref x0), .val (.int x1), .val (.ref x2), .val (.ref x3), .val (.int (own_f x1 sh))] [(.int (own_f x1 sh)), (.ref ka)])) rfl rfl (hb hby d10_45) _) ?_
  show Goes _ _ _ _ _ _ _ (T48.setTop (mkF m 46 _ [.null]))
  refine G1 (fun _ => XS.ifnullYes X48.here hx rfl (pc0 := 46) (pc' := 60) rfl (hb hby d10_46) rfl (by decide) (by decide)) ?_
  show Goes _ _ _ _ _ _ _ (T48.setTop (mkF m 60 _ []))
  refine G1 (fun _ => XS.aloadN X48.here hx rfl (hb hby d10_60) rfl rfl) ?_
  obtain ⟨T50, X50, e50, st50⟩ := getF X48 hx hZ hown (host := "") (Or.inl w_24) Via.refl e48 f35 (g := (mkF m 61 #[.val (.ref x0), .val (.int x1), .val (.ref x2), .val (.ref x3), .val (.int (own_f x1 sh))] [(.ref x0)])) rfl rfl (hb hby d10_61)
  refine G1 st50 ?_
  show Goes _ _ _ _ _ _ _ (T50.setTop (mkF m 64 _ [(.ref ka)]))
  refine G1 (fun _ => XS.iload X50.here hx rfl (hb hby d10_64) rfl ) ?_
  refine G1 (fun _ => XS.aloadN X50.here hx rfl (hb hby d10_66) rfl rfl) ?_
  obtain ⟨cl51, Ar51, q51, S51, H51⟩ := id f44
  have hin51 := own_arfin S51 (own_first x1 hS).1 (own_first x1 hS).2
  obtain ⟨T52, h52, X52, e52, W52, st52⟩ := stR X50 hx hZ e50 Ar51 (j := (own_f x1 sh)) hin51 rfl (Sto.ofV Ar51 q51 Ok f42) (g := (mkF m 67 #[.val (.ref x0), .val (.int x1), .val (.ref x2), .val (.ref x3), .val (.int (own_f x1 sh))] [(.ref x2), (.int (own_f x1 sh)), (.ref ka)])) rfl rfl (hb hby d10_67)
  refine G1 st52 ?_
  have V52 := ArF.set Ar51 q51 S51 H51 W52
  have f53 := f34.wr W52
  have f54 := f35.other W52 (Or.inl (Ne.symm ne_ka_x0))
  have f55 := f36.other W52 (Or.inl (Ne.symm ne_ka_x0))
  have f56 := f37.other W52 (Or.inl (Ne.symm ne_ka_x0))
  have f57 := f38.other W52 (Or.inl (Ne.symm ne_ka_x0))
  have f58 := f39.other W52 (Or.inl (Ne.symm ne_ka_x0))
  have f59 := f40.other W52 (Or.inl (Ne.symm ne_ka_x0))
  have f60 := f41.other W52 ne_ha_ka
  have f61 := f42.wr W52
  have f62 := f43.wr W52
  have f63 := V52
  have f64 := f45.other W52 ne_va_ka
  have K65 : Keep h0 h52 [x0, ka, ha, va] := K46.wr W52 (Or.inl (List.mem_of_getElem? (i := 1) rfl))
  have Z65 : n0 ≤ h52.size := by rw [Wr.size W52]; exact Z46
  have N65 := Fr.snoc X52 NA47 g_ka
  show Goes _ _ _ _ _ _ _ (T52.setTop (mkF m 68 _ []))
  refine G1 (fun _ => XS.aloadN X52.here hx rfl (hb hby d10_68) rfl rfl) ?_
  obtain ⟨T66, X66, e66, st66⟩ := getF X52 hx hZ hown (host := "") (Or.inl w_26) Via.refl e52 f55 (g := (mkF m 69 #[.val (.ref x0), .val (.int x1), .val (.ref x2), .val (.ref x3), .val (.int (own_f x1 sh))] [(.ref x0)])) rfl rfl (hb hby d10_69)
  refine G1 st66 ?_
  show Goes _ _ _ _ _ _ _ (T66.setTop (mkF m 72 _ [(.ref ha)]))
  refine G1 (fun _ => XS.iload X66.here hx rfl (hb hby d10_72) rfl ) ?_
  refine G1 (fun _ => XS.iloadN X66.here hx rfl (hb hby d10_74) rfl ) ?_
  obtain ⟨cl67, Ar67, q67, S67, H67⟩ := id f60
  have hin67 := own_arfin S67 (own_first x1 hS).1 (own_first x1 hS).2
  obtain ⟨T68, h68, X68, e68, W68, st68⟩ := stI X66 hx hZ e66 Ar67 (j := (own_f x1 sh)) hin67 (g := (mkF m 75 #[.val (.ref x0), .val (.int x1), .val (.ref x2), .val (.ref x3), .val (.int (own_f x1 sh))] [(.int x1), (.int (own_f x1 sh)), (.ref ha)])) rfl rfl (hb hby d10_75)
  refine G1 st68 ?_
  have V68 := ArF.set Ar67 q67 S67 H67 W68
  have f69 := f53.wr W68
  have f70 := f54.other W68 (Or.inl (Ne.symm ne_ha_x0))
  have f71 := f55.other W68 (Or.inl (Ne.symm ne_ha_x0))
  have f72 := f56.other W68 (Or.inl (Ne.symm ne_ha_x0))
  have f73 := f57.other W68 (Or.inl (Ne.symm ne_ha_x0))
  have f74 := f58.other W68 (Or.inl (Ne.symm ne_ha_x0))
  have f75 := f59.other W68 (Or.inl (Ne.symm ne_ha_x0))
  have f76 := V68
  have f77 := f61.wr W68
  have f78 := f62.wr W68
  have f79 := f63.other W68 (Ne.symm ne_ha_ka)
  have f80 := f64.other W68 ne_va_ha
  have K81 : Keep h0 h68 [x0, ka, ha, va] := K65.wr W68 (Or.inl (List.mem_of_getElem? (i := 2) rfl))
  have Z81 : n0 ≤ h68.size := by rw [Wr.size W68]; exact Z65
  have N81 := Fr.snoc X68 N65 g_ha
  show Goes _ _ _ _ _ _ _ (T68.setTop (mkF m 76 _ []))
  refine G1 (fun _ => XS.aloadN X68.here hx rfl (hb hby d10_76) rfl rfl) ?_
  obtain ⟨T82, X82, e82, st82⟩ := getF X68 hx hZ hown (host := "") (Or.inl w_28) Via.refl e68 f72 (g := (mkF m 77 #[.val (.ref x0), .val (.int x1), .val (.ref x2), .val (.ref x3), .val (.int (own_f x1 sh))] [(.ref x0)])) rfl rfl (hb hby d10_77)
  refine G1 st82 ?_
  show Goes _ _ _ _ _ _ _ (T82.setTop (mkF m 80 _ [(.ref va)]))
  refine G1 (fun _ => XS.iload X82.here hx rfl (hb hby d10_80) rfl ) ?_
  refine G1 (fun _ => XS.aloadN X82.here hx rfl (hb hby d10_82) rfl rfl) ?_
  obtain ⟨cl83, Ar83, q83, S83, H83⟩ := id f80
  have hin83 := own_arfin S83 (own_first x1 hS).1 (own_first x1 hS).2
  obtain ⟨T84, h84, X84, e84, W84, st84⟩ := stR X82 hx hZ e82 Ar83 (j := (own_f x1 sh)) hin83 rfl (Sto.ofV Ar83 q83 Ow f78) (g := (mkF m 83 #[.val (.ref x0), .val (.int x1), .val (.ref x2), .val (.ref x3), .val (.int (own_f x1 sh))] [(.ref x3), (.int (own_f x1 sh)), (.ref va)])) rfl rfl (hb hby d10_83)
  refine G1 st84 ?_
  have V84 := ArF.set Ar83 q83 S83 H83 W84
  have f85 := f69.wr W84
  have f86 := f70.other W84 (Or.inl (Ne.symm ne_va_x0))
  have f87 := f71.other W84 (Or.inl (Ne.symm ne_va_x0))
  have f88 := f72.other W84 (Or.inl (Ne.symm ne_va_x0))
  have f89 := f73.other W84 (Or.inl (Ne.symm ne_va_x0))
  have f90 := f74.other W84 (Or.inl (Ne.symm ne_va_x0))
  have f91 := f75.other W84 (Or.inl (Ne.symm ne_va_x0))
  have f92 := f76.other W84 (Ne.symm ne_va_ha)
  have f93 := f77.wr W84
  have f94 := f78.wr W84
  have f95 := f79.other W84 (Ne.symm ne_va_ka)
  have f96 := V84
  have K97 : Keep h0 h84 [x0, ka, ha, va] := K81.wr W84 (Or.inl (List.mem_of_getElem? (i := 3) rfl))
  have Z97 : n0 ≤ h84.size := by rw [Wr.size W84]; exact Z81
  have N97 := Fr.snoc X84 N81 g_va
  show Goes _ _ _ _ _ _ _ (T84.setTop (mkF m 84 _ []))
  refine G1 (fun _ => XS.aloadN X84.here hx rfl (hb hby d10_84) rfl rfl) ?_
  refine G1 (fun _ => XS.dup X84.here hx rfl (hb hby d10_85) rfl rfl) ?_
  obtain ⟨T98, X98, e98, st98⟩ := getF X84 hx hZ hown (host := "") (Or.inl w_63) Via.refl e84 f90 (g := (mkF m 86 #[.val (.ref x0), .val (.int x1), .val (.ref x2), .val (.ref x3), .val (.int (own_f x1 sh))] [(.ref x0), (.ref x0)])) rfl rfl (hb hby d10_86)
  refine G1 st98 ?_
  show Goes _ _ _ _ _ _ _ (T98.setTop (mkF m 89 _ [(.int (0 : Int32)), (.ref x0)]))
  refine G1 (fun _ => XS.iconst X98.here hx rfl (hb hby d10_89)) ?_
  refine G1 (fun _ => XS.iadd X98.here hx rfl (hb hby d10_90) rfl) ?_
  show Goes _ _ _ _ _ _ _ (T98.setTop (mkF m 91 _ [(.int (1 : Int32)), (.ref x0)]))
  obtain ⟨T99, h99, X99, e99, W99, st99⟩ := putF X98 hx hZ hown (host := "") (Or.inl w_63) Via.refl e98 f90 f85 (Or.inl w_64) w_2 (ty := .int) (by decide) rfl rfl (g := (mkF m 91 #[.val (.ref x0), .val (.int x1), .val (.ref x2), .val (.ref x3), .val (.int (own_f x1 sh))] [(.int (1 : Int32)), (.ref x0)])) rfl rfl (hb hby d10_91)
  refine G1 st99 ?_
  have f100 := f85.wr W99
  have f101 := f86.other W99 (Or.inr (slot_ne (Or.inr w_25) (Or.inl w_64) (by decide) (t := (.array (.object "java/lang/Object"))) (t' := .int) (by decide) (by decide)))
  have f102 := f87.other W99 (Or.inr (slot_ne (Or.inr w_27) (Or.inl w_64) (by decide) (t := (.array .int)) (t' := .int) (by decide) (by decide)))
  have f103 := f88.other W99 (Or.inr (slot_ne (Or.inr w_29) (Or.inl w_64) (by decide) (t := (.array (.object "java/lang/Object"))) (t' := .int) (by decide) (by decide)))
  have f104 := f89.other W99 (Or.inr (slot_ne (Or.inr w_12) (Or.inl w_64) (by decide) (t := .int) (t' := .int) (by decide) (by decide)))
  have f105 := f90.same W99
  have f106 := f91.other W99 (Or.inr (slot_ne (Or.inr w_32) (Or.inl w_64) (by decide) (t := .int) (t' := .int) (by decide) (by decide)))
  have f107 := f92.other W99 ne_ha_x0
  have f108 := f93.wr W99
  have f109 := f94.wr W99
  have f110 := f95.other W99 ne_ka_x0
  have f111 := f96.other W99 ne_va_x0
  have K112 : Keep h0 h99 [x0, ka, ha, va] := K97.wr W99 (Or.inl (List.mem_of_getElem? (i := 0) rfl))
  have Z112 : n0 ≤ h99.size := by rw [Wr.size W99]; exact Z97
  have N112 := Fr.snoc X99 N97 g_x0
  show Goes _ _ _ _ _ _ _ (T99.setTop (mkF m 94 _ []))
  refine G1 (fun _ => XS.aloadN X99.here hx rfl (hb hby d10_94) rfl rfl) ?_
  exact Goes.ret X99 hx (BodyLoose.notSynchronized Bd) Bd.returns rfl (Or.inr (Or.inr (Or.inr (Or.inr ⟨rfl, rfl, rfl⟩)))) (hb hby d10_95) (by show Q10_f4 Z x0 x1 x2 x3 ka ha va kk kh kw t hf KA VA sh mo sz i0 kf q h0 n0 (some (.ref x3)) T99.heap _; rw [e99]; exact ⟨N112, K112, rfl, f100, f101, f102, f103, f104, f105, f106, (f110.congr (own_rfset (t := own_t0) hka _ hq)), (f107.congr (own_hset _ hq)), (f111.congr (own_rfset (t := own_t0) hva _ hq))⟩) (by decide) (by decide)
theorem d4_0 : decode jdk_33_method_47_code 0 = .ok (.iload_n 0, 1) := by decide +kernel
theorem d4_1 : decode jdk_33_method_47_code 1 = .ok (.ifCond .gt 14, 3) := by decide +kernel
theorem d4_15 : decode jdk_33_method_47_code 15 = .ok (.bipush 31, 2) := by decide +kernel
theorem d4_17 : decode jdk_33_method_47_code 17 = .ok (.istore_n 1, 1) := by decide +kernel
theorem d4_18 : decode jdk_33_method_47_code 18 = .ok (.iload_n 0, 1) := by decide +kernel
theorem d4_19 : decode jdk_33_method_47_code 19 = .ok (.ldc_w 264, 3) := by decide +kernel
theorem d4_22 : decode jdk_33_method_47_code 22 = .ok (.if_icmp .lt 11, 3) := by decide +kernel
theorem d4_33 : decode jdk_33_method_47_code 33 = .ok (.iload_n 0, 1) := by decide +kernel
theorem d4_34 : decode jdk_33_method_47_code 34 = .ok (.sipush 256, 3) := by decide +kernel
theorem d4_37 : decode jdk_33_method_47_code 37 = .ok (.if_icmp .lt 11, 3) := by decide +kernel
theorem d4_48 : decode jdk_33_method_47_code 48 = .ok (.iload_n 0, 1) := by decide +kernel
theorem d4_49 : decode jdk_33_method_47_code 49 = .ok (.bipush 16, 2) := by decide +kernel
theorem d4_51 : decode jdk_33_method_47_code 51 = .ok (.if_icmp .lt 10, 3) := by decide +kernel
theorem d4_61 : decode jdk_33_method_47_code 61 = .ok (.iload_n 0, 1) := by decide +kernel
theorem d4_62 : decode jdk_33_method_47_code 62 = .ok (.iconst 4, 1) := by decide +kernel
theorem d4_63 : decode jdk_33_method_47_code 63 = .ok (.if_icmp .lt 10, 3) := by decide +kernel
theorem d4_73 : decode jdk_33_method_47_code 73 = .ok (.iload_n 1, 1) := by decide +kernel
theorem d4_74 : decode jdk_33_method_47_code 74 = .ok (.iload_n 0, 1) := by decide +kernel
theorem d4_75 : decode jdk_33_method_47_code 75 = .ok (.iconst 1, 1) := by decide +kernel
theorem d4_76 : decode jdk_33_method_47_code 76 = .ok (.iushr, 1) := by decide +kernel
theorem d4_77 : decode jdk_33_method_47_code 77 = .ok (.isub, 1) := by decide +kernel
theorem d4_78 : decode jdk_33_method_47_code 78 = .ok (.ireturn, 1) := by decide +kernel
theorem pn_4 : plainName "java/lang/Integer" = true := by first | (simp [plainName, overriddenIn]; done) | decide +kernel
theorem ef_4_1 (m : MethodId)   : entryFrame m #[(.int (1 : Int32))] 2 = mkF m 0 #[.val (.int (1 : Int32)), .unset] [] := by first | (simp [entryFrame, mkF, argsToLocals, Value.category]; done) | rfl
def Q4_1 (Z : State)  (h0 : Heap) (n0 : Nat) (v : Option Value) (h : Heap) (L : List Loc) : Prop := Fr n0 L ∧ h = h0 ∧ ((v = some (.int (31 : Int32))))
set_option maxRecDepth 65536 in
set_option maxHeartbeats 40000000 in
theorem rm4_1 (l : Launch) (Z : State) (a0 : Array Value) (hw : ∀ d ∈ tables_1, d.before a0 Z = true) (ws : List Jvm.Cond)  (h0 : Heap) (n0 : Nat) (Z0 : n0 ≤ h0.size) :
    MetFree l (⟨"java/lang/Integer", "numberOfLeadingZeros", "(I)I"⟩ : MethodName) (head1 (Jvm.Cond.code (⟨"java/lang/Integer", "numberOfLeadingZeros", "(I)I"⟩ : MethodName) jdk_33_method_47_code 2 (some .int) :: ws) ({ frames := 0, cells := 0, slots := 0, locals := 0 } : Room)) (fun a U => a = #[(.int (1 : Int32))] ∧ Z.Warmed39 U.vm ∧ U.heap = h0) (fun _ _ _ _ _ => True) (fun _ U o U' => ∃ v L, o = .returned v ∧ Q4_1 Z  h0 n0 v U'.heap L ∧ FrameEnd U o U' L ({ frames := 0, cells := 0, slots := 0, locals := 0 } : Room).cells ({ frames := 0, cells := 0, slots := 0, locals := 0 } : Room).slots) := by
  refine MetFree.of_bodySF (plainFor_of_name pn_4) hisR ?_
  intro p e s m args below meth c s₁ Bd hml0 hP hK
  obtain ⟨rfl, hZ, hh⟩ := hP
  have w_21 := own_at hw 21 rfl
  have hx := Bd.exec
  have hby := Bd.bytes
  have hml : c.maxLocals = 2 := hml0
  have hown : s.vm.findClass "java/lang/Integer" = some m.cls := findClass_of_methodNamed Bd.named
  have hnm := (name_of_methodNamed Bd.named Bd.method).1
  have X0 : Stand p l e ({ frames := 0, cells := 0, slots := 0, locals := 0 } : Room) s m #[(.int (1 : Int32))] below meth c s₁ [] 0 0 := Stand.of_body Bd
  have e0 : s₁.heap = h0 := by rw [← hh, Bd.state]; rfl
  have N0 := Fr.nil n0
  have K0 : Keep h0 h0 [] := Keep.refl h0 _
  refine (?_ : Goes p e below s ({ frames := 0, cells := 0, slots := 0, locals := 0 } : Room).cells ({ frames := 0, cells := 0, slots := 0, locals := 0 } : Room).slots (fun v h L => Q4_1 Z  h0 n0 v h L) (s₁.setTop (entryFrame m #[(.int (1 : Int32))] 2)))
  rw [ef_4_1 m  ]
  show Goes _ _ _ _ _ _ _ (s₁.setTop (mkF m 0 #[.val (.int (1 : Int32)), .unset] []))
  refine G1 (fun _ => XS.iloadN X0.here hx rfl (hb hby d4_0) rfl ) ?_
  refine G1 (fun _ => XS.ifYes X0.here hx rfl (pc0 := 1) (pc' := 15) rfl (hb hby d4_1) rfl ((if0 _ _).trans (tlt (by decide : (0 : Int32) < (1 : Int32))).2.2.1) (by decide) (by decide)) ?_
  show Goes _ _ _ _ _ _ _ (s₁.setTop (mkF m 15 _ []))
  refine G1 (fun _ => XS.bipush X0.here hx rfl (hb hby d4_15)) ?_
  refine G1 (fun _ => XS.istoreN X0.here hx rfl (hb hby d4_17) rfl (l' := #[.val (.int (1 : Int32)), .val (.int (31 : Int32))]) rfl) ?_
  show Goes _ _ _ _ _ _ _ (s₁.setTop (mkF m 18 _ []))
  refine G1 (fun _ => XS.iloadN X0.here hx rfl (hb hby d4_18) rfl ) ?_
  refine G1 (fun _ => X0.ldcwInt hx hown (mvT hZ w_21) (g := (mkF m 19 #[.val (.int (1 : Int32)), .val (.int (31 : Int32))] [(.int (1 : Int32))])) rfl (hb hby d4_19) _) ?_
  refine G1 (fun _ => XS.icmpYes X0.here hx rfl (pc0 := 22) (pc' := 33) rfl (hb hby d4_22) rfl (tlt (by decide : (1 : Int32) < (65536 : Int32))).1 (by decide) (by decide)) ?_
  show Goes _ _ _ _ _ _ _ (s₁.setTop (mkF m 33 _ []))
  refine G1 (fun _ => XS.iloadN X0.here hx rfl (hb hby d4_33) rfl ) ?_
  refine G1 (fun _ => XS.sipush X0.here hx rfl (hb hby d4_34)) ?_
  refine G1 (fun _ => XS.icmpYes X0.here hx rfl (pc0 := 37) (pc' := 48) rfl (hb hby d4_37) rfl (tlt (by decide : (1 : Int32) < (256 : Int32))).1 (by decide) (by decide)) ?_
  show Goes _ _ _ _ _ _ _ (s₁.setTop (mkF m 48 _ []))
  refine G1 (fun _ => XS.iloadN X0.here hx rfl (hb hby d4_48) rfl ) ?_
  refine G1 (fun _ => XS.bipush X0.here hx rfl (hb hby d4_49)) ?_
  refine G1 (fun _ => XS.icmpYes X0.here hx rfl (pc0 := 51) (pc' := 61) rfl (hb hby d4_51) rfl (tlt (by decide : (1 : Int32) < (16 : Int32))).1 (by decide) (by decide)) ?_
  show Goes _ _ _ _ _ _ _ (s₁.setTop (mkF m 61 _ []))
  refine G1 (fun _ => XS.iloadN X0.here hx rfl (hb hby d4_61) rfl ) ?_
  refine G1 (fun _ => XS.iconst X0.here hx rfl (hb hby d4_62)) ?_
  refine G1 (fun _ => XS.icmpYes X0.here hx rfl (pc0 := 63) (pc' := 73) rfl (hb hby d4_63) rfl (tlt (by decide : (1 : Int32) < (4 : Int32))).1 (by decide) (by decide)) ?_
  show Goes _ _ _ _ _ _ _ (s₁.setTop (mkF m 73 _ []))
  refine G1 (fun _ => XS.iloadN X0.here hx rfl (hb hby d4_73) rfl ) ?_
  refine G1 (fun _ => XS.iloadN X0.here hx rfl (hb hby d4_74) rfl ) ?_
  refine G1 (fun _ => XS.iconst X0.here hx rfl (hb hby d4_75)) ?_
  refine G1 (fun _ => XS.iushr X0.here hx rfl (hb hby d4_76) rfl) ?_
  show Goes _ _ _ _ _ _ _ (s₁.setTop (mkF m 77 _ [(.int (0 : Int32)), (.int (31 : Int32))]))
  refine G1 (fun _ => XS.isub X0.here hx rfl (hb hby d4_77) rfl) ?_
  show Goes _ _ _ _ _ _ _ (s₁.setTop (mkF m 78 _ [(.int (31 : Int32))]))
  exact Goes.ret X0 hx (BodyLoose.notSynchronized Bd) Bd.returns rfl (Or.inl ⟨rfl, by simp, _, rfl⟩) (hb hby d4_78) (by show Q4_1 Z  h0 n0 (some (.int (31 : Int32))) s₁.heap _; rw [e0]; exact ⟨N0, rfl, rfl⟩) (by decide) (by decide)
theorem ef_4_3 (m : MethodId)   : entryFrame m #[(.int (3 : Int32))] 2 = mkF m 0 #[.val (.int (3 : Int32)), .unset] [] := by first | (simp [entryFrame, mkF, argsToLocals, Value.category]; done) | rfl
def Q4_3 (Z : State)  (h0 : Heap) (n0 : Nat) (v : Option Value) (h : Heap) (L : List Loc) : Prop := Fr n0 L ∧ h = h0 ∧ ((v = some (.int (30 : Int32))))
set_option maxRecDepth 65536 in
set_option maxHeartbeats 40000000 in
theorem rm4_3 (l : Launch) (Z : State) (a0 : Array Value) (hw : ∀ d ∈ tables_1, d.before a0 Z = true) (ws : List Jvm.Cond)  (h0 : Heap) (n0 : Nat) (Z0 : n0 ≤ h0.size) :
    MetFree l (⟨"java/lang/Integer", "numberOfLeadingZeros", "(I)I"⟩ : MethodName) (head1 (Jvm.Cond.code (⟨"java/lang/Integer", "numberOfLeadingZeros", "(I)I"⟩ : MethodName) jdk_33_method_47_code 2 (some .int) :: ws) ({ frames := 0, cells := 0, slots := 0, locals := 0 } : Room)) (fun a U => a = #[(.int (3 : Int32))] ∧ Z.Warmed39 U.vm ∧ U.heap = h0) (fun _ _ _ _ _ => True) (fun _ U o U' => ∃ v L, o = .returned v ∧ Q4_3 Z  h0 n0 v U'.heap L ∧ FrameEnd U o U' L ({ frames := 0, cells := 0, slots := 0, locals := 0 } : Room).cells ({ frames := 0, cells := 0, slots := 0, locals := 0 } : Room).slots) := by
  refine MetFree.of_bodySF (plainFor_of_name pn_4) hisR ?_
  intro p e s m args below meth c s₁ Bd hml0 hP hK
  obtain ⟨rfl, hZ, hh⟩ := hP
  have w_21 := own_at hw 21 rfl
  have hx := Bd.exec
  have hby := Bd.bytes
  have hml : c.maxLocals = 2 := hml0
  have hown : s.vm.findClass "java/lang/Integer" = some m.cls := findClass_of_methodNamed Bd.named
  have hnm := (name_of_methodNamed Bd.named Bd.method).1
  have X0 : Stand p l e ({ frames := 0, cells := 0, slots := 0, locals := 0 } : Room) s m #[(.int (3 : Int32))] below meth c s₁ [] 0 0 := Stand.of_body Bd
  have e0 : s₁.heap = h0 := by rw [← hh, Bd.state]; rfl
  have N0 := Fr.nil n0
  have K0 : Keep h0 h0 [] := Keep.refl h0 _
  refine (?_ : Goes p e below s ({ frames := 0, cells := 0, slots := 0, locals := 0 } : Room).cells ({ frames := 0, cells := 0, slots := 0, locals := 0 } : Room).slots (fun v h L => Q4_3 Z  h0 n0 v h L) (s₁.setTop (entryFrame m #[(.int (3 : Int32))] 2)))
  rw [ef_4_3 m  ]
  show Goes _ _ _ _ _ _ _ (s₁.setTop (mkF m 0 #[.val (.int (3 : Int32)), .unset] []))
  refine G1 (fun _ => XS.iloadN X0.here hx rfl (hb hby d4_0) rfl ) ?_
  refine G1 (fun _ => XS.ifYes X0.here hx rfl (pc0 := 1) (pc' := 15) rfl (hb hby d4_1) rfl ((if0 _ _).trans (tlt (by decide : (0 : Int32) < (3 : Int32))).2.2.1) (by decide) (by decide)) ?_
  show Goes _ _ _ _ _ _ _ (s₁.setTop (mkF m 15 _ []))
  refine G1 (fun _ => XS.bipush X0.here hx rfl (hb hby d4_15)) ?_
  refine G1 (fun _ => XS.istoreN X0.here hx rfl (hb hby d4_17) rfl (l' := #[.val (.int (3 : Int32)), .val (.int (31 : Int32))]) rfl) ?_
  show Goes _ _ _ _ _ _ _ (s₁.setTop (mkF m 18 _ []))
  refine G1 (fun _ => XS.iloadN X0.here hx rfl (hb hby d4_18) rfl ) ?_
  refine G1 (fun _ => X0.ldcwInt hx hown (mvT hZ w_21) (g := (mkF m 19 #[.val (.int (3 : Int32)), .val (.int (31 : Int32))] [(.int (3 : Int32))])) rfl (hb hby d4_19) _) ?_
  refine G1 (fun _ => XS.icmpYes X0.here hx rfl (pc0 := 22) (pc' := 33) rfl (hb hby d4_22) rfl (tlt (by decide : (3 : Int32) < (65536 : Int32))).1 (by decide) (by decide)) ?_
  show Goes _ _ _ _ _ _ _ (s₁.setTop (mkF m 33 _ []))
  refine G1 (fun _ => XS.iloadN X0.here hx rfl (hb hby d4_33) rfl ) ?_
  refine G1 (fun _ => XS.sipush X0.here hx rfl (hb hby d4_34)) ?_
  refine G1 (fun _ => XS.icmpYes X0.here hx rfl (pc0 := 37) (pc' := 48) rfl (hb hby d4_37) rfl (tlt (by decide : (3 : Int32) < (256 : Int32))).1 (by decide) (by decide)) ?_
  show Goes _ _ _ _ _ _ _ (s₁.setTop (mkF m 48 _ []))
  refine G1 (fun _ => XS.iloadN X0.here hx rfl (hb hby d4_48) rfl ) ?_
  refine G1 (fun _ => XS.bipush X0.here hx rfl (hb hby d4_49)) ?_
  refine G1 (fun _ => XS.icmpYes X0.here hx rfl (pc0 := 51) (pc' := 61) rfl (hb hby d4_51) rfl (tlt (by decide : (3 : Int32) < (16 : Int32))).1 (by decide) (by decide)) ?_
  show Goes _ _ _ _ _ _ _ (s₁.setTop (mkF m 61 _ []))
  refine G1 (fun _ => XS.iloadN X0.here hx rfl (hb hby d4_61) rfl ) ?_
  refine G1 (fun _ => XS.iconst X0.here hx rfl (hb hby d4_62)) ?_
  refine G1 (fun _ => XS.icmpYes X0.here hx rfl (pc0 := 63) (pc' := 73) rfl (hb hby d4_63) rfl (tlt (by decide : (3 : Int32) < (4 : Int32))).1 (by decide) (by decide)) ?_
  show Goes _ _ _ _ _ _ _ (s₁.setTop (mkF m 73 _ []))
  refine G1 (fun _ => XS.iloadN X0.here hx rfl (hb hby d4_73) rfl ) ?_
  refine G1 (fun _ => XS.iloadN X0.here hx rfl (hb hby d4_74) rfl ) ?_
  refine G1 (fun _ => XS.iconst X0.here hx rfl (hb hby d4_75)) ?_
  refine G1 (fun _ => XS.iushr X0.here hx rfl (hb hby d4_76) rfl) ?_
  show Goes _ _ _ _ _ _ _ (s₁.setTop (mkF m 77 _ [(.int (1 : Int32)), (.int (31 : Int32))]))
  refine G1 (fun _ => XS.isub X0.here hx rfl (hb hby d4_77) rfl) ?_
  show Goes _ _ _ _ _ _ _ (s₁.setTop (mkF m 78 _ [(.int (30 : Int32))]))
  exact Goes.ret X0 hx (BodyLoose.notSynchronized Bd) Bd.returns rfl (Or.inl ⟨rfl, by simp, _, rfl⟩) (hb hby d4_78) (by show Q4_3 Z  h0 n0 (some (.int (30 : Int32))) s₁.heap _; rw [e0]; exact ⟨N0, rfl, rfl⟩) (by decide) (by decide)
theorem d4_66 : decode jdk_33_method_47_code 66 = .ok (.iinc 1 (-2), 3) := by decide +kernel
theorem d4_69 : decode jdk_33_method_47_code 69 = .ok (.iload_n 0, 1) := by decide +kernel
theorem d4_70 : decode jdk_33_method_47_code 70 = .ok (.iconst 2, 1) := by decide +kernel
theorem d4_71 : decode jdk_33_method_47_code 71 = .ok (.iushr, 1) := by decide +kernel
theorem d4_72 : decode jdk_33_method_47_code 72 = .ok (.istore_n 0, 1) := by decide +kernel
theorem ef_4_5 (m : MethodId)   : entryFrame m #[(.int (5 : Int32))] 2 = mkF m 0 #[.val (.int (5 : Int32)), .unset] [] := by first | (simp [entryFrame, mkF, argsToLocals, Value.category]; done) | rfl
def Q4_5 (Z : State)  (h0 : Heap) (n0 : Nat) (v : Option Value) (h : Heap) (L : List Loc) : Prop := Fr n0 L ∧ h = h0 ∧ ((v = some (.int (29 : Int32))))
set_option maxRecDepth 65536 in
set_option maxHeartbeats 40000000 in
theorem rm4_5 (l : Launch) (Z : State) (a0 : Array Value) (hw : ∀ d ∈ tables_1, d.before a0 Z = true) (ws : List Jvm.Cond)  (h0 : Heap) (n0 : Nat) (Z0 : n0 ≤ h0.size) :
    MetFree l (⟨"java/lang/Integer", "numberOfLeadingZeros", "(I)I"⟩ : MethodName) (head1 (Jvm.Cond.code (⟨"java/lang/Integer", "numberOfLeadingZeros", "(I)I"⟩ : MethodName) jdk_33_method_47_code 2 (some .int) :: ws) ({ frames := 0, cells := 0, slots := 0, locals := 0 } : Room)) (fun a U => a = #[(.int (5 : Int32))] ∧ Z.Warmed39 U.vm ∧ U.heap = h0) (fun _ _ _ _ _ => True) (fun _ U o U' => ∃ v L, o = .returned v ∧ Q4_5 Z  h0 n0 v U'.heap L ∧ FrameEnd U o U' L ({ frames := 0, cells := 0, slots := 0, locals := 0 } : Room).cells ({ frames := 0, cells := 0, slots := 0, locals := 0 } : Room).slots) := by
  refine MetFree.of_bodySF (plainFor_of_name pn_4) hisR ?_
  intro p e s m args below meth c s₁ Bd hml0 hP hK
  obtain ⟨rfl, hZ, hh⟩ := hP
  have w_21 := own_at hw 21 rfl
  have hx := Bd.exec
  have hby := Bd.bytes
  have hml : c.maxLocals = 2 := hml0
  have hown : s.vm.findClass "java/lang/Integer" = some m.cls := findClass_of_methodNamed Bd.named
  have hnm := (name_of_methodNamed Bd.named Bd.method).1
  have X0 : Stand p l e ({ frames := 0, cells := 0, slots := 0, locals := 0 } : Room) s m #[(.int (5 : Int32))] below meth c s₁ [] 0 0 := Stand.of_body Bd
  have e0 : s₁.heap = h0 := by rw [← hh, Bd.state]; rfl
  have N0 := Fr.nil n0
  have K0 : Keep h0 h0 [] := Keep.refl h0 _
  refine (?_ : Goes p e below s ({ frames := 0, cells := 0, slots := 0, locals := 0 } : Room).cells ({ frames := 0, cells := 0, slots := 0, locals := 0 } : Room).slots (fun v h L => Q4_5 Z  h0 n0 v h L) (s₁.setTop (entryFrame m #[(.int (5 : Int32))] 2)))
  rw [ef_4_5 m  ]
  show Goes _ _ _ _ _ _ _ (s₁.setTop (mkF m 0 #[.val (.int (5 : Int32)), .unset] []))
  refine G1 (fun _ => XS.iloadN X0.here hx rfl (hb hby d4_0) rfl ) ?_
  refine G1 (fun _ => XS.ifYes X0.here hx rfl (pc0 := 1) (pc' := 15) rfl (hb hby d4_1) rfl ((if0 _ _).trans (tlt (by decide : (0 : Int32) < (5 : Int32))).2.2.1) (by decide) (by decide)) ?_
  show Goes _ _ _ _ _ _ _ (s₁.setTop (mkF m 15 _ []))
  refine G1 (fun _ => XS.bipush X0.here hx rfl (hb hby d4_15)) ?_
  refine G1 (fun _ => XS.istoreN X0.here hx rfl (hb hby d4_17) rfl (l' := #[.val (.int (5 : Int32)), .val (.int (31 : Int32))]) rfl) ?_
  show Goes _ _ _ _ _ _ _ (s₁.setTop (mkF m 18 _ []))
  refine G1 (fun _ => XS.iloadN X0.here hx rfl (hb hby d4_18) rfl ) ?_
  refine G1 (fun _ => X0.ldcwInt hx hown (mvT hZ w_21) (g := (mkF m 19 #[.val (.int (5 : Int32)), .val (.int (31 : Int32))] [(.int (5 : Int32))])) rfl (hb hby d4_19) _) ?_
  refine G1 (fun _ => XS.icmpYes X0.here hx rfl (pc0 := 22) (pc' := 33) rfl (hb hby d4_22) rfl (tlt (by decide : (5 : Int32) < (65536 : Int32))).1 (by decide) (by decide)) ?_
  show Goes _ _ _ _ _ _ _ (s₁.setTop (mkF m 33 _ []))
  refine G1 (fun _ => XS.iloadN X0.here hx rfl (hb hby d4_33) rfl ) ?_
  refine G1 (fun _ => XS.sipush X0.here hx rfl (hb hby d4_34)) ?_
  refine G1 (fun _ => XS.icmpYes X0.here hx rfl (pc0 := 37) (pc' := 48) rfl (hb hby d4_37) rfl (tlt (by decide : (5 : Int32) < (256 : Int32))).1 (by decide) (by decide)) ?_
  show Goes _ _ _ _ _ _ _ (s₁.setTop (mkF m 48 _ []))
  refine G1 (fun _ => XS.iloadN X0.here hx rfl (hb hby d4_48) rfl ) ?_
  refine G1 (fun _ => XS.bipush X0.here hx rfl (hb hby d4_49)) ?_
  refine G1 (fun _ => XS.icmpYes X0.here hx rfl (pc0 := 51) (pc' := 61) rfl (hb hby d4_51) rfl (tlt (by decide : (5 : Int32) < (16 : Int32))).1 (by decide) (by decide)) ?_
  show Goes _ _ _ _ _ _ _ (s₁.setTop (mkF m 61 _ []))
  refine G1 (fun _ => XS.iloadN X0.here hx rfl (hb hby d4_61) rfl ) ?_
  refine G1 (fun _ => XS.iconst X0.here hx rfl (hb hby d4_62)) ?_
  refine G1 (fun _ => XS.icmpNo X0.here hx rfl (hb hby d4_63) rfl (flt (by decide : ¬ ((5 : Int32) < (4 : Int32)))).1) ?_
  show Goes _ _ _ _ _ _ _ (s₁.setTop (mkF m 66 _ []))
  refine G1 (fun _ => XS.iinc X0.here hx rfl (hb hby d4_66) rfl (l' := #[.val (.int (5 : Int32)), .val (.int (29 : Int32))]) rfl) ?_
  show Goes _ _ _ _ _ _ _ (s₁.setTop (mkF m 69 _ []))
  refine G1 (fun _ => XS.iloadN X0.here hx rfl (hb hby d4_69) rfl ) ?_
  refine G1 (fun _ => XS.iconst X0.here hx rfl (hb hby d4_70)) ?_
  refine G1 (fun _ => XS.iushr X0.here hx rfl (hb hby d4_71) rfl) ?_
  show Goes _ _ _ _ _ _ _ (s₁.setTop (mkF m 72 _ [(.int (1 : Int32))]))
  refine G1 (fun _ => XS.istoreN X0.here hx rfl (hb hby d4_72) rfl (l' := #[.val (.int (1 : Int32)), .val (.int (29 : Int32))]) rfl) ?_
  show Goes _ _ _ _ _ _ _ (s₁.setTop (mkF m 73 _ []))
  refine G1 (fun _ => XS.iloadN X0.here hx rfl (hb hby d4_73) rfl ) ?_
  refine G1 (fun _ => XS.iloadN X0.here hx rfl (hb hby d4_74) rfl ) ?_
  refine G1 (fun _ => XS.iconst X0.here hx rfl (hb hby d4_75)) ?_
  refine G1 (fun _ => XS.iushr X0.here hx rfl (hb hby d4_76) rfl) ?_
  show Goes _ _ _ _ _ _ _ (s₁.setTop (mkF m 77 _ [(.int (0 : Int32)), (.int (29 : Int32))]))
  refine G1 (fun _ => XS.isub X0.here hx rfl (hb hby d4_77) rfl) ?_
  show Goes _ _ _ _ _ _ _ (s₁.setTop (mkF m 78 _ [(.int (29 : Int32))]))
  exact Goes.ret X0 hx (BodyLoose.notSynchronized Bd) Bd.returns rfl (Or.inl ⟨rfl, by simp, _, rfl⟩) (hb hby d4_78) (by show Q4_5 Z  h0 n0 (some (.int (29 : Int32))) s₁.heap _; rw [e0]; exact ⟨N0, rfl, rfl⟩) (by decide) (by decide)
theorem ef_4_7 (m : MethodId)   : entryFrame m #[(.int (7 : Int32))] 2 = mkF m 0 #[.val (.int (7 : Int32)), .unset] [] := by first | (simp [entryFrame, mkF, argsToLocals, Value.category]; done) | rfl
def Q4_7 (Z : State)  (h0 : Heap) (n0 : Nat) (v : Option Value) (h : Heap) (L : List Loc) : Prop := Fr n0 L ∧ h = h0 ∧ ((v = some (.int (29 : Int32))))
set_option maxRecDepth 65536 in
set_option maxHeartbeats 40000000 in
theorem rm4_7 (l : Launch) (Z : State) (a0 : Array Value) (hw : ∀ d ∈ tables_1, d.before a0 Z = true) (ws : List Jvm.Cond)  (h0 : Heap) (n0 : Nat) (Z0 : n0 ≤ h0.size) :
    MetFree l (⟨"java/lang/Integer", "numberOfLeadingZeros", "(I)I"⟩ : MethodName) (head1 (Jvm.Cond.code (⟨"java/lang/Integer", "numberOfLeadingZeros", "(I)I"⟩ : MethodName) jdk_33_method_47_code 2 (some .int) :: ws) ({ frames := 0, cells := 0, slots := 0, locals := 0 } : Room)) (fun a U => a = #[(.int (7 : Int32))] ∧ Z.Warmed39 U.vm ∧ U.heap = h0) (fun _ _ _ _ _ => True) (fun _ U o U' => ∃ v L, o = .returned v ∧ Q4_7 Z  h0 n0 v U'.heap L ∧ FrameEnd U o U' L ({ frames := 0, cells := 0, slots := 0, locals := 0 } : Room).cells ({ frames := 0, cells := 0, slots := 0, locals := 0 } : Room).slots) := by
  refine MetFree.of_bodySF (plainFor_of_name pn_4) hisR ?_
  intro p e s m args below meth c s₁ Bd hml0 hP hK
  obtain ⟨rfl, hZ, hh⟩ := hP
  have w_21 := own_at hw 21 rfl
  have hx := Bd.exec
  have hby := Bd.bytes
  have hml : c.maxLocals = 2 := hml0
  have hown : s.vm.findClass "java/lang/Integer" = some m.cls := findClass_of_methodNamed Bd.named
  have hnm := (name_of_methodNamed Bd.named Bd.method).1
  have X0 : Stand p l e ({ frames := 0, cells := 0, slots := 0, locals := 0 } : Room) s m #[(.int (7 : Int32))] below meth c s₁ [] 0 0 := Stand.of_body Bd
  have e0 : s₁.heap = h0 := by rw [← hh, Bd.state]; rfl
  have N0 := Fr.nil n0
  have K0 : Keep h0 h0 [] := Keep.refl h0 _
  refine (?_ : Goes p e below s ({ frames := 0, cells := 0, slots := 0, locals := 0 } : Room).cells ({ frames := 0, cells := 0, slots := 0, locals := 0 } : Room).slots (fun v h L => Q4_7 Z  h0 n0 v h L) (s₁.setTop (entryFrame m #[(.int (7 : Int32))] 2)))
  rw [ef_4_7 m  ]
  show Goes _ _ _ _ _ _ _ (s₁.setTop (mkF m 0 #[.val (.int (7 : Int32)), .unset] []))
  refine G1 (fun _ => XS.iloadN X0.here hx rfl (hb hby d4_0) rfl ) ?_
  refine G1 (fun _ => XS.ifYes X0.here hx rfl (pc0 := 1) (pc' := 15) rfl (hb hby d4_1) rfl ((if0 _ _).trans (tlt (by decide : (0 : Int32) < (7 : Int32))).2.2.1) (by decide) (by decide)) ?_
  show Goes _ _ _ _ _ _ _ (s₁.setTop (mkF m 15 _ []))
  refine G1 (fun _ => XS.bipush X0.here hx rfl (hb hby d4_15)) ?_
  refine G1 (fun _ => XS.istoreN X0.here hx rfl (hb hby d4_17) rfl (l' := #[.val (.int (7 : Int32)), .val (.int (31 : Int32))]) rfl) ?_
  show Goes _ _ _ _ _ _ _ (s₁.setTop (mkF m 18 _ []))
  refine G1 (fun _ => XS.iloadN X0.here hx rfl (hb hby d4_18) rfl ) ?_
  refine G1 (fun _ => X0.ldcwInt hx hown (mvT hZ w_21) (g := (mkF m 19 #[.val (.int (7 : Int32)), .val (.int (31 : Int32))] [(.int (7 : Int32))])) rfl (hb hby d4_19) _) ?_
  refine G1 (fun _ => XS.icmpYes X0.here hx rfl (pc0 := 22) (pc' := 33) rfl (hb hby d4_22) rfl (tlt (by decide : (7 : Int32) < (65536 : Int32))).1 (by decide) (by decide)) ?_
  show Goes _ _ _ _ _ _ _ (s₁.setTop (mkF m 33 _ []))
  refine G1 (fun _ => XS.iloadN X0.here hx rfl (hb hby d4_33) rfl ) ?_
  refine G1 (fun _ => XS.sipush X0.here hx rfl (hb hby d4_34)) ?_
  refine G1 (fun _ => XS.icmpYes X0.here hx rfl (pc0 := 37) (pc' := 48) rfl (hb hby d4_37) rfl (tlt (by decide : (7 : Int32) < (256 : Int32))).1 (by decide) (by decide)) ?_
  show Goes _ _ _ _ _ _ _ (s₁.setTop (mkF m 48 _ []))
  refine G1 (fun _ => XS.iloadN X0.here hx rfl (hb hby d4_48) rfl ) ?_
  refine G1 (fun _ => XS.bipush X0.here hx rfl (hb hby d4_49)) ?_
  refine G1 (fun _ => XS.icmpYes X0.here hx rfl (pc0 := 51) (pc' := 61) rfl (hb hby d4_51) rfl (tlt (by decide : (7 : Int32) < (16 : Int32))).1 (by decide) (by decide)) ?_
  show Goes _ _ _ _ _ _ _ (s₁.setTop (mkF m 61 _ []))
  refine G1 (fun _ => XS.iloadN X0.here hx rfl (hb hby d4_61) rfl ) ?_
  refine G1 (fun _ => XS.iconst X0.here hx rfl (hb hby d4_62)) ?_
  refine G1 (fun _ => XS.icmpNo X0.here hx rfl (hb hby d4_63) rfl (flt (by decide : ¬ ((7 : Int32) < (4 : Int32)))).1) ?_
  show Goes _ _ _ _ _ _ _ (s₁.setTop (mkF m 66 _ []))
  refine G1 (fun _ => XS.iinc X0.here hx rfl (hb hby d4_66) rfl (l' := #[.val (.int (7 : Int32)), .val (.int (29 : Int32))]) rfl) ?_
  show Goes _ _ _ _ _ _ _ (s₁.setTop (mkF m 69 _ []))
  refine G1 (fun _ => XS.iloadN X0.here hx rfl (hb hby d4_69) rfl ) ?_
  refine G1 (fun _ => XS.iconst X0.here hx rfl (hb hby d4_70)) ?_
  refine G1 (fun _ => XS.iushr X0.here hx rfl (hb hby d4_71) rfl) ?_
  show Goes _ _ _ _ _ _ _ (s₁.setTop (mkF m 72 _ [(.int (1 : Int32))]))
  refine G1 (fun _ => XS.istoreN X0.here hx rfl (hb hby d4_72) rfl (l' := #[.val (.int (1 : Int32)), .val (.int (29 : Int32))]) rfl) ?_
  show Goes _ _ _ _ _ _ _ (s₁.setTop (mkF m 73 _ []))
  refine G1 (fun _ => XS.iloadN X0.here hx rfl (hb hby d4_73) rfl ) ?_
  refine G1 (fun _ => XS.iloadN X0.here hx rfl (hb hby d4_74) rfl ) ?_
  refine G1 (fun _ => XS.iconst X0.here hx rfl (hb hby d4_75)) ?_
  refine G1 (fun _ => XS.iushr X0.here hx rfl (hb hby d4_76) rfl) ?_
  show Goes _ _ _ _ _ _ _ (s₁.setTop (mkF m 77 _ [(.int (0 : Int32)), (.int (29 : Int32))]))
  refine G1 (fun _ => XS.isub X0.here hx rfl (hb hby d4_77) rfl) ?_
  show Goes _ _ _ _ _ _ _ (s₁.setTop (mkF m 78 _ [(.int (29 : Int32))]))
  exact Goes.ret X0 hx (BodyLoose.notSynchronized Bd) Bd.returns rfl (Or.inl ⟨rfl, by simp, _, rfl⟩) (hb hby d4_78) (by show Q4_7 Z  h0 n0 (some (.int (29 : Int32))) s₁.heap _; rw [e0]; exact ⟨N0, rfl, rfl⟩) (by decide) (by decide)
theorem ef_4_2 (m : MethodId)   : entryFrame m #[(.int (2 : Int32))] 2 = mkF m 0 #[.val (.int (2 : Int32)), .unset] [] := by first | (simp [entryFrame, mkF, argsToLocals, Value.category]; done) | rfl
def Q4_2 (Z : State)  (h0 : Heap) (n0 : Nat) (v : Option Value) (h : Heap) (L : List Loc) : Prop := Fr n0 L ∧ h = h0 ∧ ((v = some (.int (30 : Int32))))
set_option maxRecDepth 65536 in
set_option maxHeartbeats 40000000 in
theorem rm4_2 (l : Launch) (Z : State) (a0 : Array Value) (hw : ∀ d ∈ tables_1, d.before a0 Z = true) (ws : List Jvm.Cond)  (h0 : Heap) (n0 : Nat) (Z0 : n0 ≤ h0.size) :
    MetFree l (⟨"java/lang/Integer", "numberOfLeadingZeros", "(I)I"⟩ : MethodName) (head1 (Jvm.Cond.code (⟨"java/lang/Integer", "numberOfLeadingZeros", "(I)I"⟩ : MethodName) jdk_33_method_47_code 2 (some .int) :: ws) ({ frames := 0, cells := 0, slots := 0, locals := 0 } : Room)) (fun a U => a = #[(.int (2 : Int32))] ∧ Z.Warmed39 U.vm ∧ U.heap = h0) (fun _ _ _ _ _ => True) (fun _ U o U' => ∃ v L, o = .returned v ∧ Q4_2 Z  h0 n0 v U'.heap L ∧ FrameEnd U o U' L ({ frames := 0, cells := 0, slots := 0, locals := 0 } : Room).cells ({ frames := 0, cells := 0, slots := 0, locals := 0 } : Room).slots) := by
  refine MetFree.of_bodySF (plainFor_of_name pn_4) hisR ?_
  intro p e s m args below meth c s₁ Bd hml0 hP hK
  obtain ⟨rfl, hZ, hh⟩ := hP
  have w_21 := own_at hw 21 rfl
  have hx := Bd.exec
  have hby := Bd.bytes
  have hml : c.maxLocals = 2 := hml0
  have hown : s.vm.findClass "java/lang/Integer" = some m.cls := findClass_of_methodNamed Bd.named
  have hnm := (name_of_methodNamed Bd.named Bd.method).1
  have X0 : Stand p l e ({ frames := 0, cells := 0, slots := 0, locals := 0 } : Room) s m #[(.int (2 : Int32))] below meth c s₁ [] 0 0 := Stand.of_body Bd
  have e0 : s₁.heap = h0 := by rw [← hh, Bd.state]; rfl
  have N0 := Fr.nil n0
  have K0 : Keep h0 h0 [] := Keep.refl h0 _
  refine (?_ : Goes p e below s ({ frames := 0, cells := 0, slots := 0, locals := 0 } : Room).cells ({ frames := 0, cells := 0, slots := 0, locals := 0 } : Room).slots (fun v h L => Q4_2 Z  h0 n0 v h L) (s₁.setTop (entryFrame m #[(.int (2 : Int32))] 2)))
  rw [ef_4_2 m  ]
  show Goes _ _ _ _ _ _ _ (s₁.setTop (mkF m 0 #[.val (.int (2 : Int32)), .unset] []))
  refine G1 (fun _ => XS.iloadN X0.here hx rfl (hb hby d4_0) rfl ) ?_
  refine G1 (fun _ => XS.ifYes X0.here hx rfl (pc0 := 1) (pc' := 15) rfl (hb hby d4_1) rfl ((if0 _ _).trans (tlt (by decide : (0 : Int32) < (2 : Int32))).2.2.1) (by decide) (by decide)) ?_
  show Goes _ _ _ _ _ _ _ (s₁.setTop (mkF m 15 _ []))
  refine G1 (fun _ => XS.bipush X0.here hx rfl (hb hby d4_15)) ?_
  refine G1 (fun _ => XS.istoreN X0.here hx rfl (hb hby d4_17) rfl (l' := #[.val (.int (2 : Int32)), .val (.int (31 : Int32))]) rfl) ?_
  show Goes _ _ _ _ _ _ _ (s₁.setTop (mkF m 18 _ []))
  refine G1 (fun _ => XS.iloadN X0.here hx rfl (hb hby d4_18) rfl ) ?_
  refine G1 (fun _ => X0.ldcwInt hx hown (mvT hZ w_21) (g := (mkF m 19 #[.val (.int (2 : Int32)), .val (.int (31 : Int32))] [(.int (2 : Int32))])) rfl (hb hby d4_19) _) ?_
  refine G1 (fun _ => XS.icmpYes X0.here hx rfl (pc0 := 22) (pc' := 33) rfl (hb hby d4_22) rfl (tlt (by decide : (2 : Int32) < (65536 : Int32))).1 (by decide) (by decide)) ?_
  show Goes _ _ _ _ _ _ _ (s₁.setTop (mkF m 33 _ []))
  refine G1 (fun _ => XS.iloadN X0.here hx rfl (hb hby d4_33) rfl ) ?_
  refine G1 (fun _ => XS.sipush X0.here hx rfl (hb hby d4_34)) ?_
  refine G1 (fun _ => XS.icmpYes X0.here hx rfl (pc0 := 37) (pc' := 48) rfl (hb hby d4_37) rfl (tlt (by decide : (2 : Int32) < (256 : Int32))).1 (by decide) (by decide)) ?_
  show Goes _ _ _ _ _ _ _ (s₁.setTop (mkF m 48 _ []))
  refine G1 (fun _ => XS.iloadN X0.here hx rfl (hb hby d4_48) rfl ) ?_
  refine G1 (fun _ => XS.bipush X0.here hx rfl (hb hby d4_49)) ?_
  refine G1 (fun _ => XS.icmpYes X0.here hx rfl (pc0 := 51) (pc' := 61) rfl (hb hby d4_51) rfl (tlt (by decide : (2 : Int32) < (16 : Int32))).1 (by decide) (by decide)) ?_
  show Goes _ _ _ _ _ _ _ (s₁.setTop (mkF m 61 _ []))
  refine G1 (fun _ => XS.iloadN X0.here hx rfl (hb hby d4_61) rfl ) ?_
  refine G1 (fun _ => XS.iconst X0.here hx rfl (hb hby d4_62)) ?_
  refine G1 (fun _ => XS.icmpYes X0.here hx rfl (pc0 := 63) (pc' := 73) rfl (hb hby d4_63) rfl (tlt (by decide : (2 : Int32) < (4 : Int32))).1 (by decide) (by decide)) ?_
  show Goes _ _ _ _ _ _ _ (s₁.setTop (mkF m 73 _ []))
  refine G1 (fun _ => XS.iloadN X0.here hx rfl (hb hby d4_73) rfl ) ?_
  refine G1 (fun _ => XS.iloadN X0.here hx rfl (hb hby d4_74) rfl ) ?_
  refine G1 (fun _ => XS.iconst X0.here hx rfl (hb hby d4_75)) ?_
  refine G1 (fun _ => XS.iushr X0.here hx rfl (hb hby d4_76) rfl) ?_
  show Goes _ _ _ _ _ _ _ (s₁.setTop (mkF m 77 _ [(.int (1 : Int32)), (.int (31 : Int32))]))
  refine G1 (fun _ => XS.isub X0.here hx rfl (hb hby d4_77) rfl) ?_
  show Goes _ _ _ _ _ _ _ (s₁.setTop (mkF m 78 _ [(.int (30 : Int32))]))
  exact Goes.ret X0 hx (BodyLoose.notSynchronized Bd) Bd.returns rfl (Or.inl ⟨rfl, by simp, _, rfl⟩) (hb hby d4_78) (by show Q4_2 Z  h0 n0 (some (.int (30 : Int32))) s₁.heap _; rw [e0]; exact ⟨N0, rfl, rfl⟩) (by decide) (by decide)
theorem ef_4_4 (m : MethodId)   : entryFrame m #[(.int (4 : Int32))] 2 = mkF m 0 #[.val (.int (4 : Int32)), .unset] [] := by first | (simp [entryFrame, mkF, argsToLocals, Value.category]; done) | rfl
def Q4_4 (Z : State)  (h0 : Heap) (n0 : Nat) (v : Option Value) (h : Heap) (L : List Loc) : Prop := Fr n0 L ∧ h = h0 ∧ ((v = some (.int (29 : Int32))))
set_option maxRecDepth 65536 in
set_option maxHeartbeats 40000000 in
theorem rm4_4 (l : Launch) (Z : State) (a0 : Array Value) (hw : ∀ d ∈ tables_1, d.before a0 Z = true) (ws : List Jvm.Cond)  (h0 : Heap) (n0 : Nat) (Z0 : n0 ≤ h0.size) :
    MetFree l (⟨"java/lang/Integer", "numberOfLeadingZeros", "(I)I"⟩ : MethodName) (head1 (Jvm.Cond.code (⟨"java/lang/Integer", "numberOfLeadingZeros", "(I)I"⟩ : MethodName) jdk_33_method_47_code 2 (some .int) :: ws) ({ frames := 0, cells := 0, slots := 0, locals := 0 } : Room)) (fun a U => a = #[(.int (4 : Int32))] ∧ Z.Warmed39 U.vm ∧ U.heap = h0) (fun _ _ _ _ _ => True) (fun _ U o U' => ∃ v L, o = .returned v ∧ Q4_4 Z  h0 n0 v U'.heap L ∧ FrameEnd U o U' L ({ frames := 0, cells := 0, slots := 0, locals := 0 } : Room).cells ({ frames := 0, cells := 0, slots := 0, locals := 0 } : Room).slots) := by
  refine MetFree.of_bodySF (plainFor_of_name pn_4) hisR ?_
  intro p e s m args below meth c s₁ Bd hml0 hP hK
  obtain ⟨rfl, hZ, hh⟩ := hP
  have w_21 := own_at hw 21 rfl
  have hx := Bd.exec
  have hby := Bd.bytes
  have hml : c.maxLocals = 2 := hml0
  have hown : s.vm.findClass "java/lang/Integer" = some m.cls := findClass_of_methodNamed Bd.named
  have hnm := (name_of_methodNamed Bd.named Bd.method).1
  have X0 : Stand p l e ({ frames := 0, cells := 0, slots := 0, locals := 0 } : Room) s m #[(.int (4 : Int32))] below meth c s₁ [] 0 0 := Stand.of_body Bd
  have e0 : s₁.heap = h0 := by rw [← hh, Bd.state]; rfl
  have N0 := Fr.nil n0
  have K0 : Keep h0 h0 [] := Keep.refl h0 _
  refine (?_ : Goes p e below s ({ frames := 0, cells := 0, slots := 0, locals := 0 } : Room).cells ({ frames := 0, cells := 0, slots := 0, locals := 0 } : Room).slots (fun v h L => Q4_4 Z  h0 n0 v h L) (s₁.setTop (entryFrame m #[(.int (4 : Int32))] 2)))
  rw [ef_4_4 m  ]
  show Goes _ _ _ _ _ _ _ (s₁.setTop (mkF m 0 #[.val (.int (4 : Int32)), .unset] []))
  refine G1 (fun _ => XS.iloadN X0.here hx rfl (hb hby d4_0) rfl ) ?_
  refine G1 (fun _ => XS.ifYes X0.here hx rfl (pc0 := 1) (pc' := 15) rfl (hb hby d4_1) rfl ((if0 _ _).trans (tlt (by decide : (0 : Int32) < (4 : Int32))).2.2.1) (by decide) (by decide)) ?_
  show Goes _ _ _ _ _ _ _ (s₁.setTop (mkF m 15 _ []))
  refine G1 (fun _ => XS.bipush X0.here hx rfl (hb hby d4_15)) ?_
  refine G1 (fun _ => XS.istoreN X0.here hx rfl (hb hby d4_17) rfl (l' := #[.val (.int (4 : Int32)), .val (.int (31 : Int32))]) rfl) ?_
  show Goes _ _ _ _ _ _ _ (s₁.setTop (mkF m 18 _ []))
  refine G1 (fun _ => XS.iloadN X0.here hx rfl (hb hby d4_18) rfl ) ?_
  refine G1 (fun _ => X0.ldcwInt hx hown (mvT hZ w_21) (g := (mkF m 19 #[.val (.int (4 : Int32)), .val (.int (31 : Int32))] [(.int (4 : Int32))])) rfl (hb hby d4_19) _) ?_
  refine G1 (fun _ => XS.icmpYes X0.here hx rfl (pc0 := 22) (pc' := 33) rfl (hb hby d4_22) rfl (tlt (by decide : (4 : Int32) < (65536 : Int32))).1 (by decide) (by decide)) ?_
  show Goes _ _ _ _ _ _ _ (s₁.setTop (mkF m 33 _ []))
  refine G1 (fun _ => XS.iloadN X0.here hx rfl (hb hby d4_33) rfl ) ?_
  refine G1 (fun _ => XS.sipush X0.here hx rfl (hb hby d4_34)) ?_
  refine G1 (fun _ => XS.icmpYes X0.here hx rfl (pc0 := 37) (pc' := 48) rfl (hb hby d4_37) rfl (tlt (by decide : (4 : Int32) < (256 : Int32))).1 (by decide) (by decide)) ?_
  show Goes _ _ _ _ _ _ _ (s₁.setTop (mkF m 48 _ []))
  refine G1 (fun _ => XS.iloadN X0.here hx rfl (hb hby d4_48) rfl ) ?_
  refine G1 (fun _ => XS.bipush X0.here hx rfl (hb hby d4_49)) ?_
  refine G1 (fun _ => XS.icmpYes X0.here hx rfl (pc0 := 51) (pc' := 61) rfl (hb hby d4_51) rfl (tlt (by decide : (4 : Int32) < (16 : Int32))).1 (by decide) (by decide)) ?_
  show Goes _ _ _ _ _ _ _ (s₁.setTop (mkF m 61 _ []))
  refine G1 (fun _ => XS.iloadN X0.here hx rfl (hb hby d4_61) rfl ) ?_
  refine G1 (fun _ => XS.iconst X0.here hx rfl (hb hby d4_62)) ?_
  refine G1 (fun _ => XS.icmpNo X0.here hx rfl (hb hby d4_63) rfl (flt (by decide : ¬ ((4 : Int32) < (4 : Int32)))).1) ?_
  show Goes _ _ _ _ _ _ _ (s₁.setTop (mkF m 66 _ []))
  refine G1 (fun _ => XS.iinc X0.here hx rfl (hb hby d4_66) rfl (l' := #[.val (.int (4 : Int32)), .val (.int (29 : Int32))]) rfl) ?_
  show Goes _ _ _ _ _ _ _ (s₁.setTop (mkF m 69 _ []))
  refine G1 (fun _ => XS.iloadN X0.here hx rfl (hb hby d4_69) rfl ) ?_
  refine G1 (fun _ => XS.iconst X0.here hx rfl (hb hby d4_70)) ?_
  refine G1 (fun _ => XS.iushr X0.here hx rfl (hb hby d4_71) rfl) ?_
  show Goes _ _ _ _ _ _ _ (s₁.setTop (mkF m 72 _ [(.int (1 : Int32))]))
  refine G1 (fun _ => XS.istoreN X0.here hx rfl (hb hby d4_72) rfl (l' := #[.val (.int (1 : Int32)), .val (.int (29 : Int32))]) rfl) ?_
  show Goes _ _ _ _ _ _ _ (s₁.setTop (mkF m 73 _ []))
  refine G1 (fun _ => XS.iloadN X0.here hx rfl (hb hby d4_73) rfl ) ?_
  refine G1 (fun _ => XS.iloadN X0.here hx rfl (hb hby d4_74) rfl ) ?_
  refine G1 (fun _ => XS.iconst X0.here hx rfl (hb hby d4_75)) ?_
  refine G1 (fun _ => XS.iushr X0.here hx rfl (hb hby d4_76) rfl) ?_
  show Goes _ _ _ _ _ _ _ (s₁.setTop (mkF m 77 _ [(.int (0 : Int32)), (.int (29 : Int32))]))
  refine G1 (fun _ => XS.isub X0.here hx rfl (hb hby d4_77) rfl) ?_
  show Goes _ _ _ _ _ _ _ (s₁.setTop (mkF m 78 _ [(.int (29 : Int32))]))
  exact Goes.ret X0 hx (BodyLoose.notSynchronized Bd) Bd.returns rfl (Or.inl ⟨rfl, by simp, _, rfl⟩) (hb hby d4_78) (by show Q4_4 Z  h0 n0 (some (.int (29 : Int32))) s₁.heap _; rw [e0]; exact ⟨N0, rfl, rfl⟩) (by decide) (by decide)
theorem ef_4_8 (m : MethodId)   : entryFrame m #[(.int (8 : Int32))] 2 = mkF m 0 #[.val (.int (8 : Int32)), .unset] [] := by first | (simp [entryFrame, mkF, argsToLocals, Value.category]; done) | rfl
def Q4_8 (Z : State)  (h0 : Heap) (n0 : Nat) (v : Option Value) (h : Heap) (L : List Loc) : Prop := Fr n0 L ∧ h = h0 ∧ ((v = some (.int (28 : Int32))))
set_option maxRecDepth 65536 in
set_option maxHeartbeats 40000000 in
theorem rm4_8 (l : Launch) (Z : State) (a0 : Array Value) (hw : ∀ d ∈ tables_1, d.before a0 Z = true) (ws : List Jvm.Cond)  (h0 : Heap) (n0 : Nat) (Z0 : n0 ≤ h0.size) :
    MetFree l (⟨"java/lang/Integer", "numberOfLeadingZeros", "(I)I"⟩ : MethodName) (head1 (Jvm.Cond.code (⟨"java/lang/Integer", "numberOfLeadingZeros", "(I)I"⟩ : MethodName) jdk_33_method_47_code 2 (some .int) :: ws) ({ frames := 0, cells := 0, slots := 0, locals := 0 } : Room)) (fun a U => a = #[(.int (8 : Int32))] ∧ Z.Warmed39 U.vm ∧ U.heap = h0) (fun _ _ _ _ _ => True) (fun _ U o U' => ∃ v L, o = .returned v ∧ Q4_8 Z  h0 n0 v U'.heap L ∧ FrameEnd U o U' L ({ frames := 0, cells := 0, slots := 0, locals := 0 } : Room).cells ({ frames := 0, cells := 0, slots := 0, locals := 0 } : Room).slots) := by
  refine MetFree.of_bodySF (plainFor_of_name pn_4) hisR ?_
  intro p e s m args below meth c s₁ Bd hml0 hP hK
  obtain ⟨rfl, hZ, hh⟩ := hP
  have w_21 := own_at hw 21 rfl
  have hx := Bd.exec
  have hby := Bd.bytes
  have hml : c.maxLocals = 2 := hml0
  have hown : s.vm.findClass "java/lang/Integer" = some m.cls := findClass_of_methodNamed Bd.named
  have hnm := (name_of_methodNamed Bd.named Bd.method).1
  have X0 : Stand p l e ({ frames := 0, cells := 0, slots := 0, locals := 0 } : Room) s m #[(.int (8 : Int32))] below meth c s₁ [] 0 0 := Stand.of_body Bd
  have e0 : s₁.heap = h0 := by rw [← hh, Bd.state]; rfl
  have N0 := Fr.nil n0
  have K0 : Keep h0 h0 [] := Keep.refl h0 _
  refine (?_ : Goes p e below s ({ frames := 0, cells := 0, slots := 0, locals := 0 } : Room).cells ({ frames := 0, cells := 0, slots := 0, locals := 0 } : Room).slots (fun v h L => Q4_8 Z  h0 n0 v h L) (s₁.setTop (entryFrame m #[(.int (8 : Int32))] 2)))
  rw [ef_4_8 m  ]
  show Goes _ _ _ _ _ _ _ (s₁.setTop (mkF m 0 #[.val (.int (8 : Int32)), .unset] []))
  refine G1 (fun _ => XS.iloadN X0.here hx rfl (hb hby d4_0) rfl ) ?_
  refine G1 (fun _ => XS.ifYes X0.here hx rfl (pc0 := 1) (pc' := 15) rfl (hb hby d4_1) rfl ((if0 _ _).trans (tlt (by decide : (0 : Int32) < (8 : Int32))).2.2.1) (by decide) (by decide)) ?_
  show Goes _ _ _ _ _ _ _ (s₁.setTop (mkF m 15 _ []))
  refine G1 (fun _ => XS.bipush X0.here hx rfl (hb hby d4_15)) ?_
  refine G1 (fun _ => XS.istoreN X0.here hx rfl (hb hby d4_17) rfl (l' := #[.val (.int (8 : Int32)), .val (.int (31 : Int32))]) rfl) ?_
  show Goes _ _ _ _ _ _ _ (s₁.setTop (mkF m 18 _ []))
  refine G1 (fun _ => XS.iloadN X0.here hx rfl (hb hby d4_18) rfl ) ?_
  refine G1 (fun _ => X0.ldcwInt hx hown (mvT hZ w_21) (g := (mkF m 19 #[.val (.int (8 : Int32)), .val (.int (31 : Int32))] [(.int (8 : Int32))])) rfl (hb hby d4_19) _) ?_
  refine G1 (fun _ => XS.icmpYes X0.here hx rfl (pc0 := 22) (pc' := 33) rfl (hb hby d4_22) rfl (tlt (by decide : (8 : Int32) < (65536 : Int32))).1 (by decide) (by decide)) ?_
  show Goes _ _ _ _ _ _ _ (s₁.setTop (mkF m 33 _ []))
  refine G1 (fun _ => XS.iloadN X0.here hx rfl (hb hby d4_33) rfl ) ?_
  refine G1 (fun _ => XS.sipush X0.here hx rfl (hb hby d4_34)) ?_
  refine G1 (fun _ => XS.icmpYes X0.here hx rfl (pc0 := 37) (pc' := 48) rfl (hb hby d4_37) rfl (tlt (by decide : (8 : Int32) < (256 : Int32))).1 (by decide) (by decide)) ?_
  show Goes _ _ _ _ _ _ _ (s₁.setTop (mkF m 48 _ []))
  refine G1 (fun _ => XS.iloadN X0.here hx rfl (hb hby d4_48) rfl ) ?_
  refine G1 (fun _ => XS.bipush X0.here hx rfl (hb hby d4_49)) ?_
  refine G1 (fun _ => XS.icmpYes X0.here hx rfl (pc0 := 51) (pc' := 61) rfl (hb hby d4_51) rfl (tlt (by decide : (8 : Int32) < (16 : Int32))).1 (by decide) (by decide)) ?_
  show Goes _ _ _ _ _ _ _ (s₁.setTop (mkF m 61 _ []))
  refine G1 (fun _ => XS.iloadN X0.here hx rfl (hb hby d4_61) rfl ) ?_
  refine G1 (fun _ => XS.iconst X0.here hx rfl (hb hby d4_62)) ?_
  refine G1 (fun _ => XS.icmpNo X0.here hx rfl (hb hby d4_63) rfl (flt (by decide : ¬ ((8 : Int32) < (4 : Int32)))).1) ?_
  show Goes _ _ _ _ _ _ _ (s₁.setTop (mkF m 66 _ []))
  refine G1 (fun _ => XS.iinc X0.here hx rfl (hb hby d4_66) rfl (l' := #[.val (.int (8 : Int32)), .val (.int (29 : Int32))]) rfl) ?_
  show Goes _ _ _ _ _ _ _ (s₁.setTop (mkF m 69 _ []))
  refine G1 (fun _ => XS.iloadN X0.here hx rfl (hb hby d4_69) rfl ) ?_
  refine G1 (fun _ => XS.iconst X0.here hx rfl (hb hby d4_70)) ?_
  refine G1 (fun _ => XS.iushr X0.here hx rfl (hb hby d4_71) rfl) ?_
  show Goes _ _ _ _ _ _ _ (s₁.setTop (mkF m 72 _ [(.int (2 : Int32))]))
  refine G1 (fun _ => XS.istoreN X0.here hx rfl (hb hby d4_72) rfl (l' := #[.val (.int (2 : Int32)), .val (.int (29 : Int32))]) rfl) ?_
  show Goes _ _ _ _ _ _ _ (s₁.setTop (mkF m 73 _ []))
  refine G1 (fun _ => XS.iloadN X0.here hx rfl (hb hby d4_73) rfl ) ?_
  refine G1 (fun _ => XS.iloadN X0.here hx rfl (hb hby d4_74) rfl ) ?_
  refine G1 (fun _ => XS.iconst X0.here hx rfl (hb hby d4_75)) ?_
  refine G1 (fun _ => XS.iushr X0.here hx rfl (hb hby d4_76) rfl) ?_
  show Goes _ _ _ _ _ _ _ (s₁.setTop (mkF m 77 _ [(.int (1 : Int32)), (.int (29 : Int32))]))
  refine G1 (fun _ => XS.isub X0.here hx rfl (hb hby d4_77) rfl) ?_
  show Goes _ _ _ _ _ _ _ (s₁.setTop (mkF m 78 _ [(.int (28 : Int32))]))
  exact Goes.ret X0 hx (BodyLoose.notSynchronized Bd) Bd.returns rfl (Or.inl ⟨rfl, by simp, _, rfl⟩) (hb hby d4_78) (by show Q4_8 Z  h0 n0 (some (.int (28 : Int32))) s₁.heap _; rw [e0]; exact ⟨N0, rfl, rfl⟩) (by decide) (by decide)
theorem d3_0 : decode jdk_33_method_45_code 0 = .ok (.iload_n 0, 1) := by decide +kernel
theorem d3_1 : decode jdk_33_method_45_code 1 = .ok (.ldc 127, 2) := by decide +kernel
theorem d3_3 : decode jdk_33_method_45_code 3 = .ok (.iload_n 0, 1) := by decide +kernel
theorem d3_4 : decode jdk_33_method_45_code 4 = .ok (.invokestatic 51, 3) := by decide +kernel
theorem d3_7 : decode jdk_33_method_45_code 7 = .ok (.iushr, 1) := by decide +kernel
theorem d3_8 : decode jdk_33_method_45_code 8 = .ok (.iand, 1) := by decide +kernel
theorem d3_9 : decode jdk_33_method_45_code 9 = .ok (.ireturn, 1) := by decide +kernel
theorem pn_3 : plainName "java/lang/Integer" = true := by first | (simp [plainName, overriddenIn]; done) | decide +kernel
theorem ef_3_1 (m : MethodId)   : entryFrame m #[(.int (1 : Int32))] 1 = mkF m 0 #[.val (.int (1 : Int32))] [] := by first | (simp [entryFrame, mkF, argsToLocals, Value.category]; done) | rfl
def Q3_1 (Z : State)  (h0 : Heap) (n0 : Nat) (v : Option Value) (h : Heap) (L : List Loc) : Prop := Fr n0 L ∧ h = h0 ∧ ((v = some (.int (1 : Int32))))
set_option maxRecDepth 65536 in
set_option maxHeartbeats 40000000 in
theorem rm3_1 (l : Launch) (Z : State) (a0 : Array Value) (hw : ∀ d ∈ tables_1, d.before a0 Z = true) (ws : List Jvm.Cond)  (h0 : Heap) (n0 : Nat) (Z0 : n0 ≤ h0.size) :
    MetFree l (⟨"java/lang/Integer", "highestOneBit", "(I)I"⟩ : MethodName) (head1 (Jvm.Cond.code (⟨"java/lang/Integer", "highestOneBit", "(I)I"⟩ : MethodName) jdk_33_method_45_code 1 (some .int) :: ws) ({ frames := 1, cells := 0, slots := 0, locals := 15 } : Room)) (fun a U => a = #[(.int (1 : Int32))] ∧ Z.Warmed39 U.vm ∧ U.heap = h0) (fun _ _ _ _ _ => True) (fun _ U o U' => ∃ v L, o = .returned v ∧ Q3_1 Z  h0 n0 v U'.heap L ∧ FrameEnd U o U' L ({ frames := 1, cells := 0, slots := 0, locals := 15 } : Room).cells ({ frames := 1, cells := 0, slots := 0, locals := 15 } : Room).slots) := by
  refine MetFree.of_bodySF (plainFor_of_name pn_3) hisR ?_
  intro p e s m args below meth c s₁ Bd hml0 hP hK
  obtain ⟨rfl, hZ, hh⟩ := hP
  have w_15 := own_at hw 15 rfl
  have w_17 := own_at hw 17 rfl
  have w_18 := own_at hw 18 rfl
  have w_19 := own_at hw 19 rfl
  have w_20 := own_at hw 20 rfl
  have hx := Bd.exec
  have hby := Bd.bytes
  have hml : c.maxLocals = 1 := hml0
  have hown : s.vm.findClass "java/lang/Integer" = some m.cls := findClass_of_methodNamed Bd.named
  have hnm := (name_of_methodNamed Bd.named Bd.method).1
  have X0 : Stand p l e ({ frames := 1, cells := 0, slots := 0, locals := 15 } : Room) s m #[(.int (1 : Int32))] below meth c s₁ [] 0 0 := Stand.of_body Bd
  have e0 : s₁.heap = h0 := by rw [← hh, Bd.state]; rfl
  have N0 := Fr.nil n0
  have K0 : Keep h0 h0 [] := Keep.refl h0 _
  refine (?_ : Goes p e below s ({ frames := 1, cells := 0, slots := 0, locals := 15 } : Room).cells ({ frames := 1, cells := 0, slots := 0, locals := 15 } : Room).slots (fun v h L => Q3_1 Z  h0 n0 v h L) (s₁.setTop (entryFrame m #[(.int (1 : Int32))] 1)))
  rw [ef_3_1 m  ]
  show Goes _ _ _ _ _ _ _ (s₁.setTop (mkF m 0 #[.val (.int (1 : Int32))] []))
  refine G1 (fun _ => XS.iloadN X0.here hx rfl (hb hby d3_0) rfl ) ?_
  refine G1 (fun _ => X0.ldcInt hx hown (mvT hZ w_17) (g := (mkF m 1 #[.val (.int (1 : Int32))] [(.int (1 : Int32))])) rfl (hb hby d3_1) _) ?_
  refine G1 (fun _ => XS.iloadN X0.here hx rfl (hb hby d3_3) rfl ) ?_
  obtain ⟨_, _, ⟨T1, L1, k1, n1⟩, -, X1, ⟨Lc1, hQ1, l1, y1, z1⟩, st1⟩ := Jvm.LawKit.callS X0 hx (y := mN4) hown (mvT hZ w_18) (mvT hZ w_19) (mvT hZ w_15) (mvT hZ w_20) (by decide) (backOf (W := 2) (rm4_1 l Z a0 hw []  h0 n0 Z0 ) hZ w_20 w_15 (by decide) (by decide)) (g := (mkF m 4 #[.val (.int (1 : Int32))] [(.int (1 : Int32)), (.int (-2147483648 : Int32)), (.int (1 : Int32))])) rfl (by rw [hml]; rfl) (argsL := [(.int (1 : Int32))]) (rest := [(.int (-2147483648 : Int32)), (.int (1 : Int32))]) (lenOf pd_2 rfl) rfl (by show 2 * 0 + _ ≤ _; exact Nat.le_of_eq rfl) (hb hby d3_4) (fun _ _ => ⟨rfl, e0, (by decide : 0 + 0 ≤ _), (by decide : 0 + 0 ≤ _)⟩)
  dsimp only [Pt.U, Pt.locs, Pt.cells, Pt.slots] at X1 l1 y1 z1 st1 hQ1
  rw [l1, y1, z1] at X1
  obtain ⟨N1, KK1, hR1⟩ := hQ1
  have NA1 := Fr.app N0 N1
  obtain rfl := hR1
  refine G1 st1 ?_
  show Goes _ _ _ _ _ _ _ (T1.setTop (mkF m 7 _ [(.int (31 : Int32)), (.int (-2147483648 : Int32)), (.int (1 : Int32))]))
  refine G1 (fun _ => XS.iushr X1.here hx rfl (hb hby d3_7) rfl) ?_
  show Goes _ _ _ _ _ _ _ (T1.setTop (mkF m 8 _ [(.int (1 : Int32)), (.int (1 : Int32))]))
  refine G1 (fun _ => XS.iand X1.here hx rfl (hb hby d3_8) rfl) ?_
  show Goes _ _ _ _ _ _ _ (T1.setTop (mkF m 9 _ [(.int (1 : Int32))]))
  exact Goes.ret X1 hx (BodyLoose.notSynchronized Bd) Bd.returns rfl (Or.inl ⟨rfl, by simp, _, rfl⟩) (hb hby d3_9) (by show Q3_1 Z  h0 n0 (some (.int (1 : Int32))) T1.heap _; rw [KK1]; exact ⟨NA1, rfl, rfl⟩) (by decide) (by decide)
theorem ef_3_3 (m : MethodId)   : entryFrame m #[(.int (3 : Int32))] 1 = mkF m 0 #[.val (.int (3 : Int32))] [] := by first | (simp [entryFrame, mkF, argsToLocals, Value.category]; done) | rfl
def Q3_3 (Z : State)  (h0 : Heap) (n0 : Nat) (v : Option Value) (h : Heap) (L : List Loc) : Prop := Fr n0 L ∧ h = h0 ∧ ((v = some (.int (2 : Int32))))
set_option maxRecDepth 65536 in
set_option maxHeartbeats 40000000 in
theorem rm3_3 (l : Launch) (Z : State) (a0 : Array Value) (hw : ∀ d ∈ tables_1, d.before a0 Z = true) (ws : List Jvm.Cond)  (h0 : Heap) (n0 : Nat) (Z0 : n0 ≤ h0.size) :
    MetFree l (⟨"java/lang/Integer", "highestOneBit", "(I)I"⟩ : MethodName) (head1 (Jvm.Cond.code (⟨"java/lang/Integer", "highestOneBit", "(I)I"⟩ : MethodName) jdk_33_method_45_code 1 (some .int) :: ws) ({ frames := 1, cells := 0, slots := 0, locals := 15 } : Room)) (fun a U => a = #[(.int (3 : Int32))] ∧ Z.Warmed39 U.vm ∧ U.heap = h0) (fun _ _ _ _ _ => True) (fun _ U o U' => ∃ v L, o = .returned v ∧ Q3_3 Z  h0 n0 v U'.heap L ∧ FrameEnd U o U' L ({ frames := 1, cells := 0, slots := 0, locals := 15 } : Room).cells ({ frames := 1, cells := 0, slots := 0, locals := 15 } : Room).slots) := by
  refine MetFree.of_bodySF (plainFor_of_name pn_3) hisR ?_
  intro p e s m args below meth c s₁ Bd hml0 hP hK
  obtain ⟨rfl, hZ, hh⟩ := hP
  have w_15 := own_at hw 15 rfl
  have w_17 := own_at hw 17 rfl
  have w_18 := own_at hw 18 rfl
  have w_19 := own_at hw 19 rfl
  have w_20 := own_at hw 20 rfl
  have hx := Bd.exec
  have hby := Bd.bytes
  have hml : c.maxLocals = 1 := hml0
  have hown : s.vm.findClass "java/lang/Integer" = some m.cls := findClass_of_methodNamed Bd.named
  have hnm := (name_of_methodNamed Bd.named Bd.method).1
  have X0 : Stand p l e ({ frames := 1, cells := 0, slots := 0, locals := 15 } : Room) s m #[(.int (3 : Int32))] below meth c s₁ [] 0 0 := Stand.of_body Bd
  have e0 : s₁.heap = h0 := by rw [← hh, Bd.state]; rfl
  have N0 := Fr.nil n0
  have K0 : Keep h0 h0 [] := Keep.refl h0 _
  refine (?_ : Goes p e below s ({ frames := 1, cells := 0, slots := 0, locals := 15 } : Room).cells ({ frames := 1, cells := 0, slots := 0, locals := 15 } : Room).slots (fun v h L => Q3_3 Z  h0 n0 v h L) (s₁.setTop (entryFrame m #[(.int (3 : Int32))] 1)))
  rw [ef_3_3 m  ]
  show Goes _ _ _ _ _ _ _ (s₁.setTop (mkF m 0 #[.val (.int (3 : Int32))] []))
  refine G1 (fun _ => XS.iloadN X0.here hx rfl (hb hby d3_0) rfl ) ?_
  refine G1 (fun _ => X0.ldcInt hx hown (mvT hZ w_17) (g := (mkF m 1 #[.val (.int (3 : Int32))] [(.int (3 : Int32))])) rfl (hb hby d3_1) _) ?_
  refine G1 (fun _ => XS.iloadN X0.here hx rfl (hb hby d3_3) rfl ) ?_
  obtain ⟨_, _, ⟨T1, L1, k1, n1⟩, -, X1, ⟨Lc1, hQ1, l1, y1, z1⟩, st1⟩ := Jvm.LawKit.callS X0 hx (y := mN4) hown (mvT hZ w_18) (mvT hZ w_19) (mvT hZ w_15) (mvT hZ w_20) (by decide) (backOf (W := 2) (rm4_3 l Z a0 hw []  h0 n0 Z0 ) hZ w_20 w_15 (by decide) (by decide)) (g := (mkF m 4 #[.val (.int (3 : Int32))] [(.int (3 : Int32)), (.int (-2147483648 : Int32)), (.int (3 : Int32))])) rfl (by rw [hml]; rfl) (argsL := [(.int (3 : Int32))]) (rest := [(.int (-2147483648 : Int32)), (.int (3 : Int32))]) (lenOf pd_2 rfl) rfl (by show 2 * 0 + _ ≤ _; exact Nat.le_of_eq rfl) (hb hby d3_4) (fun _ _ => ⟨rfl, e0, (by decide : 0 + 0 ≤ _), (by decide : 0 + 0 ≤ _)⟩)
  dsimp only [Pt.U, Pt.locs, Pt.cells, Pt.slots] at X1 l1 y1 z1 st1 hQ1
  rw [l1, y1, z1] at X1
  obtain ⟨N1, KK1, hR1⟩ := hQ1
  have NA1 := Fr.app N0 N1
  obtain rfl := hR1
  refine G1 st1 ?_
  show Goes _ _ _ _ _ _ _ (T1.setTop (mkF m 7 _ [(.int (30 : Int32)), (.int (-2147483648 : Int32)), (.int (3 : Int32))]))
  refine G1 (fun _ => XS.iushr X1.here hx rfl (hb hby d3_7) rfl) ?_
  show Goes _ _ _ _ _ _ _ (T1.setTop (mkF m 8 _ [(.int (2 : Int32)), (.int (3 : Int32))]))
  refine G1 (fun _ => XS.iand X1.here hx rfl (hb hby d3_8) rfl) ?_
  show Goes _ _ _ _ _ _ _ (T1.setTop (mkF m 9 _ [(.int (2 : Int32))]))
  exact Goes.ret X1 hx (BodyLoose.notSynchronized Bd) Bd.returns rfl (Or.inl ⟨rfl, by simp, _, rfl⟩) (hb hby d3_9) (by show Q3_3 Z  h0 n0 (some (.int (2 : Int32))) T1.heap _; rw [KK1]; exact ⟨NA1, rfl, rfl⟩) (by decide) (by decide)
theorem ef_3_5 (m : MethodId)   : entryFrame m #[(.int (5 : Int32))] 1 = mkF m 0 #[.val (.int (5 : Int32))] [] := by first | (simp [entryFrame, mkF, argsToLocals, Value.category]; done) | rfl
def Q3_5 (Z : State)  (h0 : Heap) (n0 : Nat) (v : Option Value) (h : Heap) (L : List Loc) : Prop := Fr n0 L ∧ h = h0 ∧ ((v = some (.int (4 : Int32))))
set_option maxRecDepth 65536 in
set_option maxHeartbeats 40000000 in
theorem rm3_5 (l : Launch) (Z : State) (a0 : Array Value) (hw : ∀ d ∈ tables_1, d.before a0 Z = true) (ws : List Jvm.Cond)  (h0 : Heap) (n0 : Nat) (Z0 : n0 ≤ h0.size) :
    MetFree l (⟨"java/lang/Integer", "highestOneBit", "(I)I"⟩ : MethodName) (head1 (Jvm.Cond.code (⟨"java/lang/Integer", "highestOneBit", "(I)I"⟩ : MethodName) jdk_33_method_45_code 1 (some .int) :: ws) ({ frames := 1, cells := 0, slots := 0, locals := 15 } : Room)) (fun a U => a = #[(.int (5 : Int32))] ∧ Z.Warmed39 U.vm ∧ U.heap = h0) (fun _ _ _ _ _ => True) (fun _ U o U' => ∃ v L, o = .returned v ∧ Q3_5 Z  h0 n0 v U'.heap L ∧ FrameEnd U o U' L ({ frames := 1, cells := 0, slots := 0, locals := 15 } : Room).cells ({ frames := 1, cells := 0, slots := 0, locals := 15 } : Room).slots) := by
  refine MetFree.of_bodySF (plainFor_of_name pn_3) hisR ?_
  intro p e s m args below meth c s₁ Bd hml0 hP hK
  obtain ⟨rfl, hZ, hh⟩ := hP
  have w_15 := own_at hw 15 rfl
  have w_17 := own_at hw 17 rfl
  have w_18 := own_at hw 18 rfl
  have w_19 := own_at hw 19 rfl
  have w_20 := own_at hw 20 rfl
  have hx := Bd.exec
  have hby := Bd.bytes
  have hml : c.maxLocals = 1 := hml0
  have hown : s.vm.findClass "java/lang/Integer" = some m.cls := findClass_of_methodNamed Bd.named
  have hnm := (name_of_methodNamed Bd.named Bd.method).1
  have X0 : Stand p l e ({ frames := 1, cells := 0, slots := 0, locals := 15 } : Room) s m #[(.int (5 : Int32))] below meth c s₁ [] 0 0 := Stand.of_body Bd
  have e0 : s₁.heap = h0 := by rw [← hh, Bd.state]; rfl
  have N0 := Fr.nil n0
  have K0 : Keep h0 h0 [] := Keep.refl h0 _
  refine (?_ : Goes p e below s ({ frames := 1, cells := 0, slots := 0, locals := 15 } : Room).cells ({ frames := 1, cells := 0, slots := 0, locals := 15 } : Room).slots (fun v h L => Q3_5 Z  h0 n0 v h L) (s₁.setTop (entryFrame m #[(.int (5 : Int32))] 1)))
  rw [ef_3_5 m  ]
  show Goes _ _ _ _ _ _ _ (s₁.setTop (mkF m 0 #[.val (.int (5 : Int32))] []))
  refine G1 (fun _ => XS.iloadN X0.here hx rfl (hb hby d3_0) rfl ) ?_
  refine G1 (fun _ => X0.ldcInt hx hown (mvT hZ w_17) (g := (mkF m 1 #[.val (.int (5 : Int32))] [(.int (5 : Int32))])) rfl (hb hby d3_1) _) ?_
  refine G1 (fun _ => XS.iloadN X0.here hx rfl (hb hby d3_3) rfl ) ?_
  obtain ⟨_, _, ⟨T1, L1, k1, n1⟩, -, X1, ⟨Lc1, hQ1, l1, y1, z1⟩, st1⟩ := Jvm.LawKit.callS X0 hx (y := mN4) hown (mvT hZ w_18) (mvT hZ w_19) (mvT hZ w_15) (mvT hZ w_20) (by decide) (backOf (W := 2) (rm4_5 l Z a0 hw []  h0 n0 Z0 ) hZ w_20 w_15 (by decide) (by decide)) (g := (mkF m 4 #[.val (.int (5 : Int32))] [(.int (5 : Int32)), (.int (-2147483648 : Int32)), (.int (5 : Int32))])) rfl (by rw [hml]; rfl) (argsL := [(.int (5 : Int32))]) (rest := [(.int (-2147483648 : Int32)), (.int (5 : Int32))]) (lenOf pd_2 rfl) rfl (by show 2 * 0 + _ ≤ _; exact Nat.le_of_eq rfl) (hb hby d3_4) (fun _ _ => ⟨rfl, e0, (by decide : 0 + 0 ≤ _), (by decide : 0 + 0 ≤ _)⟩)
  dsimp only [Pt.U, Pt.locs, Pt.cells, Pt.slots] at X1 l1 y1 z1 st1 hQ1
  rw [l1, y1, z1] at X1
  obtain ⟨N1, KK1, hR1⟩ := hQ1
  have NA1 := Fr.app N0 N1
  obtain rfl := hR1
  refine G1 st1 ?_
  show Goes _ _ _ _ _ _ _ (T1.setTop (mkF m 7 _ [(.int (29 : Int32)), (.int (-2147483648 : Int32)), (.int (5 : Int32))]))
  refine G1 (fun _ => XS.iushr X1.here hx rfl (hb hby d3_7) rfl) ?_
  show Goes _ _ _ _ _ _ _ (T1.setTop (mkF m 8 _ [(.int (4 : Int32)), (.int (5 : Int32))]))
  refine G1 (fun _ => XS.iand X1.here hx rfl (hb hby d3_8) rfl) ?_
  show Goes _ _ _ _ _ _ _ (T1.setTop (mkF m 9 _ [(.int (4 : Int32))]))
  exact Goes.ret X1 hx (BodyLoose.notSynchronized Bd) Bd.returns rfl (Or.inl ⟨rfl, by simp, _, rfl⟩) (hb hby d3_9) (by show Q3_5 Z  h0 n0 (some (.int (4 : Int32))) T1.heap _; rw [KK1]; exact ⟨NA1, rfl, rfl⟩) (by decide) (by decide)
theorem ef_3_7 (m : MethodId)   : entryFrame m #[(.int (7 : Int32))] 1 = mkF m 0 #[.val (.int (7 : Int32))] [] := by first | (simp [entryFrame, mkF, argsToLocals, Value.category]; done) | rfl
def Q3_7 (Z : State)  (h0 : Heap) (n0 : Nat) (v : Option Value) (h : Heap) (L : List Loc) : Prop := Fr n0 L ∧ h = h0 ∧ ((v = some (.int (4 : Int32))))
set_option maxRecDepth 65536 in
set_option maxHeartbeats 40000000 in
theorem rm3_7 (l : Launch) (Z : State) (a0 : Array Value) (hw : ∀ d ∈ tables_1, d.before a0 Z = true) (ws : List Jvm.Cond)  (h0 : Heap) (n0 : Nat) (Z0 : n0 ≤ h0.size) :
    MetFree l (⟨"java/lang/Integer", "highestOneBit", "(I)I"⟩ : MethodName) (head1 (Jvm.Cond.code (⟨"java/lang/Integer", "highestOneBit", "(I)I"⟩ : MethodName) jdk_33_method_45_code 1 (some .int) :: ws) ({ frames := 1, cells := 0, slots := 0, locals := 15 } : Room)) (fun a U => a = #[(.int (7 : Int32))] ∧ Z.Warmed39 U.vm ∧ U.heap = h0) (fun _ _ _ _ _ => True) (fun _ U o U' => ∃ v L, o = .returned v ∧ Q3_7 Z  h0 n0 v U'.heap L ∧ FrameEnd U o U' L ({ frames := 1, cells := 0, slots := 0, locals := 15 } : Room).cells ({ frames := 1, cells := 0, slots := 0, locals := 15 } : Room).slots) := by
  refine MetFree.of_bodySF (plainFor_of_name pn_3) hisR ?_
  intro p e s m args below meth c s₁ Bd hml0 hP hK
  obtain ⟨rfl, hZ, hh⟩ := hP
  have w_15 := own_at hw 15 rfl
  have w_17 := own_at hw 17 rfl
  have w_18 := own_at hw 18 rfl
  have w_19 := own_at hw 19 rfl
  have w_20 := own_at hw 20 rfl
  have hx := Bd.exec
  have hby := Bd.bytes
  have hml : c.maxLocals = 1 := hml0
  have hown : s.vm.findClass "java/lang/Integer" = some m.cls := findClass_of_methodNamed Bd.named
  have hnm := (name_of_methodNamed Bd.named Bd.method).1
  have X0 : Stand p l e ({ frames := 1, cells := 0, slots := 0, locals := 15 } : Room) s m #[(.int (7 : Int32))] below meth c s₁ [] 0 0 := Stand.of_body Bd
  have e0 : s₁.heap = h0 := by rw [← hh, Bd.state]; rfl
  have N0 := Fr.nil n0
  have K0 : Keep h0 h0 [] := Keep.refl h0 _
  refine (?_ : Goes p e below s ({ frames := 1, cells := 0, slots := 0, locals := 15 } : Room).cells ({ frames := 1, cells := 0, slots := 0, locals := 15 } : Room).slots (fun v h L => Q3_7 Z  h0 n0 v h L) (s₁.setTop (entryFrame m #[(.int (7 : Int32))] 1)))
  rw [ef_3_7 m  ]
  show Goes _ _ _ _ _ _ _ (s₁.setTop (mkF m 0 #[.val (.int (7 : Int32))] []))
  refine G1 (fun _ => XS.iloadN X0.here hx rfl (hb hby d3_0) rfl ) ?_
  refine G1 (fun _ => X0.ldcInt hx hown (mvT hZ w_17) (g := (mkF m 1 #[.val (.int (7 : Int32))] [(.int (7 : Int32))])) rfl (hb hby d3_1) _) ?_
  refine G1 (fun _ => XS.iloadN X0.here hx rfl (hb hby d3_3) rfl ) ?_
  obtain ⟨_, _, ⟨T1, L1, k1, n1⟩, -, X1, ⟨Lc1, hQ1, l1, y1, z1⟩, st1⟩ := Jvm.LawKit.callS X0 hx (y := mN4) hown (mvT hZ w_18) (mvT hZ w_19) (mvT hZ w_15) (mvT hZ w_20) (by decide) (backOf (W := 2) (rm4_7 l Z a0 hw []  h0 n0 Z0 ) hZ w_20 w_15 (by decide) (by decide)) (g := (mkF m 4 #[.val (.int (7 : Int32))] [(.int (7 : Int32)), (.int (-2147483648 : Int32)), (.int (7 : Int32))])) rfl (by rw [hml]; rfl) (argsL := [(.int (7 : Int32))]) (rest := [(.int (-2147483648 : Int32)), (.int (7 : Int32))]) (lenOf pd_2 rfl) rfl (by show 2 * 0 + _ ≤ _; exact Nat.le_of_eq rfl) (hb hby d3_4) (fun _ _ => ⟨rfl, e0, (by decide : 0 + 0 ≤ _), (by decide : 0 + 0 ≤ _)⟩)
  dsimp only [Pt.U, Pt.locs, Pt.cells, Pt.slots] at X1 l1 y1 z1 st1 hQ1
  rw [l1, y1, z1] at X1
  obtain ⟨N1, KK1, hR1⟩ := hQ1
  have NA1 := Fr.app N0 N1
  obtain rfl := hR1
  refine G1 st1 ?_
  show Goes _ _ _ _ _ _ _ (T1.setTop (mkF m 7 _ [(.int (29 : Int32)), (.int (-2147483648 : Int32)), (.int (7 : Int32))]))
  refine G1 (fun _ => XS.iushr X1.here hx rfl (hb hby d3_7) rfl) ?_
  show Goes _ _ _ _ _ _ _ (T1.setTop (mkF m 8 _ [(.int (4 : Int32)), (.int (7 : Int32))]))
  refine G1 (fun _ => XS.iand X1.here hx rfl (hb hby d3_8) rfl) ?_
  show Goes _ _ _ _ _ _ _ (T1.setTop (mkF m 9 _ [(.int (4 : Int32))]))
  exact Goes.ret X1 hx (BodyLoose.notSynchronized Bd) Bd.returns rfl (Or.inl ⟨rfl, by simp, _, rfl⟩) (hb hby d3_9) (by show Q3_7 Z  h0 n0 (some (.int (4 : Int32))) T1.heap _; rw [KK1]; exact ⟨NA1, rfl, rfl⟩) (by decide) (by decide)
theorem d1_0 : decode prog_31_method_1_code 0 = .ok (.aload_n 0, 1) := by decide +kernel
theorem d1_1 : decode prog_31_method_1_code 1 = .ok (.invokespecial 1, 3) := by decide +kernel
theorem d1_4 : decode prog_31_method_1_code 4 = .ok (.iload_n 1, 1) := by decide +kernel
theorem d1_5 : decode prog_31_method_1_code 5 = .ok (.iconst 1, 1) := by decide +kernel
theorem d1_6 : decode prog_31_method_1_code 6 = .ok (.if_icmp .lt 9, 3) := by decide +kernel
theorem d1_9 : decode prog_31_method_1_code 9 = .ok (.iload_n 1, 1) := by decide +kernel
theorem d1_10 : decode prog_31_method_1_code 10 = .ok (.ldc 9, 2) := by decide +kernel
theorem d1_12 : decode prog_31_method_1_code 12 = .ok (.if_icmp .le 17, 3) := by decide +kernel
theorem d1_29 : decode prog_31_method_1_code 29 = .ok (.aload_n 0, 1) := by decide +kernel
theorem d1_30 : decode prog_31_method_1_code 30 = .ok (.iload_n 1, 1) := by decide +kernel
theorem d1_31 : decode prog_31_method_1_code 31 = .ok (.putfield 19, 3) := by decide +kernel
theorem d1_34 : decode prog_31_method_1_code 34 = .ok (.iconst 2, 1) := by decide +kernel
theorem d1_35 : decode prog_31_method_1_code 35 = .ok (.iload_n 1, 1) := by decide +kernel
theorem d1_36 : decode prog_31_method_1_code 36 = .ok (.imul, 1) := by decide +kernel
theorem d1_37 : decode prog_31_method_1_code 37 = .ok (.iconst 1, 1) := by decide +kernel
theorem d1_38 : decode prog_31_method_1_code 38 = .ok (.isub, 1) := by decide +kernel
theorem d1_39 : decode prog_31_method_1_code 39 = .ok (.invokestatic 23, 3) := by decide +kernel
theorem d1_42 : decode prog_31_method_1_code 42 = .ok (.iconst 1, 1) := by decide +kernel
theorem d1_43 : decode prog_31_method_1_code 43 = .ok (.ishl, 1) := by decide +kernel
theorem d1_44 : decode prog_31_method_1_code 44 = .ok (.istore_n 2, 1) := by decide +kernel
theorem d1_45 : decode prog_31_method_1_code 45 = .ok (.aload_n 0, 1) := by decide +kernel
theorem d1_46 : decode prog_31_method_1_code 46 = .ok (.iload_n 2, 1) := by decide +kernel
theorem d1_47 : decode prog_31_method_1_code 47 = .ok (.anewarray 2, 3) := by decide +kernel
theorem d1_50 : decode prog_31_method_1_code 50 = .ok (.putfield 29, 3) := by decide +kernel
theorem d1_53 : decode prog_31_method_1_code 53 = .ok (.aload_n 0, 1) := by decide +kernel
theorem d1_54 : decode prog_31_method_1_code 54 = .ok (.iload_n 2, 1) := by decide +kernel
theorem d1_55 : decode prog_31_method_1_code 55 = .ok (.newarray .int, 2) := by decide +kernel
theorem d1_57 : decode prog_31_method_1_code 57 = .ok (.putfield 33, 3) := by decide +kernel
theorem d1_60 : decode prog_31_method_1_code 60 = .ok (.aload_n 0, 1) := by decide +kernel
theorem d1_61 : decode prog_31_method_1_code 61 = .ok (.iload_n 2, 1) := by decide +kernel
theorem d1_62 : decode prog_31_method_1_code 62 = .ok (.anewarray 2, 3) := by decide +kernel
theorem d1_65 : decode prog_31_method_1_code 65 = .ok (.putfield 37, 3) := by decide +kernel
theorem d1_68 : decode prog_31_method_1_code 68 = .ok (.aload_n 0, 1) := by decide +kernel
theorem d1_69 : decode prog_31_method_1_code 69 = .ok (.iload_n 2, 1) := by decide +kernel
theorem d1_70 : decode prog_31_method_1_code 70 = .ok (.invokestatic 40, 3) := by decide +kernel
theorem d1_73 : decode prog_31_method_1_code 73 = .ok (.iconst 1, 1) := by decide +kernel
theorem d1_74 : decode prog_31_method_1_code 74 = .ok (.iadd, 1) := by decide +kernel
theorem d1_75 : decode prog_31_method_1_code 75 = .ok (.putfield 43, 3) := by decide +kernel
theorem d1_78 : decode prog_31_method_1_code 78 = .ok (.return_, 1) := by decide +kernel
theorem pn_1 : plainName "com/example/nehaba/nehaba/input/KeptValues" = true := by first | (simp [plainName, overriddenIn]; done) | decide +kernel
theorem ef_1_1 (m : MethodId) (x0 : Addr)  : entryFrame m #[(.ref x0), (.int (1 : Int32))] 3 = mkF m 0 #[.val (.ref x0), .val (.int (1 : Int32)), .unset] [] := by first | (simp [entryFrame, mkF, argsToLocals, Value.category]; done) | rfl
def Q1_1 (Z : State) (x0 : Addr) (h0 : Heap) (n0 : Nat) (v : Option Value) (h : Heap) (L : List Loc) : Prop := Fr n0 L ∧ Keep h0 h [x0] ∧ ((∃ (r_0 : Addr) (r_1 : Addr) (r_2 : Addr) (k_0 : ClassId) (k_1 : ClassId) (k_2 : ClassId), v = none ∧ n0 ≤ r_0 ∧ h0.size ≤ r_0 ∧ n0 ≤ r_1 ∧ h0.size ≤ r_1 ∧ n0 ≤ r_2 ∧ h0.size ≤ r_2 ∧ r_1 ≠ r_0 ∧ r_2 ≠ r_0 ∧ r_2 ≠ r_1 ∧ Fld Z h x0 "com/example/nehaba/nehaba/input/KeptValues" "most" "I" (.int (1 : Int32)) ∧ Fld Z h x0 "com/example/nehaba/nehaba/input/KeptValues" "keys" "[Ljava/lang/Object;" (.ref r_0) ∧ Fld Z h x0 "com/example/nehaba/nehaba/input/KeptValues" "hashes" "[I" (.ref r_1) ∧ Fld Z h x0 "com/example/nehaba/nehaba/input/KeptValues" "values" "[Ljava/lang/Object;" (.ref r_2) ∧ Fld Z h x0 "com/example/nehaba/nehaba/input/KeptValues" "shift" "I" (.int (31 : Int32)) ∧ Fld Z h x0 "com/example/nehaba/nehaba/input/KeptValues" "size" "I" (.int (0 : Int32)) ∧ Exa Z h x0 "com/example/nehaba/nehaba/input/KeptValues" ∧ ArF Z h r_0 k_0 (.object "java/lang/Object") 2 (fun _ => .null) ∧ ArF Z h r_1 k_1 .int 2 (fun _ => (.int (0 : Int32))) ∧ ArF Z h r_2 k_2 (.object "java/lang/Object") 2 (fun _ => .null) ∧ Ovr Z k_0 "java/lang/Object" ∧ Ovr Z k_2 "java/lang/Object"))
set_option maxRecDepth 65536 in
set_option maxHeartbeats 40000000 in
theorem rm1_1 (l : Launch) (Z : State) (a0 : Array Value) (hw : ∀ d ∈ tables_1, d.before a0 Z = true) (ws : List Jvm.Cond) (x0 : Addr) (h0 : Heap) (n0 : Nat) (Z0 : n0 ≤ h0.size) (F0_most : Fld Z h0 x0 "com/example/nehaba/nehaba/input/KeptValues" "most" "I" (.int (0 : Int32))) (F0_keys : Fld Z h0 x0 "com/example/nehaba/nehaba/input/KeptValues" "keys" "[Ljava/lang/Object;" .null) (F0_hashes : Fld Z h0 x0 "com/example/nehaba/nehaba/input/KeptValues" "hashes" "[I" .null) (F0_values : Fld Z h0 x0 "com/example/nehaba/nehaba/input/KeptValues" "values" "[Ljava/lang/Object;" .null) (F0_shift : Fld Z h0 x0 "com/example/nehaba/nehaba/input/KeptValues" "shift" "I" (.int (0 : Int32))) (F0_size : Fld Z h0 x0 "com/example/nehaba/nehaba/input/KeptValues" "size" "I" (.int (0 : Int32))) (E_x0 : Exa Z h0 x0 "com/example/nehaba/nehaba/input/KeptValues") (g_x0 : n0 ≤ x0) :
    MetFree l (⟨"com/example/nehaba/nehaba/input/KeptValues", "<init>", "(I)V"⟩ : MethodName) (head1 (Jvm.Cond.code (⟨"com/example/nehaba/nehaba/input/KeptValues", "<init>", "(I)V"⟩ : MethodName) prog_31_method_1_code 3 none :: ws) ({ frames := 2, cells := 3, slots := 6, locals := 27 } : Room)) (fun a U => a = #[(.ref x0), (.int (1 : Int32))] ∧ Z.Warmed39 U.vm ∧ U.heap = h0) (fun _ _ _ _ _ => True) (fun _ U o U' => ∃ v L, o = .returned v ∧ Q1_1 Z x0 h0 n0 v U'.heap L ∧ FrameEnd U o U' L ({ frames := 2, cells := 3, slots := 6, locals := 27 } : Room).cells ({ frames := 2, cells := 3, slots := 6, locals := 27 } : Room).slots) := by
  refine MetFree.of_bodySF (plainFor_of_name pn_1) hisR ?_
  intro p e s m args below meth c s₁ Bd hml0 hP hK
  obtain ⟨rfl, hZ, hh⟩ := hP
  have w_0 := own_at hw 0 rfl
  have w_2 := own_at hw 2 rfl
  have w_7 := own_at hw 7 rfl
  have w_8 := own_at hw 8 rfl
  have w_9 := own_at hw 9 rfl
  have w_10 := own_at hw 10 rfl
  have w_11 := own_at hw 11 rfl
  have w_12 := own_at hw 12 rfl
  have w_13 := own_at hw 13 rfl
  have w_14 := own_at hw 14 rfl
  have w_15 := own_at hw 15 rfl
  have w_16 := own_at hw 16 rfl
  have w_19 := own_at hw 19 rfl
  have w_20 := own_at hw 20 rfl
  have w_22 := own_at hw 22 rfl
  have w_23 := own_at hw 23 rfl
  have w_24 := own_at hw 24 rfl
  have w_25 := own_at hw 25 rfl
  have w_26 := own_at hw 26 rfl
  have w_27 := own_at hw 27 rfl
  have w_28 := own_at hw 28 rfl
  have w_29 := own_at hw 29 rfl
  have w_30 := own_at hw 30 rfl
  have w_31 := own_at hw 31 rfl
  have w_32 := own_at hw 32 rfl
  have w_64 := own_at hw 64 rfl
  have hx := Bd.exec
  have hby := Bd.bytes
  have hml : c.maxLocals = 3 := hml0
  have hown : s.vm.findClass "com/example/nehaba/nehaba/input/KeptValues" = some m.cls := findClass_of_methodNamed Bd.named
  have hnm := (name_of_methodNamed Bd.named Bd.method).1
  have X0 : Stand p l e ({ frames := 2, cells := 3, slots := 6, locals := 27 } : Room) s m #[(.ref x0), (.int (1 : Int32))] below meth c s₁ [] 0 0 := Stand.of_body Bd
  have e0 : s₁.heap = h0 := by rw [← hh, Bd.state]; rfl
  have N0 := Fr.nil n0
  have K0 : Keep h0 h0 [x0] := Keep.refl h0 _
  refine (?_ : Goes p e below s ({ frames := 2, cells := 3, slots := 6, locals := 27 } : Room).cells ({ frames := 2, cells := 3, slots := 6, locals := 27 } : Room).slots (fun v h L => Q1_1 Z x0 h0 n0 v h L) (s₁.setTop (entryFrame m #[(.ref x0), (.int (1 : Int32))] 3)))
  rw [ef_1_1 m x0 ]
  show Goes _ _ _ _ _ _ _ (s₁.setTop (mkF m 0 #[.val (.ref x0), .val (.int (1 : Int32)), .unset] []))
  refine G1 (fun _ => XS.aloadN X0.here hx rfl (hb hby d1_0) rfl rfl) ?_
  obtain ⟨T1, X1, e1, st1⟩ := initO X0 hx hZ hown w_7 w_8 w_9 e0 (g := (mkF m 1 #[.val (.ref x0), .val (.int (1 : Int32)), .unset] [(.ref x0)])) rfl (by rw [hml]; rfl) rfl (hb hby d1_1) (by decide) (W := 0) (by show 2 * 0 + _ ≤ _; exact Nat.le_of_eq rfl) (by decide)
  refine G1 st1 ?_
  show Goes _ _ _ _ _ _ _ (T1.setTop (mkF m 4 _ []))
  refine G1 (fun _ => XS.iloadN X1.here hx rfl (hb hby d1_4) rfl ) ?_
  refine G1 (fun _ => XS.iconst X1.here hx rfl (hb hby d1_5)) ?_
  refine G1 (fun _ => XS.icmpNo X1.here hx rfl (hb hby d1_6) rfl (flt (by decide : ¬ ((1 : Int32) < (1 : Int32)))).1) ?_
  show Goes _ _ _ _ _ _ _ (T1.setTop (mkF m 9 _ []))
  refine G1 (fun _ => XS.iloadN X1.here hx rfl (hb hby d1_9) rfl ) ?_
  refine G1 (fun _ => X1.ldcInt hx hown (mvT hZ w_10) (g := (mkF m 10 #[.val (.ref x0), .val (.int (1 : Int32)), .unset] [(.int (1 : Int32))])) rfl (hb hby d1_10) _) ?_
  refine G1 (fun _ => XS.icmpYes X1.here hx rfl (pc0 := 12) (pc' := 29) rfl (hb hby d1_12) rfl (flt (by decide : ¬ ((536870912 : Int32) < (1 : Int32)))).2.2.2 (by decide) (by decide)) ?_
  show Goes _ _ _ _ _ _ _ (T1.setTop (mkF m 29 _ []))
  refine G1 (fun _ => XS.aloadN X1.here hx rfl (hb hby d1_29) rfl rfl) ?_
  refine G1 (fun _ => XS.iloadN X1.here hx rfl (hb hby d1_30) rfl ) ?_
  obtain ⟨T2, h2, X2, e2, W2, st2⟩ := putF X1 hx hZ hown (host := "") (Or.inl w_11) Via.refl e1 F0_most E_x0 (Or.inr ⟨w_12, rfl, hnm⟩) w_2 (ty := .int) (by decide) rfl rfl (g := (mkF m 31 #[.val (.ref x0), .val (.int (1 : Int32)), .unset] [(.int (1 : Int32)), (.ref x0)])) rfl rfl (hb hby d1_31)
  refine G1 st2 ?_
  have f3 := F0_most.same W2
  have f4 := F0_keys.other W2 (Or.inr (slot_ne (Or.inr w_25) (Or.inr w_12) (by decide) (t := (.array (.object "java/lang/Object"))) (t' := .int) (by decide) (by decide)))
  have f5 := F0_hashes.other W2 (Or.inr (slot_ne (Or.inr w_27) (Or.inr w_12) (by decide) (t := (.array .int)) (t' := .int) (by decide) (by decide)))
  have f6 := F0_values.other W2 (Or.inr (slot_ne (Or.inr w_29) (Or.inr w_12) (by decide) (t := (.array (.object "java/lang/Object"))) (t' := .int) (by decide) (by decide)))
  have f7 := F0_shift.other W2 (Or.inr (slot_ne (Or.inr w_32) (Or.inr w_12) (by decide) (t := .int) (t' := .int) (by decide) (by decide)))
  have f8 := F0_size.other W2 (Or.inr (slot_ne (Or.inl w_64) (Or.inr w_12) (by decide) (t := .int) (t' := .int) (by decide) (by decide)))
  have f9 := E_x0.wr W2
  have K10 : Keep h0 h2 [x0] := K0.wr W2 (Or.inl (List.mem_of_getElem? (i := 0) rfl))
  have Z10 : n0 ≤ h2.size := by rw [Wr.size W2]; exact Z0
  have N10 := Fr.snoc X2 N0 g_x0
  show Goes _ _ _ _ _ _ _ (T2.setTop (mkF m 34 _ []))
  refine G1 (fun _ => XS.iconst X2.here hx rfl (hb hby d1_34)) ?_
  refine G1 (fun _ => XS.iloadN X2.here hx rfl (hb hby d1_35) rfl ) ?_
  refine G1 (fun _ => XS.imul X2.here hx rfl (hb hby d1_36) rfl) ?_
  show Goes _ _ _ _ _ _ _ (T2.setTop (mkF m 37 _ [(.int (2 : Int32))]))
  refine G1 (fun _ => XS.iconst X2.here hx rfl (hb hby d1_37)) ?_
  refine G1 (fun _ => XS.isub X2.here hx rfl (hb hby d1_38) rfl) ?_
  show Goes _ _ _ _ _ _ _ (T2.setTop (mkF m 39 _ [(.int (1 : Int32))]))
  obtain ⟨_, _, ⟨T11, L11, k11, n11⟩, -, X11, ⟨Lc11, hQ11, l11, y11, z11⟩, st11⟩ := Jvm.LawKit.callS X2 hx (y := mN5) hown (mvT hZ w_13) (mvT hZ w_14) (mvT hZ w_15) (mvT hZ w_16) (by decide) (backOf (W := 0) (rm3_1 l Z a0 hw []  h2 n0 Z10 ) hZ w_16 w_15 (by decide) (by decide)) (g := (mkF m 39 #[.val (.ref x0), .val (.int (1 : Int32)), .unset] [(.int (1 : Int32))])) rfl (by rw [hml]; rfl) (argsL := [(.int (1 : Int32))]) (rest := []) (lenOf pd_2 rfl) rfl (by show 2 * 0 + _ ≤ _; exact Nat.le_of_eq rfl) (hb hby d1_39) (fun _ _ => ⟨rfl, e2, (by decide : 0 + 0 ≤ _), (by decide : 0 + 0 ≤ _)⟩)
  dsimp only [Pt.U, Pt.locs, Pt.cells, Pt.slots] at X11 l11 y11 z11 st11 hQ11
  rw [l11, y11, z11] at X11
  obtain ⟨N11, KK11, hR11⟩ := hQ11
  have NA11 := Fr.app N10 N11
  obtain rfl := hR11
  refine G1 st11 ?_
  show Goes _ _ _ _ _ _ _ (T11.setTop (mkF m 42 _ [(.int (1 : Int32))]))
  refine G1 (fun _ => XS.iconst X11.here hx rfl (hb hby d1_42)) ?_
  refine G1 (fun _ => XS.ishl X11.here hx rfl (hb hby d1_43) rfl) ?_
  show Goes _ _ _ _ _ _ _ (T11.setTop (mkF m 44 _ [(.int (2 : Int32))]))
  refine G1 (fun _ => XS.istoreN X11.here hx rfl (hb hby d1_44) rfl (l' := #[.val (.ref x0), .val (.int (1 : Int32)), .val (.int (2 : Int32))]) rfl) ?_
  show Goes _ _ _ _ _ _ _ (T11.setTop (mkF m 45 _ []))
  refine G1 (fun _ => XS.aloadN X11.here hx rfl (hb hby d1_45) rfl rfl) ?_
  refine G1 (fun _ => XS.iloadN X11.here hx rfl (hb hby d1_46) rfl ) ?_
  obtain ⟨T12, h12, k12, X12, e12, E12, A12, O12, st12⟩ := newR X11 hx hZ hown w_22 w_23 KK11 (g := (mkF m 47 #[.val (.ref x0), .val (.int (1 : Int32)), .val (.int (2 : Int32))] [(.int (2 : Int32)), (.ref x0)])) rfl (hb hby d1_47) rfl (by decide) (cap := 2) (by decide) (by decide) (by decide) (by decide)
  obtain ⟨b12, g12⟩ : ∃ z, z = h2.size := ⟨_, rfl⟩
  rw [← g12] at A12 st12
  refine G1 st12 ?_
  have g_b12 : n0 ≤ b12 := Nat.le_trans Z10 (Nat.le_of_eq g12.symm)
  have sz_b12 : h0.size ≤ b12 := Nat.le_trans K10.1 (Nat.le_of_eq g12.symm)
  have ne13 : x0 ≠ b12 := Nat.ne_of_lt (Nat.lt_of_lt_of_le f3.lt (Nat.le_of_eq g12.symm))
  have f14 := f3.ext E12
  have f15 := f4.ext E12
  have f16 := f5.ext E12
  have f17 := f6.ext E12
  have f18 := f7.ext E12
  have f19 := f8.ext E12
  have f20 := f9.ext E12
  have K21 : Keep h0 h12 [x0] := K10.ext E12
  have Z21 : n0 ≤ h12.size := Nat.le_trans Z10 E12.1
  have V_b12 : ArF Z h12 b12 k12 (.object "java/lang/Object") 2 (fun _ => .null) := own_arf (Arv.new A12 (by decide))
  show Goes _ _ _ _ _ _ _ (T12.setTop (mkF m 50 _ [(.ref b12), (.ref x0)]))
  obtain ⟨T22, h22, X22, e22, W22, st22⟩ := putF X12 hx hZ hown (host := "") (Or.inl w_24) Via.refl e12 f15 f20 (Or.inr ⟨w_25, rfl, hnm⟩) w_2 (ty := (.array (.object "java/lang/Object"))) (by decide) rfl rfl (g := (mkF m 50 #[.val (.ref x0), .val (.int (1 : Int32)), .val (.int (2 : Int32))] [(.ref b12), (.ref x0)])) rfl rfl (hb hby d1_50)
  refine G1 st22 ?_
  have f23 := f14.other W22 (Or.inr (slot_ne (Or.inr w_12) (Or.inr w_25) (by decide) (t := .int) (t' := (.array (.object "java/lang/Object"))) (by decide) (by decide)))
  have f24 := f15.same W22
  have f25 := f16.other W22 (Or.inr (slot_ne (Or.inr w_27) (Or.inr w_25) (by decide) (t := (.array .int)) (t' := (.array (.object "java/lang/Object"))) (by decide) (by decide)))
  have f26 := f17.other W22 (Or.inr (slot_ne (Or.inr w_29) (Or.inr w_25) (by decide) (t := (.array (.object "java/lang/Object"))) (t' := (.array (.object "java/lang/Object"))) (by decide) (by decide)))
  have f27 := f18.other W22 (Or.inr (slot_ne (Or.inr w_32) (Or.inr w_25) (by decide) (t := .int) (t' := (.array (.object "java/lang/Object"))) (by decide) (by decide)))
  have f28 := f19.other W22 (Or.inr (slot_ne (Or.inl w_64) (Or.inr w_25) (by decide) (t := .int) (t' := (.array (.object "java/lang/Object"))) (by decide) (by decide)))
  have f29 := f20.wr W22
  have f30 := V_b12.other W22 (Ne.symm ne13)
  have K31 : Keep h0 h22 [x0] := K21.wr W22 (Or.inl (List.mem_of_getElem? (i := 0) rfl))
  have Z31 : n0 ≤ h22.size := by rw [Wr.size W22]; exact Z21
  have N31 := Fr.snoc X22 NA11 g_x0
  show Goes _ _ _ _ _ _ _ (T22.setTop (mkF m 53 _ []))
  refine G1 (fun _ => XS.aloadN X22.here hx rfl (hb hby d1_53) rfl rfl) ?_
  refine G1 (fun _ => XS.iloadN X22.here hx rfl (hb hby d1_54) rfl ) ?_
  obtain ⟨T32, h32, k32, X32, e32, E32, A32, st32⟩ := newP X22 hx hZ (own_at hw 0 rfl) e22 (g := (mkF m 55 #[.val (.ref x0), .val (.int (1 : Int32)), .val (.int (2 : Int32))] [(.int (2 : Int32)), (.ref x0)])) rfl (hb hby d1_55) rfl (by decide) (cap := 2) (by decide) (by decide) (by decide) (by decide)
  obtain ⟨b32, g32⟩ : ∃ z, z = h22.size := ⟨_, rfl⟩
  rw [← g32] at A32 st32
  refine G1 st32 ?_
  have g_b32 : n0 ≤ b32 := Nat.le_trans Z31 (Nat.le_of_eq g32.symm)
  have sz_b32 : h0.size ≤ b32 := Nat.le_trans K31.1 (Nat.le_of_eq g32.symm)
  have ne33 : x0 ≠ b32 := Nat.ne_of_lt (Nat.lt_of_lt_of_le f23.lt (Nat.le_of_eq g32.symm))
  have ne34 : b12 ≠ b32 := Nat.ne_of_lt (Nat.lt_of_lt_of_le f30.lt (Nat.le_of_eq g32.symm))
  have f35 := f23.ext E32
  have f36 := f24.ext E32
  have f37 := f25.ext E32
  have f38 := f26.ext E32
  have f39 := f27.ext E32
  have f40 := f28.ext E32
  have f41 := f29.ext E32
  have f42 := f30.ext E32
  have K43 : Keep h0 h32 [x0] := K31.ext E32
  have Z43 : n0 ≤ h32.size := Nat.le_trans Z31 E32.1
  have V_b32 : ArF Z h32 b32 k32 .int 2 (fun _ => (.int (0 : Int32))) := own_arf (Arv.new A32 (by decide))
  show Goes _ _ _ _ _ _ _ (T32.setTop (mkF m 57 _ [(.ref b32), (.ref x0)]))
  obtain ⟨T44, h44, X44, e44, W44, st44⟩ := putF X32 hx hZ hown (host := "") (Or.inl w_26) Via.refl e32 f37 f41 (Or.inr ⟨w_27, rfl, hnm⟩) w_2 (ty := (.array .int)) (by decide) rfl rfl (g := (mkF m 57 #[.val (.ref x0), .val (.int (1 : Int32)), .val (.int (2 : Int32))] [(.ref b32), (.ref x0)])) rfl rfl (hb hby d1_57)
  refine G1 st44 ?_
  have f45 := f35.other W44 (Or.inr (slot_ne (Or.inr w_12) (Or.inr w_27) (by decide) (t := .int) (t' := (.array .int)) (by decide) (by decide)))
  have f46 := f36.other W44 (Or.inr (slot_ne (Or.inr w_25) (Or.inr w_27) (by decide) (t := (.array (.object "java/lang/Object"))) (t' := (.array .int)) (by decide) (by decide)))
  have f47 := f37.same W44
  have f48 := f38.other W44 (Or.inr (slot_ne (Or.inr w_29) (Or.inr w_27) (by decide) (t := (.array (.object "java/lang/Object"))) (t' := (.array .int)) (by decide) (by decide)))
  have f49 := f39.other W44 (Or.inr (slot_ne (Or.inr w_32) (Or.inr w_27) (by decide) (t := .int) (t' := (.array .int)) (by decide) (by decide)))
  have f50 := f40.other W44 (Or.inr (slot_ne (Or.inl w_64) (Or.inr w_27) (by decide) (t := .int) (t' := (.array .int)) (by decide) (by decide)))
  have f51 := f41.wr W44
  have f52 := f42.other W44 (Ne.symm ne13)
  have f53 := V_b32.other W44 (Ne.symm ne33)
  have K54 : Keep h0 h44 [x0] := K43.wr W44 (Or.inl (List.mem_of_getElem? (i := 0) rfl))
  have Z54 : n0 ≤ h44.size := by rw [Wr.size W44]; exact Z43
  have N54 := Fr.snoc X44 N31 g_x0
  show Goes _ _ _ _ _ _ _ (T44.setTop (mkF m 60 #[.val (.ref x0), .val (.int (1 : Int32)), .val (.int (2 : Int32))] []))
  refine G1 (fun _ => XS.aloadN X44.here hx rfl (hb hby d1_60) rfl rfl) ?_
  refine G1 (fun _ => XS.iloadN X44.here hx rfl (hb hby d1_61) rfl ) ?_
  obtain ⟨T55, h55, k55, X55, e55, E55, A55, O55, st55⟩ := newR X44 hx hZ hown w_22 w_23 e44 (g := (mkF m 62 #[.val (.ref x0), .val (.int (1 : Int32)), .val (.int (2 : Int32))] [(.int (2 : Int32)), (.ref x0)])) rfl (hb hby d1_62) rfl (by decide) (cap := 2) (by decide) (by decide) (by decide) (by decide)
  obtain ⟨b55, g55⟩ : ∃ z, z = h44.size := ⟨_, rfl⟩
  rw [← g55] at A55 st55
  refine G1 st55 ?_
  have g_b55 : n0 ≤ b55 := Nat.le_trans Z54 (Nat.le_of_eq g55.symm)
  have sz_b55 : h0.size ≤ b55 := Nat.le_trans K54.1 (Nat.le_of_eq g55.symm)
  have ne56 : x0 ≠ b55 := Nat.ne_of_lt (Nat.lt_of_lt_of_le f45.lt (Nat.le_of_eq g55.symm))
  have ne57 : b12 ≠ b55 := Nat.ne_of_lt (Nat.lt_of_lt_of_le f52.lt (Nat.le_of_eq g55.symm))
  have ne58 : b32 ≠ b55 := Nat.ne_of_lt (Nat.lt_of_lt_of_le f53.lt (Nat.le_of_eq g55.symm))
  have f59 := f45.ext E55
  have f60 := f46.ext E55
  have f61 := f47.ext E55
  have f62 := f48.ext E55
  have f63 := f49.ext E55
  have f64 := f50.ext E55
  have f65 := f51.ext E55
  have f66 := f52.ext E55
  have f67 := f53.ext E55
  have K68 : Keep h0 h55 [x0] := K54.ext E55
  have Z68 : n0 ≤ h55.size := Nat.le_trans Z54 E55.1
  have V_b55 : ArF Z h55 b55 k55 (.object "java/lang/Object") 2 (fun _ => .null) := own_arf (Arv.new A55 (by decide))
  show Goes _ _ _ _ _ _ _ (T55.setTop (mkF m 65 _ [(.ref b55), (.ref x0)]))
  obtain ⟨T69, h69, X69, e69, W69, st69⟩ := putF X55 hx hZ hown (host := "") (Or.inl w_28) Via.refl e55 f62 f65 (Or.inr ⟨w_29, rfl, hnm⟩) w_2 (ty := (.array (.object "java/lang/Object"))) (by decide) rfl rfl (g := (mkF m 65 #[.val (.ref x0), .val (.int (1 : Int32)), .val (.int (2 : Int32))] [(.ref b55), (.ref x0)])) rfl rfl (hb hby d1_65)
  refine G1 st69 ?_
  have f70 := f59.other W69 (Or.inr (slot_ne (Or.inr w_12) (Or.inr w_29) (by decide) (t := .int) (t' := (.array (.object "java/lang/Object"))) (by decide) (by decide)))
  have f71 := f60.other W69 (Or.inr (slot_ne (Or.inr w_25) (Or.inr w_29) (by decide) (t := (.array (.object "java/lang/Object"))) (t' := (.array (.object "java/lang/Object"))) (by decide) (by decide)))
  have f72 := f61.other W69 (Or.inr (slot_ne (Or.inr w_27) (Or.inr w_29) (by decide) (t := (.array .int)) (t' := (.array (.object "java/lang/Object"))) (by decide) (by decide)))
  have f73 := f62.same W69
  have f74 := f63.other W69 (Or.inr (slot_ne (Or.inr w_32) (Or.inr w_29) (by decide) (t := .int) (t' := (.array (.object "java/lang/Object"))) (by decide) (by decide)))
  have f75 := f64.other W69 (Or.inr (slot_ne (Or.inl w_64) (Or.inr w_29) (by decide) (t := .int) (t' := (.array (.object "java/lang/Object"))) (by decide) (by decide)))
  have f76 := f65.wr W69
  have f77 := f66.other W69 (Ne.symm ne13)
  have f78 := f67.other W69 (Ne.symm ne33)
  have f79 := V_b55.other W69 (Ne.symm ne56)
  have K80 : Keep h0 h69 [x0] := K68.wr W69 (Or.inl (List.mem_of_getElem? (i := 0) rfl))
  have Z80 : n0 ≤ h69.size := by rw [Wr.size W69]; exact Z68
  have N80 := Fr.snoc X69 N54 g_x0
  show Goes _ _ _ _ _ _ _ (T69.setTop (mkF m 68 _ []))
  refine G1 (fun _ => XS.aloadN X69.here hx rfl (hb hby d1_68) rfl rfl) ?_
  refine G1 (fun _ => XS.iloadN X69.here hx rfl (hb hby d1_69) rfl ) ?_
  obtain ⟨_, _, ⟨T81, L81, k81, n81⟩, -, X81, ⟨Lc81, hQ81, l81, y81, z81⟩, st81⟩ := Jvm.LawKit.callS X69 hx (y := mN4) hown (mvT hZ w_30) (mvT hZ w_19) (mvT hZ w_15) (mvT hZ w_20) (by decide) (backOf (W := 1) (rm4_2 l Z a0 hw []  h69 n0 Z80 ) hZ w_20 w_15 (by decide) (by decide)) (g := (mkF m 70 #[.val (.ref x0), .val (.int (1 : Int32)), .val (.int (2 : Int32))] [(.int (2 : Int32)), (.ref x0)])) rfl (by rw [hml]; rfl) (argsL := [(.int (2 : Int32))]) (rest := [(.ref x0)]) (lenOf pd_2 rfl) rfl (by show 2 * 0 + _ ≤ _; exact Nat.le_of_eq rfl) (hb hby d1_70) (fun _ _ => ⟨rfl, e69, (by decide : 3 + 0 ≤ _), (by decide : 6 + 0 ≤ _)⟩)
  dsimp only [Pt.U, Pt.locs, Pt.cells, Pt.slots] at X81 l81 y81 z81 st81 hQ81
  rw [l81, y81, z81] at X81
  obtain ⟨N81, KK81, hR81⟩ := hQ81
  have NA81 := Fr.app N80 N81
  obtain rfl := hR81
  refine G1 st81 ?_
  show Goes _ _ _ _ _ _ _ (T81.setTop (mkF m 73 _ [(.int (30 : Int32)), (.ref x0)]))
  refine G1 (fun _ => XS.iconst X81.here hx rfl (hb hby d1_73)) ?_
  refine G1 (fun _ => XS.iadd X81.here hx rfl (hb hby d1_74) rfl) ?_
  show Goes _ _ _ _ _ _ _ (T81.setTop (mkF m 75 _ [(.int (31 : Int32)), (.ref x0)]))
  obtain ⟨T82, h82, X82, e82, W82, st82⟩ := putF X81 hx hZ hown (host := "") (Or.inl w_31) Via.refl KK81 f74 f76 (Or.inr ⟨w_32, rfl, hnm⟩) w_2 (ty := .int) (by decide) rfl rfl (g := (mkF m 75 #[.val (.ref x0), .val (.int (1 : Int32)), .val (.int (2 : Int32))] [(.int (31 : Int32)), (.ref x0)])) rfl rfl (hb hby d1_75)
  refine G1 st82 ?_
  have f83 := f70.other W82 (Or.inr (slot_ne (Or.inr w_12) (Or.inr w_32) (by decide) (t := .int) (t' := .int) (by decide) (by decide)))
  have f84 := f71.other W82 (Or.inr (slot_ne (Or.inr w_25) (Or.inr w_32) (by decide) (t := (.array (.object "java/lang/Object"))) (t' := .int) (by decide) (by decide)))
  have f85 := f72.other W82 (Or.inr (slot_ne (Or.inr w_27) (Or.inr w_32) (by decide) (t := (.array .int)) (t' := .int) (by decide) (by decide)))
  have f86 := f73.other W82 (Or.inr (slot_ne (Or.inr w_29) (Or.inr w_32) (by decide) (t := (.array (.object "java/lang/Object"))) (t' := .int) (by decide) (by decide)))
  have f87 := f74.same W82
  have f88 := f75.other W82 (Or.inr (slot_ne (Or.inl w_64) (Or.inr w_32) (by decide) (t := .int) (t' := .int) (by decide) (by decide)))
  have f89 := f76.wr W82
  have f90 := f77.other W82 (Ne.symm ne13)
  have f91 := f78.other W82 (Ne.symm ne33)
  have f92 := f79.other W82 (Ne.symm ne56)
  have K93 : Keep h0 h82 [x0] := K80.wr W82 (Or.inl (List.mem_of_getElem? (i := 0) rfl))
  have Z93 : n0 ≤ h82.size := by rw [Wr.size W82]; exact Z80
  have N93 := Fr.snoc X82 NA81 g_x0
  show Goes _ _ _ _ _ _ _ (T82.setTop (mkF m 78 _ []))
  exact Goes.retV X82 hx (BodyLoose.notSynchronized Bd) Bd.returns (hb hby d1_78) (by show Q1_1 Z x0 h0 n0 none T82.heap _; rw [e82]; exact ⟨N93, K93, ⟨b12, b32, b55, k12, k32, k55, rfl, g_b12, sz_b12, g_b32, sz_b32, g_b55, sz_b55, (Ne.symm ne34), (Ne.symm ne57), (Ne.symm ne58), f83, f84, f85, f86, f87, f88, f89, f90, f91, f92, O12, O55⟩⟩) (by decide) (by decide)
theorem ef_1_2 (m : MethodId) (x0 : Addr)  : entryFrame m #[(.ref x0), (.int (2 : Int32))] 3 = mkF m 0 #[.val (.ref x0), .val (.int (2 : Int32)), .unset] [] := by first | (simp [entryFrame, mkF, argsToLocals, Value.category]; done) | rfl
def Q1_2 (Z : State) (x0 : Addr) (h0 : Heap) (n0 : Nat) (v : Option Value) (h : Heap) (L : List Loc) : Prop := Fr n0 L ∧ Keep h0 h [x0] ∧ ((∃ (r_0 : Addr) (r_1 : Addr) (r_2 : Addr) (k_0 : ClassId) (k_1 : ClassId) (k_2 : ClassId), v = none ∧ n0 ≤ r_0 ∧ h0.size ≤ r_0 ∧ n0 ≤ r_1 ∧ h0.size ≤ r_1 ∧ n0 ≤ r_2 ∧ h0.size ≤ r_2 ∧ r_1 ≠ r_0 ∧ r_2 ≠ r_0 ∧ r_2 ≠ r_1 ∧ Fld Z h x0 "com/example/nehaba/nehaba/input/KeptValues" "most" "I" (.int (2 : Int32)) ∧ Fld Z h x0 "com/example/nehaba/nehaba/input/KeptValues" "keys" "[Ljava/lang/Object;" (.ref r_0) ∧ Fld Z h x0 "com/example/nehaba/nehaba/input/KeptValues" "hashes" "[I" (.ref r_1) ∧ Fld Z h x0 "com/example/nehaba/nehaba/input/KeptValues" "values" "[Ljava/lang/Object;" (.ref r_2) ∧ Fld Z h x0 "com/example/nehaba/nehaba/input/KeptValues" "shift" "I" (.int (30 : Int32)) ∧ Fld Z h x0 "com/example/nehaba/nehaba/input/KeptValues" "size" "I" (.int (0 : Int32)) ∧ Exa Z h x0 "com/example/nehaba/nehaba/input/KeptValues" ∧ ArF Z h r_0 k_0 (.object "java/lang/Object") 4 (fun _ => .null) ∧ ArF Z h r_1 k_1 .int 4 (fun _ => (.int (0 : Int32))) ∧ ArF Z h r_2 k_2 (.object "java/lang/Object") 4 (fun _ => .null) ∧ Ovr Z k_0 "java/lang/Object" ∧ Ovr Z k_2 "java/lang/Object"))
set_option maxRecDepth 65536 in
set_option maxHeartbeats 40000000 in
theorem rm1_2 (l : Launch) (Z : State) (a0 : Array Value) (hw : ∀ d ∈ tables_1, d.before a0 Z = true) (ws : List Jvm.Cond) (x0 : Addr) (h0 : Heap) (n0 : Nat) (Z0 : n0 ≤ h0.size) (F0_most : Fld Z h0 x0 "com/example/nehaba/nehaba/input/KeptValues" "most" "I" (.int (0 : Int32))) (F0_keys : Fld Z h0 x0 "com/example/nehaba/nehaba/input/KeptValues" "keys" "[Ljava/lang/Object;" .null) (F0_hashes : Fld Z h0 x0 "com/example/nehaba/nehaba/input/KeptValues" "hashes" "[I" .null) (F0_values : Fld Z h0 x0 "com/example/nehaba/nehaba/input/KeptValues" "values" "[Ljava/lang/Object;" .null) (F0_shift : Fld Z h0 x0 "com/example/nehaba/nehaba/input/KeptValues" "shift" "I" (.int (0 : Int32))) (F0_size : Fld Z h0 x0 "com/example/nehaba/nehaba/input/KeptValues" "size" "I" (.int (0 : Int32))) (E_x0 : Exa Z h0 x0 "com/example/nehaba/nehaba/input/KeptValues") (g_x0 : n0 ≤ x0) :
    MetFree l (⟨"com/example/nehaba/nehaba/input/KeptValues", "<init>", "(I)V"⟩ : MethodName) (head1 (Jvm.Cond.code (⟨"com/example/nehaba/nehaba/input/KeptValues", "<init>", "(I)V"⟩ : MethodName) prog_31_method_1_code 3 none :: ws) ({ frames := 2, cells := 3, slots := 12, locals := 27 } : Room)) (fun a U => a = #[(.ref x0), (.int (2 : Int32))] ∧ Z.Warmed39 U.vm ∧ U.heap = h0) (fun _ _ _ _ _ => True) (fun _ U o U' => ∃ v L, o = .returned v ∧ Q1_2 Z x0 h0 n0 v U'.heap L ∧ FrameEnd U o U' L ({ frames := 2, cells := 3, slots := 12, locals := 27 } : Room).cells ({ frames := 2, cells := 3, slots := 12, locals := 27 } : Room).slots) := by
  refine MetFree.of_bodySF (plainFor_of_name pn_1) hisR ?_
  intro p e s m args below meth c s₁ Bd hml0 hP hK
  obtain ⟨rfl, hZ, hh⟩ := hP
  have w_0 := own_at hw 0 rfl
  have w_2 := own_at hw 2 rfl
  have w_7 := own_at hw 7 rfl
  have w_8 := own_at hw 8 rfl
  have w_9 := own_at hw 9 rfl
  have w_10 := own_at hw 10 rfl
  have w_11 := own_at hw 11 rfl
  have w_12 := own_at hw 12 rfl
  have w_13 := own_at hw 13 rfl
  have w_14 := own_at hw 14 rfl
  have w_15 := own_at hw 15 rfl
  have w_16 := own_at hw 16 rfl
  have w_19 := own_at hw 19 rfl
  have w_20 := own_at hw 20 rfl
  have w_22 := own_at hw 22 rfl
  have w_23 := own_at hw 23 rfl
  have w_24 := own_at hw 24 rfl
  have w_25 := own_at hw 25 rfl
  have w_26 := own_at hw 26 rfl
  have w_27 := own_at hw 27 rfl
  have w_28 := own_at hw 28 rfl
  have w_29 := own_at hw 29 rfl
  have w_30 := own_at hw 30 rfl
  have w_31 := own_at hw 31 rfl
  have w_32 := own_at hw 32 rfl
  have w_64 := own_at hw 64 rfl
  have hx := Bd.exec
  have hby := Bd.bytes
  have hml : c.maxLocals = 3 := hml0
  have hown : s.vm.findClass "com/example/nehaba/nehaba/input/KeptValues" = some m.cls := findClass_of_methodNamed Bd.named
  have hnm := (name_of_methodNamed Bd.named Bd.method).1
  have X0 : Stand p l e ({ frames := 2, cells := 3, slots := 12, locals := 27 } : Room) s m #[(.ref x0), (.int (2 : Int32))] below meth c s₁ [] 0 0 := Stand.of_body Bd
  have e0 : s₁.heap = h0 := by rw [← hh, Bd.state]; rfl
  have N0 := Fr.nil n0
  have K0 : Keep h0 h0 [x0] := Keep.refl h0 _
  refine (?_ : Goes p e below s ({ frames := 2, cells := 3, slots := 12, locals := 27 } : Room).cells ({ frames := 2, cells := 3, slots := 12, locals := 27 } : Room).slots (fun v h L => Q1_2 Z x0 h0 n0 v h L) (s₁.setTop (entryFrame m #[(.ref x0), (.int (2 : Int32))] 3)))
  rw [ef_1_2 m x0 ]
  show Goes _ _ _ _ _ _ _ (s₁.setTop (mkF m 0 #[.val (.ref x0), .val (.int (2 : Int32)), .unset] []))
  refine G1 (fun _ => XS.aloadN X0.here hx rfl (hb hby d1_0) rfl rfl) ?_
  obtain ⟨T1, X1, e1, st1⟩ := initO X0 hx hZ hown w_7 w_8 w_9 e0 (g := (mkF m 1 #[.val (.ref x0), .val (.int (2 : Int32)), .unset] [(.ref x0)])) rfl (by rw [hml]; rfl) rfl (hb hby d1_1) (by decide) (W := 0) (by show 2 * 0 + _ ≤ _; exact Nat.le_of_eq rfl) (by decide)
  refine G1 st1 ?_
  show Goes _ _ _ _ _ _ _ (T1.setTop (mkF m 4 _ []))
  refine G1 (fun _ => XS.iloadN X1.here hx rfl (hb hby d1_4) rfl ) ?_
  refine G1 (fun _ => XS.iconst X1.here hx rfl (hb hby d1_5)) ?_
  refine G1 (fun _ => XS.icmpNo X1.here hx rfl (hb hby d1_6) rfl (flt (by decide : ¬ ((2 : Int32) < (1 : Int32)))).1) ?_
  show Goes _ _ _ _ _ _ _ (T1.setTop (mkF m 9 _ []))
  refine G1 (fun _ => XS.iloadN X1.here hx rfl (hb hby d1_9) rfl ) ?_
  refine G1 (fun _ => X1.ldcInt hx hown (mvT hZ w_10) (g := (mkF m 10 #[.val (.ref x0), .val (.int (2 : Int32)), .unset] [(.int (2 : Int32))])) rfl (hb hby d1_10) _) ?_
  refine G1 (fun _ => XS.icmpYes X1.here hx rfl (pc0 := 12) (pc' := 29) rfl (hb hby d1_12) rfl (flt (by decide : ¬ ((536870912 : Int32) < (2 : Int32)))).2.2.2 (by decide) (by decide)) ?_
  show Goes _ _ _ _ _ _ _ (T1.setTop (mkF m 29 _ []))
  refine G1 (fun _ => XS.aloadN X1.here hx rfl (hb hby d1_29) rfl rfl) ?_
  refine G1 (fun _ => XS.iloadN X1.here hx rfl (hb hby d1_30) rfl ) ?_
  obtain ⟨T2, h2, X2, e2, W2, st2⟩ := putF X1 hx hZ hown (host := "") (Or.inl w_11) Via.refl e1 F0_most E_x0 (Or.inr ⟨w_12, rfl, hnm⟩) w_2 (ty := .int) (by decide) rfl rfl (g := (mkF m 31 #[.val (.ref x0), .val (.int (2 : Int32)), .unset] [(.int (2 : Int32)), (.ref x0)])) rfl rfl (hb hby d1_31)
  refine G1 st2 ?_
  have f3 := F0_most.same W2
  have f4 := F0_keys.other W2 (Or.inr (slot_ne (Or.inr w_25) (Or.inr w_12) (by decide) (t := (.array (.object "java/lang/Object"))) (t' := .int) (by decide) (by decide)))
  have f5 := F0_hashes.other W2 (Or.inr (slot_ne (Or.inr w_27) (Or.inr w_12) (by decide) (t := (.array .int)) (t' := .int) (by decide) (by decide)))
  have f6 := F0_values.other W2 (Or.inr (slot_ne (Or.inr w_29) (Or.inr w_12) (by decide) (t := (.array (.object "java/lang/Object"))) (t' := .int) (by decide) (by decide)))
  have f7 := F0_shift.other W2 (Or.inr (slot_ne (Or.inr w_32) (Or.inr w_12) (by decide) (t := .int) (t' := .int) (by decide) (by decide)))
  have f8 := F0_size.other W2 (Or.inr (slot_ne (Or.inl w_64) (Or.inr w_12) (by decide) (t := .int) (t' := .int) (by decide) (by decide)))
  have f9 := E_x0.wr W2
  have K10 : Keep h0 h2 [x0] := K0.wr W2 (Or.inl (List.mem_of_getElem? (i := 0) rfl))
  have Z10 : n0 ≤ h2.size := by rw [Wr.size W2]; exact Z0
  have N10 := Fr.snoc X2 N0 g_x0
  show Goes _ _ _ _ _ _ _ (T2.setTop (mkF m 34 _ []))
  refine G1 (fun _ => XS.iconst X2.here hx rfl (hb hby d1_34)) ?_
  refine G1 (fun _ => XS.iloadN X2.here hx rfl (hb hby d1_35) rfl ) ?_
  refine G1 (fun _ => XS.imul X2.here hx rfl (hb hby d1_36) rfl) ?_
  show Goes _ _ _ _ _ _ _ (T2.setTop (mkF m 37 _ [(.int (4 : Int32))]))
  refine G1 (fun _ => XS.iconst X2.here hx rfl (hb hby d1_37)) ?_
  refine G1 (fun _ => XS.isub X2.here hx rfl (hb hby d1_38) rfl) ?_
  show Goes _ _ _ _ _ _ _ (T2.setTop (mkF m 39 _ [(.int (3 : Int32))]))
  obtain ⟨_, _, ⟨T11, L11, k11, n11⟩, -, X11, ⟨Lc11, hQ11, l11, y11, z11⟩, st11⟩ := Jvm.LawKit.callS X2 hx (y := mN5) hown (mvT hZ w_13) (mvT hZ w_14) (mvT hZ w_15) (mvT hZ w_16) (by decide) (backOf (W := 0) (rm3_3 l Z a0 hw []  h2 n0 Z10 ) hZ w_16 w_15 (by decide) (by decide)) (g := (mkF m 39 #[.val (.ref x0), .val (.int (2 : Int32)), .unset] [(.int (3 : Int32))])) rfl (by rw [hml]; rfl) (argsL := [(.int (3 : Int32))]) (rest := []) (lenOf pd_2 rfl) rfl (by show 2 * 0 + _ ≤ _; exact Nat.le_of_eq rfl) (hb hby d1_39) (fun _ _ => ⟨rfl, e2, (by decide : 0 + 0 ≤ _), (by decide : 0 + 0 ≤ _)⟩)
  dsimp only [Pt.U, Pt.locs, Pt.cells, Pt.slots] at X11 l11 y11 z11 st11 hQ11
  rw [l11, y11, z11] at X11
  obtain ⟨N11, KK11, hR11⟩ := hQ11
  have NA11 := Fr.app N10 N11
  obtain rfl := hR11
  refine G1 st11 ?_
  show Goes _ _ _ _ _ _ _ (T11.setTop (mkF m 42 _ [(.int (2 : Int32))]))
  refine G1 (fun _ => XS.iconst X11.here hx rfl (hb hby d1_42)) ?_
  refine G1 (fun _ => XS.ishl X11.here hx rfl (hb hby d1_43) rfl) ?_
  show Goes _ _ _ _ _ _ _ (T11.setTop (mkF m 44 _ [(.int (4 : Int32))]))
  refine G1 (fun _ => XS.istoreN X11.here hx rfl (hb hby d1_44) rfl (l' := #[.val (.ref x0), .val (.int (2 : Int32)), .val (.int (4 : Int32))]) rfl) ?_
  show Goes _ _ _ _ _ _ _ (T11.setTop (mkF m 45 _ []))
  refine G1 (fun _ => XS.aloadN X11.here hx rfl (hb hby d1_45) rfl rfl) ?_
  refine G1 (fun _ => XS.iloadN X11.here hx rfl (hb hby d1_46) rfl ) ?_
  obtain ⟨T12, h12, k12, X12, e12, E12, A12, O12, st12⟩ := newR X11 hx hZ hown w_22 w_23 KK11 (g := (mkF m 47 #[.val (.ref x0), .val (.int (2 : Int32)), .val (.int (4 : Int32))] [(.int (4 : Int32)), (.ref x0)])) rfl (hb hby d1_47) rfl (by decide) (cap := 4) (by decide) (by decide) (by decide) (by decide)
  obtain ⟨b12, g12⟩ : ∃ z, z = h2.size := ⟨_, rfl⟩
  rw [← g12] at A12 st12
  refine G1 st12 ?_
  have g_b12 : n0 ≤ b12 := Nat.le_trans Z10 (Nat.le_of_eq g12.symm)
  have sz_b12 : h0.size ≤ b12 := Nat.le_trans K10.1 (Nat.le_of_eq g12.symm)
  have ne13 : x0 ≠ b12 := Nat.ne_of_lt (Nat.lt_of_lt_of_le f3.lt (Nat.le_of_eq g12.symm))
  have f14 := f3.ext E12
  have f15 := f4.ext E12
  have f16 := f5.ext E12
  have f17 := f6.ext E12
  have f18 := f7.ext E12
  have f19 := f8.ext E12
  have f20 := f9.ext E12
  have K21 : Keep h0 h12 [x0] := K10.ext E12
  have Z21 : n0 ≤ h12.size := Nat.le_trans Z10 E12.1
  have V_b12 : ArF Z h12 b12 k12 (.object "java/lang/Object") 4 (fun _ => .null) := own_arf (Arv.new A12 (by decide))
  show Goes _ _ _ _ _ _ _ (T12.setTop (mkF m 50 _ [(.ref b12), (.ref x0)]))
  obtain ⟨T22, h22, X22, e22, W22, st22⟩ := putF X12 hx hZ hown (host := "") (Or.inl w_24) Via.refl e12 f15 f20 (Or.inr ⟨w_25, rfl, hnm⟩) w_2 (ty := (.array (.object "java/lang/Object"))) (by decide) rfl rfl (g := (mkF m 50 #[.val (.ref x0), .val (.int (2 : Int32)), .val (.int (4 : Int32))] [(.ref b12), (.ref x0)])) rfl rfl (hb hby d1_50)
  refine G1 st22 ?_
  have f23 := f14.other W22 (Or.inr (slot_ne (Or.inr w_12) (Or.inr w_25) (by decide) (t := .int) (t' := (.array (.object "java/lang/Object"))) (by decide) (by decide)))
  have f24 := f15.same W22
  have f25 := f16.other W22 (Or.inr (slot_ne (Or.inr w_27) (Or.inr w_25) (by decide) (t := (.array .int)) (t' := (.array (.object "java/lang/Object"))) (by decide) (by decide)))
  have f26 := f17.other W22 (Or.inr (slot_ne (Or.inr w_29) (Or.inr w_25) (by decide) (t := (.array (.object "java/lang/Object"))) (t' := (.array (.object "java/lang/Object"))) (by decide) (by decide)))
  have f27 := f18.other W22 (Or.inr (slot_ne (Or.inr w_32) (Or.inr w_25) (by decide) (t := .int) (t' := (.array (.object "java/lang/Object"))) (by decide) (by decide)))
  have f28 := f19.other W22 (Or.inr (slot_ne (Or.inl w_64) (Or.inr w_25) (by decide) (t := .int) (t' := (.array (.object "java/lang/Object"))) (by decide) (by decide)))
  have f29 := f20.wr W22
  have f30 := V_b12.other W22 (Ne.symm ne13)
  have K31 : Keep h0 h22 [x0] := K21.wr W22 (Or.inl (List.mem_of_getElem? (i := 0) rfl))
  have Z31 : n0 ≤ h22.size := by rw [Wr.size W22]; exact Z21
  have N31 := Fr.snoc X22 NA11 g_x0
  show Goes _ _ _ _ _ _ _ (T22.setTop (mkF m 53 _ []))
  refine G1 (fun _ => XS.aloadN X22.here hx rfl (hb hby d1_53) rfl rfl) ?_
  refine G1 (fun _ => XS.iloadN X22.here hx rfl (hb hby d1_54) rfl ) ?_
  obtain ⟨T32, h32, k32, X32, e32, E32, A32, st32⟩ := newP X22 hx hZ (own_at hw 0 rfl) e22 (g := (mkF m 55 #[.val (.ref x0), .val (.int (2 : Int32)), .val (.int (4 : Int32))] [(.int (4 : Int32)), (.ref x0)])) rfl (hb hby d1_55) rfl (by decide) (cap := 4) (by decide) (by decide) (by decide) (by decide)
  obtain ⟨b32, g32⟩ : ∃ z, z = h22.size := ⟨_, rfl⟩
  rw [← g32] at A32 st32
  refine G1 st32 ?_
  have g_b32 : n0 ≤ b32 := Nat.le_trans Z31 (Nat.le_of_eq g32.symm)
  have sz_b32 : h0.size ≤ b32 := Nat.le_trans K31.1 (Nat.le_of_eq g32.symm)
  have ne33 : x0 ≠ b32 := Nat.ne_of_lt (Nat.lt_of_lt_of_le f23.lt (Nat.le_of_eq g32.symm))
  have ne34 : b12 ≠ b32 := Nat.ne_of_lt (Nat.lt_of_lt_of_le f30.lt (Nat.le_of_eq g32.symm))
  have f35 := f23.ext E32
  have f36 := f24.ext E32
  have f37 := f25.ext E32
  have f38 := f26.ext E32
  have f39 := f27.ext E32
  have f40 := f28.ext E32
  have f41 := f29.ext E32
  have f42 := f30.ext E32
  have K43 : Keep h0 h32 [x0] := K31.ext E32
  have Z43 : n0 ≤ h32.size := Nat.le_trans Z31 E32.1
  have V_b32 : ArF Z h32 b32 k32 .int 4 (fun _ => (.int (0 : Int32))) := own_arf (Arv.new A32 (by decide))
  show Goes _ _ _ _ _ _ _ (T32.setTop (mkF m 57 _ [(.ref b32), (.ref x0)]))
  obtain ⟨T44, h44, X44, e44, W44, st44⟩ := putF X32 hx hZ hown (host := "") (Or.inl w_26) Via.refl e32 f37 f41 (Or.inr ⟨w_27, rfl, hnm⟩) w_2 (ty := (.array .int)) (by decide) rfl rfl (g := (mkF m 57 #[.val (.ref x0), .val (.int (2 : Int32)), .val (.int (4 : Int32))] [(.ref b32), (.ref x0)])) rfl rfl (hb hby d1_57)
  refine G1 st44 ?_
  have f45 := f35.other W44 (Or.inr (slot_ne (Or.inr w_12) (Or.inr w_27) (by decide) (t := .int) (t' := (.array .int)) (by decide) (by decide)))
  have f46 := f36.other W44 (Or.inr (slot_ne (Or.inr w_25) (Or.inr w_27) (by decide) (t := (.array (.object "java/lang/Object"))) (t' := (.array .int)) (by decide) (by decide)))
  have f47 := f37.same W44
  have f48 := f38.other W44 (Or.inr (slot_ne (Or.inr w_29) (Or.inr w_27) (by decide) (t := (.array (.object "java/lang/Object"))) (t' := (.array .int)) (by decide) (by decide)))
  have f49 := f39.other W44 (Or.inr (slot_ne (Or.inr w_32) (Or.inr w_27) (by decide) (t := .int) (t' := (.array .int)) (by decide) (by decide)))
  have f50 := f40.other W44 (Or.inr (slot_ne (Or.inl w_64) (Or.inr w_27) (by decide) (t := .int) (t' := (.array .int)) (by decide) (by decide)))
  have f51 := f41.wr W44
  have f52 := f42.other W44 (Ne.symm ne13)
  have f53 := V_b32.other W44 (Ne.symm ne33)
  have K54 : Keep h0 h44 [x0] := K43.wr W44 (Or.inl (List.mem_of_getElem? (i := 0) rfl))
  have Z54 : n0 ≤ h44.size := by rw [Wr.size W44]; exact Z43
  have N54 := Fr.snoc X44 N31 g_x0
  show Goes _ _ _ _ _ _ _ (T44.setTop (mkF m 60 #[.val (.ref x0), .val (.int (2 : Int32)), .val (.int (4 : Int32))] []))
  refine G1 (fun _ => XS.aloadN X44.here hx rfl (hb hby d1_60) rfl rfl) ?_
  refine G1 (fun _ => XS.iloadN X44.here hx rfl (hb hby d1_61) rfl ) ?_
  obtain ⟨T55, h55, k55, X55, e55, E55, A55, O55, st55⟩ := newR X44 hx hZ hown w_22 w_23 e44 (g := (mkF m 62 #[.val (.ref x0), .val (.int (2 : Int32)), .val (.int (4 : Int32))] [(.int (4 : Int32)), (.ref x0)])) rfl (hb hby d1_62) rfl (by decide) (cap := 4) (by decide) (by decide) (by decide) (by decide)
  obtain ⟨b55, g55⟩ : ∃ z, z = h44.size := ⟨_, rfl⟩
  rw [← g55] at A55 st55
  refine G1 st55 ?_
  have g_b55 : n0 ≤ b55 := Nat.le_trans Z54 (Nat.le_of_eq g55.symm)
  have sz_b55 : h0.size ≤ b55 := Nat.le_trans K54.1 (Nat.le_of_eq g55.symm)
  have ne56 : x0 ≠ b55 := Nat.ne_of_lt (Nat.lt_of_lt_of_le f45.lt (Nat.le_of_eq g55.symm))
  have ne57 : b12 ≠ b55 := Nat.ne_of_lt (Nat.lt_of_lt_of_le f52.lt (Nat.le_of_eq g55.symm))
  have ne58 : b32 ≠ b55 := Nat.ne_of_lt (Nat.lt_of_lt_of_le f53.lt (Nat.le_of_eq g55.symm))
  have f59 := f45.ext E55
  have f60 := f46.ext E55
  have f61 := f47.ext E55
  have f62 := f48.ext E55
  have f63 := f49.ext E55
  have f64 := f50.ext E55
  have f65 := f51.ext E55
  have f66 := f52.ext E55
  have f67 := f53.ext E55
  have K68 : Keep h0 h55 [x0] := K54.ext E55
  have Z68 : n0 ≤ h55.size := Nat.le_trans Z54 E55.1
  have V_b55 : ArF Z h55 b55 k55 (.object "java/lang/Object") 4 (fun _ => .null) := own_arf (Arv.new A55 (by decide))
  show Goes _ _ _ _ _ _ _ (T55.setTop (mkF m 65 _ [(.ref b55), (.ref x0)]))
  obtain ⟨T69, h69, X69, e69, W69, st69⟩ := putF X55 hx hZ hown (host := "") (Or.inl w_28) Via.refl e55 f62 f65 (Or.inr ⟨w_29, rfl, hnm⟩) w_2 (ty := (.array (.object "java/lang/Object"))) (by decide) rfl rfl (g := (mkF m 65 #[.val (.ref x0), .val (.int (2 : Int32)), .val (.int (4 : Int32))] [(.ref b55), (.ref x0)])) rfl rfl (hb hby d1_65)
  refine G1 st69 ?_
  have f70 := f59.other W69 (Or.inr (slot_ne (Or.inr w_12) (Or.inr w_29) (by decide) (t := .int) (t' := (.array (.object "java/lang/Object"))) (by decide) (by decide)))
  have f71 := f60.other W69 (Or.inr (slot_ne (Or.inr w_25) (Or.inr w_29) (by decide) (t := (.array (.object "java/lang/Object"))) (t' := (.array (.object "java/lang/Object"))) (by decide) (by decide)))
  have f72 := f61.other W69 (Or.inr (slot_ne (Or.inr w_27) (Or.inr w_29) (by decide) (t := (.array .int)) (t' := (.array (.object "java/lang/Object"))) (by decide) (by decide)))
  have f73 := f62.same W69
  have f74 := f63.other W69 (Or.inr (slot_ne (Or.inr w_32) (Or.inr w_29) (by decide) (t := .int) (t' := (.array (.object "java/lang/Object"))) (by decide) (by decide)))
  have f75 := f64.other W69 (Or.inr (slot_ne (Or.inl w_64) (Or.inr w_29) (by decide) (t := .int) (t' := (.array (.object "java/lang/Object"))) (by decide) (by decide)))
  have f76 := f65.wr W69
  have f77 := f66.other W69 (Ne.symm ne13)
  have f78 := f67.other W69 (Ne.symm ne33)
  have f79 := V_b55.other W69 (Ne.symm ne56)
  have K80 : Keep h0 h69 [x0] := K68.wr W69 (Or.inl (List.mem_of_getElem? (i := 0) rfl))
  have Z80 : n0 ≤ h69.size := by rw [Wr.size W69]; exact Z68
  have N80 := Fr.snoc X69 N54 g_x0
  show Goes _ _ _ _ _ _ _ (T69.setTop (mkF m 68 _ []))
  refine G1 (fun _ => XS.aloadN X69.here hx rfl (hb hby d1_68) rfl rfl) ?_
  refine G1 (fun _ => XS.iloadN X69.here hx rfl (hb hby d1_69) rfl ) ?_
  obtain ⟨_, _, ⟨T81, L81, k81, n81⟩, -, X81, ⟨Lc81, hQ81, l81, y81, z81⟩, st81⟩ := Jvm.LawKit.callS X69 hx (y := mN4) hown (mvT hZ w_30) (mvT hZ w_19) (mvT hZ w_15) (mvT hZ w_20) (by decide) (backOf (W := 1) (rm4_4 l Z a0 hw []  h69 n0 Z80 ) hZ w_20 w_15 (by decide) (by decide)) (g := (mkF m 70 #[.val (.ref x0), .val (.int (2 : Int32)), .val (.int (4 : Int32))] [(.int (4 : Int32)), (.ref x0)])) rfl (by rw [hml]; rfl) (argsL := [(.int (4 : Int32))]) (rest := [(.ref x0)]) (lenOf pd_2 rfl) rfl (by show 2 * 0 + _ ≤ _; exact Nat.le_of_eq rfl) (hb hby d1_70) (fun _ _ => ⟨rfl, e69, (by decide : 3 + 0 ≤ _), (by decide : 12 + 0 ≤ _)⟩)
  dsimp only [Pt.U, Pt.locs, Pt.cells, Pt.slots] at X81 l81 y81 z81 st81 hQ81
  rw [l81, y81, z81] at X81
  obtain ⟨N81, KK81, hR81⟩ := hQ81
  have NA81 := Fr.app N80 N81
  obtain rfl := hR81
  refine G1 st81 ?_
  show Goes _ _ _ _ _ _ _ (T81.setTop (mkF m 73 _ [(.int (29 : Int32)), (.ref x0)]))
  refine G1 (fun _ => XS.iconst X81.here hx rfl (hb hby d1_73)) ?_
  refine G1 (fun _ => XS.iadd X81.here hx rfl (hb hby d1_74) rfl) ?_
  show Goes _ _ _ _ _ _ _ (T81.setTop (mkF m 75 _ [(.int (30 : Int32)), (.ref x0)]))
  obtain ⟨T82, h82, X82, e82, W82, st82⟩ := putF X81 hx hZ hown (host := "") (Or.inl w_31) Via.refl KK81 f74 f76 (Or.inr ⟨w_32, rfl, hnm⟩) w_2 (ty := .int) (by decide) rfl rfl (g := (mkF m 75 #[.val (.ref x0), .val (.int (2 : Int32)), .val (.int (4 : Int32))] [(.int (30 : Int32)), (.ref x0)])) rfl rfl (hb hby d1_75)
  refine G1 st82 ?_
  have f83 := f70.other W82 (Or.inr (slot_ne (Or.inr w_12) (Or.inr w_32) (by decide) (t := .int) (t' := .int) (by decide) (by decide)))
  have f84 := f71.other W82 (Or.inr (slot_ne (Or.inr w_25) (Or.inr w_32) (by decide) (t := (.array (.object "java/lang/Object"))) (t' := .int) (by decide) (by decide)))
  have f85 := f72.other W82 (Or.inr (slot_ne (Or.inr w_27) (Or.inr w_32) (by decide) (t := (.array .int)) (t' := .int) (by decide) (by decide)))
  have f86 := f73.other W82 (Or.inr (slot_ne (Or.inr w_29) (Or.inr w_32) (by decide) (t := (.array (.object "java/lang/Object"))) (t' := .int) (by decide) (by decide)))
  have f87 := f74.same W82
  have f88 := f75.other W82 (Or.inr (slot_ne (Or.inl w_64) (Or.inr w_32) (by decide) (t := .int) (t' := .int) (by decide) (by decide)))
  have f89 := f76.wr W82
  have f90 := f77.other W82 (Ne.symm ne13)
  have f91 := f78.other W82 (Ne.symm ne33)
  have f92 := f79.other W82 (Ne.symm ne56)
  have K93 : Keep h0 h82 [x0] := K80.wr W82 (Or.inl (List.mem_of_getElem? (i := 0) rfl))
  have Z93 : n0 ≤ h82.size := by rw [Wr.size W82]; exact Z80
  have N93 := Fr.snoc X82 NA81 g_x0
  show Goes _ _ _ _ _ _ _ (T82.setTop (mkF m 78 _ []))
  exact Goes.retV X82 hx (BodyLoose.notSynchronized Bd) Bd.returns (hb hby d1_78) (by show Q1_2 Z x0 h0 n0 none T82.heap _; rw [e82]; exact ⟨N93, K93, ⟨b12, b32, b55, k12, k32, k55, rfl, g_b12, sz_b12, g_b32, sz_b32, g_b55, sz_b55, (Ne.symm ne34), (Ne.symm ne57), (Ne.symm ne58), f83, f84, f85, f86, f87, f88, f89, f90, f91, f92, O12, O55⟩⟩) (by decide) (by decide)
theorem ef_1_3 (m : MethodId) (x0 : Addr)  : entryFrame m #[(.ref x0), (.int (3 : Int32))] 3 = mkF m 0 #[.val (.ref x0), .val (.int (3 : Int32)), .unset] [] := by first | (simp [entryFrame, mkF, argsToLocals, Value.category]; done) | rfl
def Q1_3 (Z : State) (x0 : Addr) (h0 : Heap) (n0 : Nat) (v : Option Value) (h : Heap) (L : List Loc) : Prop := Fr n0 L ∧ Keep h0 h [x0] ∧ ((∃ (r_0 : Addr) (r_1 : Addr) (r_2 : Addr) (k_0 : ClassId) (k_1 : ClassId) (k_2 : ClassId), v = none ∧ n0 ≤ r_0 ∧ h0.size ≤ r_0 ∧ n0 ≤ r_1 ∧ h0.size ≤ r_1 ∧ n0 ≤ r_2 ∧ h0.size ≤ r_2 ∧ r_1 ≠ r_0 ∧ r_2 ≠ r_0 ∧ r_2 ≠ r_1 ∧ Fld Z h x0 "com/example/nehaba/nehaba/input/KeptValues" "most" "I" (.int (3 : Int32)) ∧ Fld Z h x0 "com/example/nehaba/nehaba/input/KeptValues" "keys" "[Ljava/lang/Object;" (.ref r_0) ∧ Fld Z h x0 "com/example/nehaba/nehaba/input/KeptValues" "hashes" "[I" (.ref r_1) ∧ Fld Z h x0 "com/example/nehaba/nehaba/input/KeptValues" "values" "[Ljava/lang/Object;" (.ref r_2) ∧ Fld Z h x0 "com/example/nehaba/nehaba/input/KeptValues" "shift" "I" (.int (29 : Int32)) ∧ Fld Z h x0 "com/example/nehaba/nehaba/input/KeptValues" "size" "I" (.int (0 : Int32)) ∧ Exa Z h x0 "com/example/nehaba/nehaba/input/KeptValues" ∧ ArF Z h r_0 k_0 (.object "java/lang/Object") 8 (fun _ => .null) ∧ ArF Z h r_1 k_1 .int 8 (fun _ => (.int (0 : Int32))) ∧ ArF Z h r_2 k_2 (.object "java/lang/Object") 8 (fun _ => .null) ∧ Ovr Z k_0 "java/lang/Object" ∧ Ovr Z k_2 "java/lang/Object"))
set_option maxRecDepth 65536 in
set_option maxHeartbeats 40000000 in
theorem rm1_3 (l : Launch) (Z : State) (a0 : Array Value) (hw : ∀ d ∈ tables_1, d.before a0 Z = true) (ws : List Jvm.Cond) (x0 : Addr) (h0 : Heap) (n0 : Nat) (Z0 : n0 ≤ h0.size) (F0_most : Fld Z h0 x0 "com/example/nehaba/nehaba/input/KeptValues" "most" "I" (.int (0 : Int32))) (F0_keys : Fld Z h0 x0 "com/example/nehaba/nehaba/input/KeptValues" "keys" "[Ljava/lang/Object;" .null) (F0_hashes : Fld Z h0 x0 "com/example/nehaba/nehaba/input/KeptValues" "hashes" "[I" .null) (F0_values : Fld Z h0 x0 "com/example/nehaba/nehaba/input/KeptValues" "values" "[Ljava/lang/Object;" .null) (F0_shift : Fld Z h0 x0 "com/example/nehaba/nehaba/input/KeptValues" "shift" "I" (.int (0 : Int32))) (F0_size : Fld Z h0 x0 "com/example/nehaba/nehaba/input/KeptValues" "size" "I" (.int (0 : Int32))) (E_x0 : Exa Z h0 x0 "com/example/nehaba/nehaba/input/KeptValues") (g_x0 : n0 ≤ x0) :
    MetFree l (⟨"com/example/nehaba/nehaba/input/KeptValues", "<init>", "(I)V"⟩ : MethodName) (head1 (Jvm.Cond.code (⟨"com/example/nehaba/nehaba/input/KeptValues", "<init>", "(I)V"⟩ : MethodName) prog_31_method_1_code 3 none :: ws) ({ frames := 2, cells := 3, slots := 24, locals := 27 } : Room)) (fun a U => a = #[(.ref x0), (.int (3 : Int32))] ∧ Z.Warmed39 U.vm ∧ U.heap = h0) (fun _ _ _ _ _ => True) (fun _ U o U' => ∃ v L, o = .returned v ∧ Q1_3 Z x0 h0 n0 v U'.heap L ∧ FrameEnd U o U' L ({ frames := 2, cells := 3, slots := 24, locals := 27 } : Room).cells ({ frames := 2, cells := 3, slots := 24, locals := 27 } : Room).slots) := by
  refine MetFree.of_bodySF (plainFor_of_name pn_1) hisR ?_
  intro p e s m args below meth c s₁ Bd hml0 hP hK
  obtain ⟨rfl, hZ, hh⟩ := hP
  have w_0 := own_at hw 0 rfl
  have w_2 := own_at hw 2 rfl
  have w_7 := own_at hw 7 rfl
  have w_8 := own_at hw 8 rfl
  have w_9 := own_at hw 9 rfl
  have w_10 := own_at hw 10 rfl
  have w_11 := own_at hw 11 rfl
  have w_12 := own_at hw 12 rfl
  have w_13 := own_at hw 13 rfl
  have w_14 := own_at hw 14 rfl
  have w_15 := own_at hw 15 rfl
  have w_16 := own_at hw 16 rfl
  have w_19 := own_at hw 19 rfl
  have w_20 := own_at hw 20 rfl
  have w_22 := own_at hw 22 rfl
  have w_23 := own_at hw 23 rfl
  have w_24 := own_at hw 24 rfl
  have w_25 := own_at hw 25 rfl
  have w_26 := own_at hw 26 rfl
  have w_27 := own_at hw 27 rfl
  have w_28 := own_at hw 28 rfl
  have w_29 := own_at hw 29 rfl
  have w_30 := own_at hw 30 rfl
  have w_31 := own_at hw 31 rfl
  have w_32 := own_at hw 32 rfl
  have w_64 := own_at hw 64 rfl
  have hx := Bd.exec
  have hby := Bd.bytes
  have hml : c.maxLocals = 3 := hml0
  have hown : s.vm.findClass "com/example/nehaba/nehaba/input/KeptValues" = some m.cls := findClass_of_methodNamed Bd.named
  have hnm := (name_of_methodNamed Bd.named Bd.method).1
  have X0 : Stand p l e ({ frames := 2, cells := 3, slots := 24, locals := 27 } : Room) s m #[(.ref x0), (.int (3 : Int32))] below meth c s₁ [] 0 0 := Stand.of_body Bd
  have e0 : s₁.heap = h0 := by rw [← hh, Bd.state]; rfl
  have N0 := Fr.nil n0
  have K0 : Keep h0 h0 [x0] := Keep.refl h0 _
  refine (?_ : Goes p e below s ({ frames := 2, cells := 3, slots := 24, locals := 27 } : Room).cells ({ frames := 2, cells := 3, slots := 24, locals := 27 } : Room).slots (fun v h L => Q1_3 Z x0 h0 n0 v h L) (s₁.setTop (entryFrame m #[(.ref x0), (.int (3 : Int32))] 3)))
  rw [ef_1_3 m x0 ]
  show Goes _ _ _ _ _ _ _ (s₁.setTop (mkF m 0 #[.val (.ref x0), .val (.int (3 : Int32)), .unset] []))
  refine G1 (fun _ => XS.aloadN X0.here hx rfl (hb hby d1_0) rfl rfl) ?_
  obtain ⟨T1, X1, e1, st1⟩ := initO X0 hx hZ hown w_7 w_8 w_9 e0 (g := (mkF m 1 #[.val (.ref x0), .val (.int (3 : Int32)), .unset] [(.ref x0)])) rfl (by rw [hml]; rfl) rfl (hb hby d1_1) (by decide) (W := 0) (by show 2 * 0 + _ ≤ _; exact Nat.le_of_eq rfl) (by decide)
  refine G1 st1 ?_
  show Goes _ _ _ _ _ _ _ (T1.setTop (mkF m 4 _ []))
  refine G1 (fun _ => XS.iloadN X1.here hx rfl (hb hby d1_4) rfl ) ?_
  refine G1 (fun _ => XS.iconst X1.here hx rfl (hb hby d1_5)) ?_
  refine G1 (fun _ => XS.icmpNo X1.here hx rfl (hb hby d1_6) rfl (flt (by decide : ¬ ((3 : Int32) < (1 : Int32)))).1) ?_
  show Goes _ _ _ _ _ _ _ (T1.setTop (mkF m 9 _ []))
  refine G1 (fun _ => XS.iloadN X1.here hx rfl (hb hby d1_9) rfl ) ?_
  refine G1 (fun _ => X1.ldcInt hx hown (mvT hZ w_10) (g := (mkF m 10 #[.val (.ref x0), .val (.int (3 : Int32)), .unset] [(.int (3 : Int32))])) rfl (hb hby d1_10) _) ?_
  refine G1 (fun _ => XS.icmpYes X1.here hx rfl (pc0 := 12) (pc' := 29) rfl (hb hby d1_12) rfl (flt (by decide : ¬ ((536870912 : Int32) < (3 : Int32)))).2.2.2 (by decide) (by decide)) ?_
  show Goes _ _ _ _ _ _ _ (T1.setTop (mkF m 29 _ []))
  refine G1 (fun _ => XS.aloadN X1.here hx rfl (hb hby d1_29) rfl rfl) ?_
  refine G1 (fun _ => XS.iloadN X1.here hx rfl (hb hby d1_30) rfl ) ?_
  obtain ⟨T2, h2, X2, e2, W2, st2⟩ := putF X1 hx hZ hown (host := "") (Or.inl w_11) Via.refl e1 F0_most E_x0 (Or.inr ⟨w_12, rfl, hnm⟩) w_2 (ty := .int) (by decide) rfl rfl (g := (mkF m 31 #[.val (.ref x0), .val (.int (3 : Int32)), .unset] [(.int (3 : Int32)), (.ref x0)])) rfl rfl (hb hby d1_31)
  refine G1 st2 ?_
  have f3 := F0_most.same W2
  have f4 := F0_keys.other W2 (Or.inr (slot_ne (Or.inr w_25) (Or.inr w_12) (by decide) (t := (.array (.object "java/lang/Object"))) (t' := .int) (by decide) (by decide)))
  have f5 := F0_hashes.other W2 (Or.inr (slot_ne (Or.inr w_27) (Or.inr w_12) (by decide) (t := (.array .int)) (t' := .int) (by decide) (by decide)))
  have f6 := F0_values.other W2 (Or.inr (slot_ne (Or.inr w_29) (Or.inr w_12) (by decide) (t := (.array (.object "java/lang/Object"))) (t' := .int) (by decide) (by decide)))
  have f7 := F0_shift.other W2 (Or.inr (slot_ne (Or.inr w_32) (Or.inr w_12) (by decide) (t := .int) (t' := .int) (by decide) (by decide)))
  have f8 := F0_size.other W2 (Or.inr (slot_ne (Or.inl w_64) (Or.inr w_12) (by decide) (t := .int) (t' := .int) (by decide) (by decide)))
  have f9 := E_x0.wr W2
  have K10 : Keep h0 h2 [x0] := K0.wr W2 (Or.inl (List.mem_of_getElem? (i := 0) rfl))
  have Z10 : n0 ≤ h2.size := by rw [Wr.size W2]; exact Z0
  have N10 := Fr.snoc X2 N0 g_x0
  show Goes _ _ _ _ _ _ _ (T2.setTop (mkF m 34 _ []))
  refine G1 (fun _ => XS.iconst X2.here hx rfl (hb hby d1_34)) ?_
  refine G1 (fun _ => XS.iloadN X2.here hx rfl (hb hby d1_35) rfl ) ?_
  refine G1 (fun _ => XS.imul X2.here hx rfl (hb hby d1_36) rfl) ?_
  show Goes _ _ _ _ _ _ _ (T2.setTop (mkF m 37 _ [(.int (6 : Int32))]))
  refine G1 (fun _ => XS.iconst X2.here hx rfl (hb hby d1_37)) ?_
  refine G1 (fun _ => XS.isub X2.here hx rfl (hb hby d1_38) rfl) ?_
  show Goes _ _ _ _ _ _ _ (T2.setTop (mkF m 39 _ [(.int (5 : Int32))]))
  obtain ⟨_, _, ⟨T11, L11, k11, n11⟩, -, X11, ⟨Lc11, hQ11, l11, y11, z11⟩, st11⟩ := Jvm.LawKit.callS X2 hx (y := mN5) hown (mvT hZ w_13) (mvT hZ w_14) (mvT hZ w_15) (mvT hZ w_16) (by decide) (backOf (W := 0) (rm3_5 l Z a0 hw []  h2 n0 Z10 ) hZ w_16 w_15 (by decide) (by decide)) (g := (mkF m 39 #[.val (.ref x0), .val (.int (3 : Int32)), .unset] [(.int (5 : Int32))])) rfl (by rw [hml]; rfl) (argsL := [(.int (5 : Int32))]) (rest := []) (lenOf pd_2 rfl) rfl (by show 2 * 0 + _ ≤ _; exact Nat.le_of_eq rfl) (hb hby d1_39) (fun _ _ => ⟨rfl, e2, (by decide : 0 + 0 ≤ _), (by decide : 0 + 0 ≤ _)⟩)
  dsimp only [Pt.U, Pt.locs, Pt.cells, Pt.slots] at X11 l11 y11 z11 st11 hQ11
  rw [l11, y11, z11] at X11
  obtain ⟨N11, KK11, hR11⟩ := hQ11
  have NA11 := Fr.app N10 N11
  obtain rfl := hR11
  refine G1 st11 ?_
  show Goes _ _ _ _ _ _ _ (T11.setTop (mkF m 42 _ [(.int (4 : Int32))]))
  refine G1 (fun _ => XS.iconst X11.here hx rfl (hb hby d1_42)) ?_
  refine G1 (fun _ => XS.ishl X11.here hx rfl (hb hby d1_43) rfl) ?_
  show Goes _ _ _ _ _ _ _ (T11.setTop (mkF m 44 _ [(.int (8 : Int32))]))
  refine G1 (fun _ => XS.istoreN X11.here hx rfl (hb hby d1_44) rfl (l' := #[.val (.ref x0), .val (.int (3 : Int32)), .val (.int (8 : Int32))]) rfl) ?_
  show Goes _ _ _ _ _ _ _ (T11.setTop (mkF m 45 _ []))
  refine G1 (fun _ => XS.aloadN X11.here hx rfl (hb hby d1_45) rfl rfl) ?_
  refine G1 (fun _ => XS.iloadN X11.here hx rfl (hb hby d1_46) rfl ) ?_
  obtain ⟨T12, h12, k12, X12, e12, E12, A12, O12, st12⟩ := newR X11 hx hZ hown w_22 w_23 KK11 (g := (mkF m 47 #[.val (.ref x0), .val (.int (3 : Int32)), .val (.int (8 : Int32))] [(.int (8 : Int32)), (.ref x0)])) rfl (hb hby d1_47) rfl (by decide) (cap := 8) (by decide) (by decide) (by decide) (by decide)
  obtain ⟨b12, g12⟩ : ∃ z, z = h2.size := ⟨_, rfl⟩
  rw [← g12] at A12 st12
  refine G1 st12 ?_
  have g_b12 : n0 ≤ b12 := Nat.le_trans Z10 (Nat.le_of_eq g12.symm)
  have sz_b12 : h0.size ≤ b12 := Nat.le_trans K10.1 (Nat.le_of_eq g12.symm)
  have ne13 : x0 ≠ b12 := Nat.ne_of_lt (Nat.lt_of_lt_of_le f3.lt (Nat.le_of_eq g12.symm))
  have f14 := f3.ext E12
  have f15 := f4.ext E12
  have f16 := f5.ext E12
  have f17 := f6.ext E12
  have f18 := f7.ext E12
  have f19 := f8.ext E12
  have f20 := f9.ext E12
  have K21 : Keep h0 h12 [x0] := K10.ext E12
  have Z21 : n0 ≤ h12.size := Nat.le_trans Z10 E12.1
  have V_b12 : ArF Z h12 b12 k12 (.object "java/lang/Object") 8 (fun _ => .null) := own_arf (Arv.new A12 (by decide))
  show Goes _ _ _ _ _ _ _ (T12.setTop (mkF m 50 _ [(.ref b12), (.ref x0)]))
  obtain ⟨T22, h22, X22, e22, W22, st22⟩ := putF X12 hx hZ hown (host := "") (Or.inl w_24) Via.refl e12 f15 f20 (Or.inr ⟨w_25, rfl, hnm⟩) w_2 (ty := (.array (.object "java/lang/Object"))) (by decide) rfl rfl (g := (mkF m 50 #[.val (.ref x0), .val (.int (3 : Int32)), .val (.int (8 : Int32))] [(.ref b12), (.ref x0)])) rfl rfl (hb hby d1_50)
  refine G1 st22 ?_
  have f23 := f14.other W22 (Or.inr (slot_ne (Or.inr w_12) (Or.inr w_25) (by decide) (t := .int) (t' := (.array (.object "java/lang/Object"))) (by decide) (by decide)))
  have f24 := f15.same W22
  have f25 := f16.other W22 (Or.inr (slot_ne (Or.inr w_27) (Or.inr w_25) (by decide) (t := (.array .int)) (t' := (.array (.object "java/lang/Object"))) (by decide) (by decide)))
  have f26 := f17.other W22 (Or.inr (slot_ne (Or.inr w_29) (Or.inr w_25) (by decide) (t := (.array (.object "java/lang/Object"))) (t' := (.array (.object "java/lang/Object"))) (by decide) (by decide)))
  have f27 := f18.other W22 (Or.inr (slot_ne (Or.inr w_32) (Or.inr w_25) (by decide) (t := .int) (t' := (.array (.object "java/lang/Object"))) (by decide) (by decide)))
  have f28 := f19.other W22 (Or.inr (slot_ne (Or.inl w_64) (Or.inr w_25) (by decide) (t := .int) (t' := (.array (.object "java/lang/Object"))) (by decide) (by decide)))
  have f29 := f20.wr W22
  have f30 := V_b12.other W22 (Ne.symm ne13)
  have K31 : Keep h0 h22 [x0] := K21.wr W22 (Or.inl (List.mem_of_getElem? (i := 0) rfl))
  have Z31 : n0 ≤ h22.size := by rw [Wr.size W22]; exact Z21
  have N31 := Fr.snoc X22 NA11 g_x0
  show Goes _ _ _ _ _ _ _ (T22.setTop (mkF m 53 _ []))
  refine G1 (fun _ => XS.aloadN X22.here hx rfl (hb hby d1_53) rfl rfl) ?_
  refine G1 (fun _ => XS.iloadN X22.here hx rfl (hb hby d1_54) rfl ) ?_
  obtain ⟨T32, h32, k32, X32, e32, E32, A32, st32⟩ := newP X22 hx hZ (own_at hw 0 rfl) e22 (g := (mkF m 55 #[.val (.ref x0), .val (.int (3 : Int32)), .val (.int (8 : Int32))] [(.int (8 : Int32)), (.ref x0)])) rfl (hb hby d1_55) rfl (by decide) (cap := 8) (by decide) (by decide) (by decide) (by decide)
  obtain ⟨b32, g32⟩ : ∃ z, z = h22.size := ⟨_, rfl⟩
  rw [← g32] at A32 st32
  refine G1 st32 ?_
  have g_b32 : n0 ≤ b32 := Nat.le_trans Z31 (Nat.le_of_eq g32.symm)
  have sz_b32 : h0.size ≤ b32 := Nat.le_trans K31.1 (Nat.le_of_eq g32.symm)
  have ne33 : x0 ≠ b32 := Nat.ne_of_lt (Nat.lt_of_lt_of_le f23.lt (Nat.le_of_eq g32.symm))
  have ne34 : b12 ≠ b32 := Nat.ne_of_lt (Nat.lt_of_lt_of_le f30.lt (Nat.le_of_eq g32.symm))
  have f35 := f23.ext E32
  have f36 := f24.ext E32
  have f37 := f25.ext E32
  have f38 := f26.ext E32
  have f39 := f27.ext E32
  have f40 := f28.ext E32
  have f41 := f29.ext E32
  have f42 := f30.ext E32
  have K43 : Keep h0 h32 [x0] := K31.ext E32
  have Z43 : n0 ≤ h32.size := Nat.le_trans Z31 E32.1
  have V_b32 : ArF Z h32 b32 k32 .int 8 (fun _ => (.int (0 : Int32))) := own_arf (Arv.new A32 (by decide))
  show Goes _ _ _ _ _ _ _ (T32.setTop (mkF m 57 _ [(.ref b32), (.ref x0)]))
  obtain ⟨T44, h44, X44, e44, W44, st44⟩ := putF X32 hx hZ hown (host := "") (Or.inl w_26) Via.refl e32 f37 f41 (Or.inr ⟨w_27, rfl, hnm⟩) w_2 (ty := (.array .int)) (by decide) rfl rfl (g := (mkF m 57 #[.val (.ref x0), .val (.int (3 : Int32)), .val (.int (8 : Int32))] [(.ref b32), (.ref x0)])) rfl rfl (hb hby d1_57)
  refine G1 st44 ?_
  have f45 := f35.other W44 (Or.inr (slot_ne (Or.inr w_12) (Or.inr w_27) (by decide) (t := .int) (t' := (.array .int)) (by decide) (by decide)))
  have f46 := f36.other W44 (Or.inr (slot_ne (Or.inr w_25) (Or.inr w_27) (by decide) (t := (.array (.object "java/lang/Object"))) (t' := (.array .int)) (by decide) (by decide)))
  have f47 := f37.same W44
  have f48 := f38.other W44 (Or.inr (slot_ne (Or.inr w_29) (Or.inr w_27) (by decide) (t := (.array (.object "java/lang/Object"))) (t' := (.array .int)) (by decide) (by decide)))
  have f49 := f39.other W44 (Or.inr (slot_ne (Or.inr w_32) (Or.inr w_27) (by decide) (t := .int) (t' := (.array .int)) (by decide) (by decide)))
  have f50 := f40.other W44 (Or.inr (slot_ne (Or.inl w_64) (Or.inr w_27) (by decide) (t := .int) (t' := (.array .int)) (by decide) (by decide)))
  have f51 := f41.wr W44
  have f52 := f42.other W44 (Ne.symm ne13)
  have f53 := V_b32.other W44 (Ne.symm ne33)
  have K54 : Keep h0 h44 [x0] := K43.wr W44 (Or.inl (List.mem_of_getElem? (i := 0) rfl))
  have Z54 : n0 ≤ h44.size := by rw [Wr.size W44]; exact Z43
  have N54 := Fr.snoc X44 N31 g_x0
  show Goes _ _ _ _ _ _ _ (T44.setTop (mkF m 60 #[.val (.ref x0), .val (.int (3 : Int32)), .val (.int (8 : Int32))] []))
  refine G1 (fun _ => XS.aloadN X44.here hx rfl (hb hby d1_60) rfl rfl) ?_
  refine G1 (fun _ => XS.iloadN X44.here hx rfl (hb hby d1_61) rfl ) ?_
  obtain ⟨T55, h55, k55, X55, e55, E55, A55, O55, st55⟩ := newR X44 hx hZ hown w_22 w_23 e44 (g := (mkF m 62 #[.val (.ref x0), .val (.int (3 : Int32)), .val (.int (8 : Int32))] [(.int (8 : Int32)), (.ref x0)])) rfl (hb hby d1_62) rfl (by decide) (cap := 8) (by decide) (by decide) (by decide) (by decide)
  obtain ⟨b55, g55⟩ : ∃ z, z = h44.size := ⟨_, rfl⟩
  rw [← g55] at A55 st55
  refine G1 st55 ?_
  have g_b55 : n0 ≤ b55 := Nat.le_trans Z54 (Nat.le_of_eq g55.symm)
  have sz_b55 : h0.size ≤ b55 := Nat.le_trans K54.1 (Nat.le_of_eq g55.symm)
  have ne56 : x0 ≠ b55 := Nat.ne_of_lt (Nat.lt_of_lt_of_le f45.lt (Nat.le_of_eq g55.symm))
  have ne57 : b12 ≠ b55 := Nat.ne_of_lt (Nat.lt_of_lt_of_le f52.lt (Nat.le_of_eq g55.symm))
  have ne58 : b32 ≠ b55 := Nat.ne_of_lt (Nat.lt_of_lt_of_le f53.lt (Nat.le_of_eq g55.symm))
  have f59 := f45.ext E55
  have f60 := f46.ext E55
  have f61 := f47.ext E55
  have f62 := f48.ext E55
  have f63 := f49.ext E55
  have f64 := f50.ext E55
  have f65 := f51.ext E55
  have f66 := f52.ext E55
  have f67 := f53.ext E55
  have K68 : Keep h0 h55 [x0] := K54.ext E55
  have Z68 : n0 ≤ h55.size := Nat.le_trans Z54 E55.1
  have V_b55 : ArF Z h55 b55 k55 (.object "java/lang/Object") 8 (fun _ => .null) := own_arf (Arv.new A55 (by decide))
  show Goes _ _ _ _ _ _ _ (T55.setTop (mkF m 65 _ [(.ref b55), (.ref x0)]))
  obtain ⟨T69, h69, X69, e69, W69, st69⟩ := putF X55 hx hZ hown (host := "") (Or.inl w_28) Via.refl e55 f62 f65 (Or.inr ⟨w_29, rfl, hnm⟩) w_2 (ty := (.array (.object "java/lang/Object"))) (by decide) rfl rfl (g := (mkF m 65 #[.val (.ref x0), .val (.int (3 : Int32)), .val (.int (8 : Int32))] [(.ref b55), (.ref x0)])) rfl rfl (hb hby d1_65)
  refine G1 st69 ?_
  have f70 := f59.other W69 (Or.inr (slot_ne (Or.inr w_12) (Or.inr w_29) (by decide) (t := .int) (t' := (.array (.object "java/lang/Object"))) (by decide) (by decide)))
  have f71 := f60.other W69 (Or.inr (slot_ne (Or.inr w_25) (Or.inr w_29) (by decide) (t := (.array (.object "java/lang/Object"))) (t' := (.array (.object "java/lang/Object"))) (by decide) (by decide)))
  have f72 := f61.other W69 (Or.inr (slot_ne (Or.inr w_27) (Or.inr w_29) (by decide) (t := (.array .int)) (t' := (.array (.object "java/lang/Object"))) (by decide) (by decide)))
  have f73 := f62.same W69
  have f74 := f63.other W69 (Or.inr (slot_ne (Or.inr w_32) (Or.inr w_29) (by decide) (t := .int) (t' := (.array (.object "java/lang/Object"))) (by decide) (by decide)))
  have f75 := f64.other W69 (Or.inr (slot_ne (Or.inl w_64) (Or.inr w_29) (by decide) (t := .int) (t' := (.array (.object "java/lang/Object"))) (by decide) (by decide)))
  have f76 := f65.wr W69
  have f77 := f66.other W69 (Ne.symm ne13)
  have f78 := f67.other W69 (Ne.symm ne33)
  have f79 := V_b55.other W69 (Ne.symm ne56)
  have K80 : Keep h0 h69 [x0] := K68.wr W69 (Or.inl (List.mem_of_getElem? (i := 0) rfl))
  have Z80 : n0 ≤ h69.size := by rw [Wr.size W69]; exact Z68
  have N80 := Fr.snoc X69 N54 g_x0
  show Goes _ _ _ _ _ _ _ (T69.setTop (mkF m 68 _ []))
  refine G1 (fun _ => XS.aloadN X69.here hx rfl (hb hby d1_68) rfl rfl) ?_
  refine G1 (fun _ => XS.iloadN X69.here hx rfl (hb hby d1_69) rfl ) ?_
  obtain ⟨_, _, ⟨T81, L81, k81, n81⟩, -, X81, ⟨Lc81, hQ81, l81, y81, z81⟩, st81⟩ := Jvm.LawKit.callS X69 hx (y := mN4) hown (mvT hZ w_30) (mvT hZ w_19) (mvT hZ w_15) (mvT hZ w_20) (by decide) (backOf (W := 1) (rm4_8 l Z a0 hw []  h69 n0 Z80 ) hZ w_20 w_15 (by decide) (by decide)) (g := (mkF m 70 #[.val (.ref x0), .val (.int (3 : Int32)), .val (.int (8 : Int32))] [(.int (8 : Int32)), (.ref x0)])) rfl (by rw [hml]; rfl) (argsL := [(.int (8 : Int32))]) (rest := [(.ref x0)]) (lenOf pd_2 rfl) rfl (by show 2 * 0 + _ ≤ _; exact Nat.le_of_eq rfl) (hb hby d1_70) (fun _ _ => ⟨rfl, e69, (by decide : 3 + 0 ≤ _), (by decide : 24 + 0 ≤ _)⟩)
  dsimp only [Pt.U, Pt.locs, Pt.cells, Pt.slots] at X81 l81 y81 z81 st81 hQ81
  rw [l81, y81, z81] at X81
  obtain ⟨N81, KK81, hR81⟩ := hQ81
  have NA81 := Fr.app N80 N81
  obtain rfl := hR81
  refine G1 st81 ?_
  show Goes _ _ _ _ _ _ _ (T81.setTop (mkF m 73 _ [(.int (28 : Int32)), (.ref x0)]))
  refine G1 (fun _ => XS.iconst X81.here hx rfl (hb hby d1_73)) ?_
  refine G1 (fun _ => XS.iadd X81.here hx rfl (hb hby d1_74) rfl) ?_
  show Goes _ _ _ _ _ _ _ (T81.setTop (mkF m 75 _ [(.int (29 : Int32)), (.ref x0)]))
  obtain ⟨T82, h82, X82, e82, W82, st82⟩ := putF X81 hx hZ hown (host := "") (Or.inl w_31) Via.refl KK81 f74 f76 (Or.inr ⟨w_32, rfl, hnm⟩) w_2 (ty := .int) (by decide) rfl rfl (g := (mkF m 75 #[.val (.ref x0), .val (.int (3 : Int32)), .val (.int (8 : Int32))] [(.int (29 : Int32)), (.ref x0)])) rfl rfl (hb hby d1_75)
  refine G1 st82 ?_
  have f83 := f70.other W82 (Or.inr (slot_ne (Or.inr w_12) (Or.inr w_32) (by decide) (t := .int) (t' := .int) (by decide) (by decide)))
  have f84 := f71.other W82 (Or.inr (slot_ne (Or.inr w_25) (Or.inr w_32) (by decide) (t := (.array (.object "java/lang/Object"))) (t' := .int) (by decide) (by decide)))
  have f85 := f72.other W82 (Or.inr (slot_ne (Or.inr w_27) (Or.inr w_32) (by decide) (t := (.array .int)) (t' := .int) (by decide) (by decide)))
  have f86 := f73.other W82 (Or.inr (slot_ne (Or.inr w_29) (Or.inr w_32) (by decide) (t := (.array (.object "java/lang/Object"))) (t' := .int) (by decide) (by decide)))
  have f87 := f74.same W82
  have f88 := f75.other W82 (Or.inr (slot_ne (Or.inl w_64) (Or.inr w_32) (by decide) (t := .int) (t' := .int) (by decide) (by decide)))
  have f89 := f76.wr W82
  have f90 := f77.other W82 (Ne.symm ne13)
  have f91 := f78.other W82 (Ne.symm ne33)
  have f92 := f79.other W82 (Ne.symm ne56)
  have K93 : Keep h0 h82 [x0] := K80.wr W82 (Or.inl (List.mem_of_getElem? (i := 0) rfl))
  have Z93 : n0 ≤ h82.size := by rw [Wr.size W82]; exact Z80
  have N93 := Fr.snoc X82 NA81 g_x0
  show Goes _ _ _ _ _ _ _ (T82.setTop (mkF m 78 _ []))
  exact Goes.retV X82 hx (BodyLoose.notSynchronized Bd) Bd.returns (hb hby d1_78) (by show Q1_3 Z x0 h0 n0 none T82.heap _; rw [e82]; exact ⟨N93, K93, ⟨b12, b32, b55, k12, k32, k55, rfl, g_b12, sz_b12, g_b32, sz_b32, g_b55, sz_b55, (Ne.symm ne34), (Ne.symm ne57), (Ne.symm ne58), f83, f84, f85, f86, f87, f88, f89, f90, f91, f92, O12, O55⟩⟩) (by decide) (by decide)
theorem ef_1_4 (m : MethodId) (x0 : Addr)  : entryFrame m #[(.ref x0), (.int (4 : Int32))] 3 = mkF m 0 #[.val (.ref x0), .val (.int (4 : Int32)), .unset] [] := by first | (simp [entryFrame, mkF, argsToLocals, Value.category]; done) | rfl
def Q1_4 (Z : State) (x0 : Addr) (h0 : Heap) (n0 : Nat) (v : Option Value) (h : Heap) (L : List Loc) : Prop := Fr n0 L ∧ Keep h0 h [x0] ∧ ((∃ (r_0 : Addr) (r_1 : Addr) (r_2 : Addr) (k_0 : ClassId) (k_1 : ClassId) (k_2 : ClassId), v = none ∧ n0 ≤ r_0 ∧ h0.size ≤ r_0 ∧ n0 ≤ r_1 ∧ h0.size ≤ r_1 ∧ n0 ≤ r_2 ∧ h0.size ≤ r_2 ∧ r_1 ≠ r_0 ∧ r_2 ≠ r_0 ∧ r_2 ≠ r_1 ∧ Fld Z h x0 "com/example/nehaba/nehaba/input/KeptValues" "most" "I" (.int (4 : Int32)) ∧ Fld Z h x0 "com/example/nehaba/nehaba/input/KeptValues" "keys" "[Ljava/lang/Object;" (.ref r_0) ∧ Fld Z h x0 "com/example/nehaba/nehaba/input/KeptValues" "hashes" "[I" (.ref r_1) ∧ Fld Z h x0 "com/example/nehaba/nehaba/input/KeptValues" "values" "[Ljava/lang/Object;" (.ref r_2) ∧ Fld Z h x0 "com/example/nehaba/nehaba/input/KeptValues" "shift" "I" (.int (29 : Int32)) ∧ Fld Z h x0 "com/example/nehaba/nehaba/input/KeptValues" "size" "I" (.int (0 : Int32)) ∧ Exa Z h x0 "com/example/nehaba/nehaba/input/KeptValues" ∧ ArF Z h r_0 k_0 (.object "java/lang/Object") 8 (fun _ => .null) ∧ ArF Z h r_1 k_1 .int 8 (fun _ => (.int (0 : Int32))) ∧ ArF Z h r_2 k_2 (.object "java/lang/Object") 8 (fun _ => .null) ∧ Ovr Z k_0 "java/lang/Object" ∧ Ovr Z k_2 "java/lang/Object"))
set_option maxRecDepth 65536 in
set_option maxHeartbeats 40000000 in
theorem rm1_4 (l : Launch) (Z : State) (a0 : Array Value) (hw : ∀ d ∈ tables_1, d.before a0 Z = true) (ws : List Jvm.Cond) (x0 : Addr) (h0 : Heap) (n0 : Nat) (Z0 : n0 ≤ h0.size) (F0_most : Fld Z h0 x0 "com/example/nehaba/nehaba/input/KeptValues" "most" "I" (.int (0 : Int32))) (F0_keys : Fld Z h0 x0 "com/example/nehaba/nehaba/input/KeptValues" "keys" "[Ljava/lang/Object;" .null) (F0_hashes : Fld Z h0 x0 "com/example/nehaba/nehaba/input/KeptValues" "hashes" "[I" .null) (F0_values : Fld Z h0 x0 "com/example/nehaba/nehaba/input/KeptValues" "values" "[Ljava/lang/Object;" .null) (F0_shift : Fld Z h0 x0 "com/example/nehaba/nehaba/input/KeptValues" "shift" "I" (.int (0 : Int32))) (F0_size : Fld Z h0 x0 "com/example/nehaba/nehaba/input/KeptValues" "size" "I" (.int (0 : Int32))) (E_x0 : Exa Z h0 x0 "com/example/nehaba/nehaba/input/KeptValues") (g_x0 : n0 ≤ x0) :
    MetFree l (⟨"com/example/nehaba/nehaba/input/KeptValues", "<init>", "(I)V"⟩ : MethodName) (head1 (Jvm.Cond.code (⟨"com/example/nehaba/nehaba/input/KeptValues", "<init>", "(I)V"⟩ : MethodName) prog_31_method_1_code 3 none :: ws) ({ frames := 2, cells := 3, slots := 24, locals := 27 } : Room)) (fun a U => a = #[(.ref x0), (.int (4 : Int32))] ∧ Z.Warmed39 U.vm ∧ U.heap = h0) (fun _ _ _ _ _ => True) (fun _ U o U' => ∃ v L, o = .returned v ∧ Q1_4 Z x0 h0 n0 v U'.heap L ∧ FrameEnd U o U' L ({ frames := 2, cells := 3, slots := 24, locals := 27 } : Room).cells ({ frames := 2, cells := 3, slots := 24, locals := 27 } : Room).slots) := by
  refine MetFree.of_bodySF (plainFor_of_name pn_1) hisR ?_
  intro p e s m args below meth c s₁ Bd hml0 hP hK
  obtain ⟨rfl, hZ, hh⟩ := hP
  have w_0 := own_at hw 0 rfl
  have w_2 := own_at hw 2 rfl
  have w_7 := own_at hw 7 rfl
  have w_8 := own_at hw 8 rfl
  have w_9 := own_at hw 9 rfl
  have w_10 := own_at hw 10 rfl
  have w_11 := own_at hw 11 rfl
  have w_12 := own_at hw 12 rfl
  have w_13 := own_at hw 13 rfl
  have w_14 := own_at hw 14 rfl
  have w_15 := own_at hw 15 rfl
  have w_16 := own_at hw 16 rfl
  have w_19 := own_at hw 19 rfl
  have w_20 := own_at hw 20 rfl
  have w_22 := own_at hw 22 rfl
  have w_23 := own_at hw 23 rfl
  have w_24 := own_at hw 24 rfl
  have w_25 := own_at hw 25 rfl
  have w_26 := own_at hw 26 rfl
  have w_27 := own_at hw 27 rfl
  have w_28 := own_at hw 28 rfl
  have w_29 := own_at hw 29 rfl
  have w_30 := own_at hw 30 rfl
  have w_31 := own_at hw 31 rfl
  have w_32 := own_at hw 32 rfl
  have w_64 := own_at hw 64 rfl
  have hx := Bd.exec
  have hby := Bd.bytes
  have hml : c.maxLocals = 3 := hml0
  have hown : s.vm.findClass "com/example/nehaba/nehaba/input/KeptValues" = some m.cls := findClass_of_methodNamed Bd.named
  have hnm := (name_of_methodNamed Bd.named Bd.method).1
  have X0 : Stand p l e ({ frames := 2, cells := 3, slots := 24, locals := 27 } : Room) s m #[(.ref x0), (.int (4 : Int32))] below meth c s₁ [] 0 0 := Stand.of_body Bd
  have e0 : s₁.heap = h0 := by rw [← hh, Bd.state]; rfl
  have N0 := Fr.nil n0
  have K0 : Keep h0 h0 [x0] := Keep.refl h0 _
  refine (?_ : Goes p e below s ({ frames := 2, cells := 3, slots := 24, locals := 27 } : Room).cells ({ frames := 2, cells := 3, slots := 24, locals := 27 } : Room).slots (fun v h L => Q1_4 Z x0 h0 n0 v h L) (s₁.setTop (entryFrame m #[(.ref x0), (.int (4 : Int32))] 3)))
  rw [ef_1_4 m x0 ]
  show Goes _ _ _ _ _ _ _ (s₁.setTop (mkF m 0 #[.val (.ref x0), .val (.int (4 : Int32)), .unset] []))
  refine G1 (fun _ => XS.aloadN X0.here hx rfl (hb hby d1_0) rfl rfl) ?_
  obtain ⟨T1, X1, e1, st1⟩ := initO X0 hx hZ hown w_7 w_8 w_9 e0 (g := (mkF m 1 #[.val (.ref x0), .val (.int (4 : Int32)), .unset] [(.ref x0)])) rfl (by rw [hml]; rfl) rfl (hb hby d1_1) (by decide) (W := 0) (by show 2 * 0 + _ ≤ _; exact Nat.le_of_eq rfl) (by decide)
  refine G1 st1 ?_
  show Goes _ _ _ _ _ _ _ (T1.setTop (mkF m 4 _ []))
  refine G1 (fun _ => XS.iloadN X1.here hx rfl (hb hby d1_4) rfl ) ?_
  refine G1 (fun _ => XS.iconst X1.here hx rfl (hb hby d1_5)) ?_
  refine G1 (fun _ => XS.icmpNo X1.here hx rfl (hb hby d1_6) rfl (flt (by decide : ¬ ((4 : Int32) < (1 : Int32)))).1) ?_
  show Goes _ _ _ _ _ _ _ (T1.setTop (mkF m 9 _ []))
  refine G1 (fun _ => XS.iloadN X1.here hx rfl (hb hby d1_9) rfl ) ?_
  refine G1 (fun _ => X1.ldcInt hx hown (mvT hZ w_10) (g := (mkF m 10 #[.val (.ref x0), .val (.int (4 : Int32)), .unset] [(.int (4 : Int32))])) rfl (hb hby d1_10) _) ?_
  refine G1 (fun _ => XS.icmpYes X1.here hx rfl (pc0 := 12) (pc' := 29) rfl (hb hby d1_12) rfl (flt (by decide : ¬ ((536870912 : Int32) < (4 : Int32)))).2.2.2 (by decide) (by decide)) ?_
  show Goes _ _ _ _ _ _ _ (T1.setTop (mkF m 29 _ []))
  refine G1 (fun _ => XS.aloadN X1.here hx rfl (hb hby d1_29) rfl rfl) ?_
  refine G1 (fun _ => XS.iloadN X1.here hx rfl (hb hby d1_30) rfl ) ?_
  obtain ⟨T2, h2, X2, e2, W2, st2⟩ := putF X1 hx hZ hown (host := "") (Or.inl w_11) Via.refl e1 F0_most E_x0 (Or.inr ⟨w_12, rfl, hnm⟩) w_2 (ty := .int) (by decide) rfl rfl (g := (mkF m 31 #[.val (.ref x0), .val (.int (4 : Int32)), .unset] [(.int (4 : Int32)), (.ref x0)])) rfl rfl (hb hby d1_31)
  refine G1 st2 ?_
  have f3 := F0_most.same W2
  have f4 := F0_keys.other W2 (Or.inr (slot_ne (Or.inr w_25) (Or.inr w_12) (by decide) (t := (.array (.object "java/lang/Object"))) (t' := .int) (by decide) (by decide)))
  have f5 := F0_hashes.other W2 (Or.inr (slot_ne (Or.inr w_27) (Or.inr w_12) (by decide) (t := (.array .int)) (t' := .int) (by decide) (by decide)))
  have f6 := F0_values.other W2 (Or.inr (slot_ne (Or.inr w_29) (Or.inr w_12) (by decide) (t := (.array (.object "java/lang/Object"))) (t' := .int) (by decide) (by decide)))
  have f7 := F0_shift.other W2 (Or.inr (slot_ne (Or.inr w_32) (Or.inr w_12) (by decide) (t := .int) (t' := .int) (by decide) (by decide)))
  have f8 := F0_size.other W2 (Or.inr (slot_ne (Or.inl w_64) (Or.inr w_12) (by decide) (t := .int) (t' := .int) (by decide) (by decide)))
  have f9 := E_x0.wr W2
  have K10 : Keep h0 h2 [x0] := K0.wr W2 (Or.inl (List.mem_of_getElem? (i := 0) rfl))
  have Z10 : n0 ≤ h2.size := by rw [Wr.size W2]; exact Z0
  have N10 := Fr.snoc X2 N0 g_x0
  show Goes _ _ _ _ _ _ _ (T2.setTop (mkF m 34 _ []))
  refine G1 (fun _ => XS.iconst X2.here hx rfl (hb hby d1_34)) ?_
  refine G1 (fun _ => XS.iloadN X2.here hx rfl (hb hby d1_35) rfl ) ?_
  refine G1 (fun _ => XS.imul X2.here hx rfl (hb hby d1_36) rfl) ?_
  show Goes _ _ _ _ _ _ _ (T2.setTop (mkF m 37 _ [(.int (8 : Int32))]))
  refine G1 (fun _ => XS.iconst X2.here hx rfl (hb hby d1_37)) ?_
  refine G1 (fun _ => XS.isub X2.here hx rfl (hb hby d1_38) rfl) ?_
  show Goes _ _ _ _ _ _ _ (T2.setTop (mkF m 39 _ [(.int (7 : Int32))]))
  obtain ⟨_, _, ⟨T11, L11, k11, n11⟩, -, X11, ⟨Lc11, hQ11, l11, y11, z11⟩, st11⟩ := Jvm.LawKit.callS X2 hx (y := mN5) hown (mvT hZ w_13) (mvT hZ w_14) (mvT hZ w_15) (mvT hZ w_16) (by decide) (backOf (W := 0) (rm3_7 l Z a0 hw []  h2 n0 Z10 ) hZ w_16 w_15 (by decide) (by decide)) (g := (mkF m 39 #[.val (.ref x0), .val (.int (4 : Int32)), .unset] [(.int (7 : Int32))])) rfl (by rw [hml]; rfl) (argsL := [(.int (7 : Int32))]) (rest := []) (lenOf pd_2 rfl) rfl (by show 2 * 0 + _ ≤ _; exact Nat.le_of_eq rfl) (hb hby d1_39) (fun _ _ => ⟨rfl, e2, (by decide : 0 + 0 ≤ _), (by decide : 0 + 0 ≤ _)⟩)
  dsimp only [Pt.U, Pt.locs, Pt.cells, Pt.slots] at X11 l11 y11 z11 st11 hQ11
  rw [l11, y11, z11] at X11
  obtain ⟨N11, KK11, hR11⟩ := hQ11
  have NA11 := Fr.app N10 N11
  obtain rfl := hR11
  refine G1 st11 ?_
  show Goes _ _ _ _ _ _ _ (T11.setTop (mkF m 42 _ [(.int (4 : Int32))]))
  refine G1 (fun _ => XS.iconst X11.here hx rfl (hb hby d1_42)) ?_
  refine G1 (fun _ => XS.ishl X11.here hx rfl (hb hby d1_43) rfl) ?_
  show Goes _ _ _ _ _ _ _ (T11.setTop (mkF m 44 _ [(.int (8 : Int32))]))
  refine G1 (fun _ => XS.istoreN X11.here hx rfl (hb hby d1_44) rfl (l' := #[.val (.ref x0), .val (.int (4 : Int32)), .val (.int (8 : Int32))]) rfl) ?_
  show Goes _ _ _ _ _ _ _ (T11.setTop (mkF m 45 _ []))
  refine G1 (fun _ => XS.aloadN X11.here hx rfl (hb hby d1_45) rfl rfl) ?_
  refine G1 (fun _ => XS.iloadN X11.here hx rfl (hb hby d1_46) rfl ) ?_
  obtain ⟨T12, h12, k12, X12, e12, E12, A12, O12, st12⟩ := newR X11 hx hZ hown w_22 w_23 KK11 (g := (mkF m 47 #[.val (.ref x0), .val (.int (4 : Int32)), .val (.int (8 : Int32))] [(.int (8 : Int32)), (.ref x0)])) rfl (hb hby d1_47) rfl (by decide) (cap := 8) (by decide) (by decide) (by decide) (by decide)
  obtain ⟨b12, g12⟩ : ∃ z, z = h2.size := ⟨_, rfl⟩
  rw [← g12] at A12 st12
  refine G1 st12 ?_
  have g_b12 : n0 ≤ b12 := Nat.le_trans Z10 (Nat.le_of_eq g12.symm)
  have sz_b12 : h0.size ≤ b12 := Nat.le_trans K10.1 (Nat.le_of_eq g12.symm)
  have ne13 : x0 ≠ b12 := Nat.ne_of_lt (Nat.lt_of_lt_of_le f3.lt (Nat.le_of_eq g12.symm))
  have f14 := f3.ext E12
  have f15 := f4.ext E12
  have f16 := f5.ext E12
  have f17 := f6.ext E12
  have f18 := f7.ext E12
  have f19 := f8.ext E12
  have f20 := f9.ext E12
  have K21 : Keep h0 h12 [x0] := K10.ext E12
  have Z21 : n0 ≤ h12.size := Nat.le_trans Z10 E12.1
  have V_b12 : ArF Z h12 b12 k12 (.object "java/lang/Object") 8 (fun _ => .null) := own_arf (Arv.new A12 (by decide))
  show Goes _ _ _ _ _ _ _ (T12.setTop (mkF m 50 _ [(.ref b12), (.ref x0)]))
  obtain ⟨T22, h22, X22, e22, W22, st22⟩ := putF X12 hx hZ hown (host := "") (Or.inl w_24) Via.refl e12 f15 f20 (Or.inr ⟨w_25, rfl, hnm⟩) w_2 (ty := (.array (.object "java/lang/Object"))) (by decide) rfl rfl (g := (mkF m 50 #[.val (.ref x0), .val (.int (4 : Int32)), .val (.int (8 : Int32))] [(.ref b12), (.ref x0)])) rfl rfl (hb hby d1_50)
  refine G1 st22 ?_
  have f23 := f14.other W22 (Or.inr (slot_ne (Or.inr w_12) (Or.inr w_25) (by decide) (t := .int) (t' := (.array (.object "java/lang/Object"))) (by decide) (by decide)))
  have f24 := f15.same W22
  have f25 := f16.other W22 (Or.inr (slot_ne (Or.inr w_27) (Or.inr w_25) (by decide) (t := (.array .int)) (t' := (.array (.object "java/lang/Object"))) (by decide) (by decide)))
  have f26 := f17.other W22 (Or.inr (slot_ne (Or.inr w_29) (Or.inr w_25) (by decide) (t := (.array (.object "java/lang/Object"))) (t' := (.array (.object "java/lang/Object"))) (by decide) (by decide)))
  have f27 := f18.other W22 (Or.inr (slot_ne (Or.inr w_32) (Or.inr w_25) (by decide) (t := .int) (t' := (.array (.object "java/lang/Object"))) (by decide) (by decide)))
  have f28 := f19.other W22 (Or.inr (slot_ne (Or.inl w_64) (Or.inr w_25) (by decide) (t := .int) (t' := (.array (.object "java/lang/Object"))) (by decide) (by decide)))
  have f29 := f20.wr W22
  have f30 := V_b12.other W22 (Ne.symm ne13)
  have K31 : Keep h0 h22 [x0] := K21.wr W22 (Or.inl (List.mem_of_getElem? (i := 0) rfl))
  have Z31 : n0 ≤ h22.size := by rw [Wr.size W22]; exact Z21
  have N31 := Fr.snoc X22 NA11 g_x0
  show Goes _ _ _ _ _ _ _ (T22.setTop (mkF m 53 _ []))
  refine G1 (fun _ => XS.aloadN X22.here hx rfl (hb hby d1_53) rfl rfl) ?_
  refine G1 (fun _ => XS.iloadN X22.here hx rfl (hb hby d1_54) rfl ) ?_
  obtain ⟨T32, h32, k32, X32, e32, E32, A32, st32⟩ := newP X22 hx hZ (own_at hw 0 rfl) e22 (g := (mkF m 55 #[.val (.ref x0), .val (.int (4 : Int32)), .val (.int (8 : Int32))] [(.int (8 : Int32)), (.ref x0)])) rfl (hb hby d1_55) rfl (by decide) (cap := 8) (by decide) (by decide) (by decide) (by decide)
  obtain ⟨b32, g32⟩ : ∃ z, z = h22.size := ⟨_, rfl⟩
  rw [← g32] at A32 st32
  refine G1 st32 ?_
  have g_b32 : n0 ≤ b32 := Nat.le_trans Z31 (Nat.le_of_eq g32.symm)
  have sz_b32 : h0.size ≤ b32 := Nat.le_trans K31.1 (Nat.le_of_eq g32.symm)
  have ne33 : x0 ≠ b32 := Nat.ne_of_lt (Nat.lt_of_lt_of_le f23.lt (Nat.le_of_eq g32.symm))
  have ne34 : b12 ≠ b32 := Nat.ne_of_lt (Nat.lt_of_lt_of_le f30.lt (Nat.le_of_eq g32.symm))
  have f35 := f23.ext E32
  have f36 := f24.ext E32
  have f37 := f25.ext E32
  have f38 := f26.ext E32
  have f39 := f27.ext E32
  have f40 := f28.ext E32
  have f41 := f29.ext E32
  have f42 := f30.ext E32
  have K43 : Keep h0 h32 [x0] := K31.ext E32
  have Z43 : n0 ≤ h32.size := Nat.le_trans Z31 E32.1
  have V_b32 : ArF Z h32 b32 k32 .int 8 (fun _ => (.int (0 : Int32))) := own_arf (Arv.new A32 (by decide))
  show Goes _ _ _ _ _ _ _ (T32.setTop (mkF m 57 _ [(.ref b32), (.ref x0)]))
  obtain ⟨T44, h44, X44, e44, W44, st44⟩ := putF X32 hx hZ hown (host := "") (Or.inl w_26) Via.refl e32 f37 f41 (Or.inr ⟨w_27, rfl, hnm⟩) w_2 (ty := (.array .int)) (by decide) rfl rfl (g := (mkF m 57 #[.val (.ref x0), .val (.int (4 : Int32)), .val (.int (8 : Int32))] [(.ref b32), (.ref x0)])) rfl rfl (hb hby d1_57)
  refine G1 st44 ?_
  have f45 := f35.other W44 (Or.inr (slot_ne (Or.inr w_12) (Or.inr w_27) (by decide) (t := .int) (t' := (.array .int)) (by decide) (by decide)))
  have f46 := f36.other W44 (Or.inr (slot_ne (Or.inr w_25) (Or.inr w_27) (by decide) (t := (.array (.object "java/lang/Object"))) (t' := (.array .int)) (by decide) (by decide)))
  have f47 := f37.same W44
  have f48 := f38.other W44 (Or.inr (slot_ne (Or.inr w_29) (Or.inr w_27) (by decide) (t := (.array (.object "java/lang/Object"))) (t' := (.array .int)) (by decide) (by decide)))
  have f49 := f39.other W44 (Or.inr (slot_ne (Or.inr w_32) (Or.inr w_27) (by decide) (t := .int) (t' := (.array .int)) (by decide) (by decide)))
  have f50 := f40.other W44 (Or.inr (slot_ne (Or.inl w_64) (Or.inr w_27) (by decide) (t := .int) (t' := (.array .int)) (by decide) (by decide)))
  have f51 := f41.wr W44
  have f52 := f42.other W44 (Ne.symm ne13)
  have f53 := V_b32.other W44 (Ne.symm ne33)
  have K54 : Keep h0 h44 [x0] := K43.wr W44 (Or.inl (List.mem_of_getElem? (i := 0) rfl))
  have Z54 : n0 ≤ h44.size := by rw [Wr.size W44]; exact Z43
  have N54 := Fr.snoc X44 N31 g_x0
  show Goes _ _ _ _ _ _ _ (T44.setTop (mkF m 60 #[.val (.ref x0), .val (.int (4 : Int32)), .val (.int (8 : Int32))] []))
  refine G1 (fun _ => XS.aloadN X44.here hx rfl (hb hby d1_60) rfl rfl) ?_
  refine G1 (fun _ => XS.iloadN X44.here hx rfl (hb hby d1_61) rfl ) ?_
  obtain ⟨T55, h55, k55, X55, e55, E55, A55, O55, st55⟩ := newR X44 hx hZ hown w_22 w_23 e44 (g := (mkF m 62 #[.val (.ref x0), .val (.int (4 : Int32)), .val (.int (8 : Int32))] [(.int (8 : Int32)), (.ref x0)])) rfl (hb hby d1_62) rfl (by decide) (cap := 8) (by decide) (by decide) (by decide) (by decide)
  obtain ⟨b55, g55⟩ : ∃ z, z = h44.size := ⟨_, rfl⟩
  rw [← g55] at A55 st55
  refine G1 st55 ?_
  have g_b55 : n0 ≤ b55 := Nat.le_trans Z54 (Nat.le_of_eq g55.symm)
  have sz_b55 : h0.size ≤ b55 := Nat.le_trans K54.1 (Nat.le_of_eq g55.symm)
  have ne56 : x0 ≠ b55 := Nat.ne_of_lt (Nat.lt_of_lt_of_le f45.lt (Nat.le_of_eq g55.symm))
  have ne57 : b12 ≠ b55 := Nat.ne_of_lt (Nat.lt_of_lt_of_le f52.lt (Nat.le_of_eq g55.symm))
  have ne58 : b32 ≠ b55 := Nat.ne_of_lt (Nat.lt_of_lt_of_le f53.lt (Nat.le_of_eq g55.symm))
  have f59 := f45.ext E55
  have f60 := f46.ext E55
  have f61 := f47.ext E55
  have f62 := f48.ext E55
  have f63 := f49.ext E55
  have f64 := f50.ext E55
  have f65 := f51.ext E55
  have f66 := f52.ext E55
  have f67 := f53.ext E55
  have K68 : Keep h0 h55 [x0] := K54.ext E55
  have Z68 : n0 ≤ h55.size := Nat.le_trans Z54 E55.1
  have V_b55 : ArF Z h55 b55 k55 (.object "java/lang/Object") 8 (fun _ => .null) := own_arf (Arv.new A55 (by decide))
  show Goes _ _ _ _ _ _ _ (T55.setTop (mkF m 65 _ [(.ref b55), (.ref x0)]))
  obtain ⟨T69, h69, X69, e69, W69, st69⟩ := putF X55 hx hZ hown (host := "") (Or.inl w_28) Via.refl e55 f62 f65 (Or.inr ⟨w_29, rfl, hnm⟩) w_2 (ty := (.array (.object "java/lang/Object"))) (by decide) rfl rfl (g := (mkF m 65 #[.val (.ref x0), .val (.int (4 : Int32)), .val (.int (8 : Int32))] [(.ref b55), (.ref x0)])) rfl rfl (hb hby d1_65)
  refine G1 st69 ?_
  have f70 := f59.other W69 (Or.inr (slot_ne (Or.inr w_12) (Or.inr w_29) (by decide) (t := .int) (t' := (.array (.object "java/lang/Object"))) (by decide) (by decide)))
  have f71 := f60.other W69 (Or.inr (slot_ne (Or.inr w_25) (Or.inr w_29) (by decide) (t := (.array (.object "java/lang/Object"))) (t' := (.array (.object "java/lang/Object"))) (by decide) (by decide)))
  have f72 := f61.other W69 (Or.inr (slot_ne (Or.inr w_27) (Or.inr w_29) (by decide) (t := (.array .int)) (t' := (.array (.object "java/lang/Object"))) (by decide) (by decide)))
  have f73 := f62.same W69
  have f74 := f63.other W69 (Or.inr (slot_ne (Or.inr w_32) (Or.inr w_29) (by decide) (t := .int) (t' := (.array (.object "java/lang/Object"))) (by decide) (by decide)))
  have f75 := f64.other W69 (Or.inr (slot_ne (Or.inl w_64) (Or.inr w_29) (by decide) (t := .int) (t' := (.array (.object "java/lang/Object"))) (by decide) (by decide)))
  have f76 := f65.wr W69
  have f77 := f66.other W69 (Ne.symm ne13)
  have f78 := f67.other W69 (Ne.symm ne33)
  have f79 := V_b55.other W69 (Ne.symm ne56)
  have K80 : Keep h0 h69 [x0] := K68.wr W69 (Or.inl (List.mem_of_getElem? (i := 0) rfl))
  have Z80 : n0 ≤ h69.size := by rw [Wr.size W69]; exact Z68
  have N80 := Fr.snoc X69 N54 g_x0
  show Goes _ _ _ _ _ _ _ (T69.setTop (mkF m 68 _ []))
  refine G1 (fun _ => XS.aloadN X69.here hx rfl (hb hby d1_68) rfl rfl) ?_
  refine G1 (fun _ => XS.iloadN X69.here hx rfl (hb hby d1_69) rfl ) ?_
  obtain ⟨_, _, ⟨T81, L81, k81, n81⟩, -, X81, ⟨Lc81, hQ81, l81, y81, z81⟩, st81⟩ := Jvm.LawKit.callS X69 hx (y := mN4) hown (mvT hZ w_30) (mvT hZ w_19) (mvT hZ w_15) (mvT hZ w_20) (by decide) (backOf (W := 1) (rm4_8 l Z a0 hw []  h69 n0 Z80 ) hZ w_20 w_15 (by decide) (by decide)) (g := (mkF m 70 #[.val (.ref x0), .val (.int (4 : Int32)), .val (.int (8 : Int32))] [(.int (8 : Int32)), (.ref x0)])) rfl (by rw [hml]; rfl) (argsL := [(.int (8 : Int32))]) (rest := [(.ref x0)]) (lenOf pd_2 rfl) rfl (by show 2 * 0 + _ ≤ _; exact Nat.le_of_eq rfl) (hb hby d1_70) (fun _ _ => ⟨rfl, e69, (by decide : 3 + 0 ≤ _), (by decide : 24 + 0 ≤ _)⟩)
  dsimp only [Pt.U, Pt.locs, Pt.cells, Pt.slots] at X81 l81 y81 z81 st81 hQ81
  rw [l81, y81, z81] at X81
  obtain ⟨N81, KK81, hR81⟩ := hQ81
  have NA81 := Fr.app N80 N81
  obtain rfl := hR81
  refine G1 st81 ?_
  show Goes _ _ _ _ _ _ _ (T81.setTop (mkF m 73 _ [(.int (28 : Int32)), (.ref x0)]))
  refine G1 (fun _ => XS.iconst X81.here hx rfl (hb hby d1_73)) ?_
  refine G1 (fun _ => XS.iadd X81.here hx rfl (hb hby d1_74) rfl) ?_
  show Goes _ _ _ _ _ _ _ (T81.setTop (mkF m 75 _ [(.int (29 : Int32)), (.ref x0)]))
  obtain ⟨T82, h82, X82, e82, W82, st82⟩ := putF X81 hx hZ hown (host := "") (Or.inl w_31) Via.refl KK81 f74 f76 (Or.inr ⟨w_32, rfl, hnm⟩) w_2 (ty := .int) (by decide) rfl rfl (g := (mkF m 75 #[.val (.ref x0), .val (.int (4 : Int32)), .val (.int (8 : Int32))] [(.int (29 : Int32)), (.ref x0)])) rfl rfl (hb hby d1_75)
  refine G1 st82 ?_
  have f83 := f70.other W82 (Or.inr (slot_ne (Or.inr w_12) (Or.inr w_32) (by decide) (t := .int) (t' := .int) (by decide) (by decide)))
  have f84 := f71.other W82 (Or.inr (slot_ne (Or.inr w_25) (Or.inr w_32) (by decide) (t := (.array (.object "java/lang/Object"))) (t' := .int) (by decide) (by decide)))
  have f85 := f72.other W82 (Or.inr (slot_ne (Or.inr w_27) (Or.inr w_32) (by decide) (t := (.array .int)) (t' := .int) (by decide) (by decide)))
  have f86 := f73.other W82 (Or.inr (slot_ne (Or.inr w_29) (Or.inr w_32) (by decide) (t := (.array (.object "java/lang/Object"))) (t' := .int) (by decide) (by decide)))
  have f87 := f74.same W82
  have f88 := f75.other W82 (Or.inr (slot_ne (Or.inl w_64) (Or.inr w_32) (by decide) (t := .int) (t' := .int) (by decide) (by decide)))
  have f89 := f76.wr W82
  have f90 := f77.other W82 (Ne.symm ne13)
  have f91 := f78.other W82 (Ne.symm ne33)
  have f92 := f79.other W82 (Ne.symm ne56)
  have K93 : Keep h0 h82 [x0] := K80.wr W82 (Or.inl (List.mem_of_getElem? (i := 0) rfl))
  have Z93 : n0 ≤ h82.size := by rw [Wr.size W82]; exact Z80
  have N93 := Fr.snoc X82 NA81 g_x0
  show Goes _ _ _ _ _ _ _ (T82.setTop (mkF m 78 _ []))
  exact Goes.retV X82 hx (BodyLoose.notSynchronized Bd) Bd.returns (hb hby d1_78) (by show Q1_4 Z x0 h0 n0 none T82.heap _; rw [e82]; exact ⟨N93, K93, ⟨b12, b32, b55, k12, k32, k55, rfl, g_b12, sz_b12, g_b32, sz_b32, g_b55, sz_b55, (Ne.symm ne34), (Ne.symm ne57), (Ne.symm ne58), f83, f84, f85, f86, f87, f88, f89, f90, f91, f92, O12, O55⟩⟩) (by decide) (by decide)
theorem own_addz (x : Int32) : x + (0 : Int32) = x := Int32.add_zero x
theorem own_zadd (x : Int32) : (0 : Int32) + x = x := Int32.zero_add x
theorem own_nA {n : Int32} (h : n = 1 ∨ n = 2 ∨ n = 3) : ¬ n = (0 : Int32) ∧ ¬ n < (1 : Int32) := by rcases h with rfl | rfl | rfl <;> decide
theorem own_nB {n : Int32} (h : n = 2 ∨ n = 3) : ¬ n < (2 : Int32) := by rcases h with rfl | rfl <;> decide
theorem pn_0 : plainName "com/example/nehaba/nehaba/input/KeptValuesHoldsPinLaw" = true := by first | (simp [plainName, overriddenIn]; done) | decide +kernel
theorem ef_0 (m : MethodId) (p0 : Int32) (p1 : Int32) (p2 : Int32) (p3 : Int32) (p4 : Int32) (ca : Addr) (cc : Cell)  : entryFrame m #[(.int p0), (.int p1), (.int p2), (.int p3), (.int p4)] maxLocals = mkF m 0 #[.val (.int p0), .val (.int p1), .val (.int p2), .val (.int p3), .val (.int p4), .unset, .unset, .unset, .unset, .unset, .unset, .unset, .unset, .unset, .unset, .unset] [] := by first | (simp [entryFrame, mkF, argsToLocals, Value.category, maxLocals]; done) | rfl
theorem pd_4 : parseMethodDescriptor "(I)Z" = some ⟨[.int], some .boolean⟩ := by decide +kernel
theorem pd_0 : parseMethodDescriptor "(I)V" = some ⟨[.int], none⟩ := by decide +kernel
theorem pd_5 : parseMethodDescriptor "(I)Ljava/lang/Integer;" = some ⟨[.int], some (.object "java/lang/Integer")⟩ := by decide +kernel
theorem pd_6 : parseMethodDescriptor "(ILjava/lang/Object;Ljava/lang/Object;)Ljava/lang/Object;" = some ⟨[.int, (.object "java/lang/Object"), (.object "java/lang/Object")], some (.object "java/lang/Object")⟩ := by decide +kernel
def Q0 (Z : State) (p0 : Int32) (p1 : Int32) (p2 : Int32) (p3 : Int32) (p4 : Int32) (ca : Addr) (cc : Cell) (h0 : Heap) (n0 : Nat) (v : Option Value) (h : Heap) (L : List Loc) : Prop := v = some (.int 1) ∧ Fr n0 L
set_option maxRecDepth 65536 in
set_option maxHeartbeats 40000000 in
theorem rm0 (l : Launch) (Z : State) (a0 : Array Value) (hw : ∀ d ∈ tables_1, d.before a0 Z = true) (ws : List Jvm.Cond) (p0 : Int32) (p1 : Int32) (p2 : Int32) (p3 : Int32) (p4 : Int32) (ca : Addr) (cc : Cell) (h0 : Heap) (n0 : Nat) (Z0 : n0 ≤ h0.size) (S_high : Sta Z Z.heap "java/lang/Integer$IntegerCache" "high" "I" (.int (127 : Int32))) (S_cache : Sta Z Z.heap "java/lang/Integer$IntegerCache" "cache" "[Ljava/lang/Integer;" (.ref ca)) (BX : Bxs Z ca cc "java/lang/Integer" "I" (256 : Int32) (fun j => .int (j - (128 : Int32)))) (X00 : Old Z n0 h0) :
    MetFree l x (head1 (Jvm.Cond.code x code maxLocals ret :: ws) room_1) (fun a U => a = #[(.int p0), (.int p1), (.int p2), (.int p3), (.int p4)] ∧ Z.Warmed39 U.vm ∧ U.heap = h0) (fun _ _ _ _ _ => True) (fun _ U o U' => ∃ v L, o = .returned v ∧ Q0 Z p0 p1 p2 p3 p4 ca cc h0 n0 v U'.heap L ∧ FrameEnd U o U' L room_1.cells room_1.slots) := by
  refine MetFree.of_bodySF (plainFor_of_name pn_0) hisR ?_
  intro p e s m args below meth c s₁ Bd hml0 hP hK
  obtain ⟨rfl, hZ, hh⟩ := hP
  have w_0 := own_at hw 0 rfl
  have w_1 := own_at hw 1 rfl
  have w_2 := own_at hw 2 rfl
  have w_3 := own_at hw 3 rfl
  have w_4 := own_at hw 4 rfl
  have w_5 := own_at hw 5 rfl
  have w_6 := own_at hw 6 rfl
  have w_12 := own_at hw 12 rfl
  have w_15 := own_at hw 15 rfl
  have w_25 := own_at hw 25 rfl
  have w_27 := own_at hw 27 rfl
  have w_29 := own_at hw 29 rfl
  have w_32 := own_at hw 32 rfl
  have w_33 := own_at hw 33 rfl
  have w_34 := own_at hw 34 rfl
  have w_35 := own_at hw 35 rfl
  have w_36 := own_at hw 36 rfl
  have w_37 := own_at hw 37 rfl
  have w_47 := own_at hw 47 rfl
  have w_48 := own_at hw 48 rfl
  have w_49 := own_at hw 49 rfl
  have w_50 := own_at hw 50 rfl
  have w_51 := own_at hw 51 rfl
  have w_52 := own_at hw 52 rfl
  have w_53 := own_at hw 53 rfl
  have w_54 := own_at hw 54 rfl
  have w_58 := own_at hw 58 rfl
  have w_59 := own_at hw 59 rfl
  have w_60 := own_at hw 60 rfl
  have w_61 := own_at hw 61 rfl
  have w_62 := own_at hw 62 rfl
  have w_64 := own_at hw 64 rfl
  have w_65 := own_at hw 65 rfl
  have hx := Bd.exec
  have hby := Bd.bytes
  have hml : c.maxLocals = 16 := hml0
  have hown : s.vm.findClass "com/example/nehaba/nehaba/input/KeptValuesHoldsPinLaw" = some m.cls := findClass_of_methodNamed Bd.named
  have hnm := (name_of_methodNamed Bd.named Bd.method).1
  have X0 : Stand p l e room_1 s m #[(.int p0), (.int p1), (.int p2), (.int p3), (.int p4)] below meth c s₁ [] 0 0 := Stand.of_body Bd
  have e0 : s₁.heap = h0 := by rw [← hh, Bd.state]; rfl
  have N0 := Fr.nil n0
  have K0 : Keep h0 h0 [] := Keep.refl h0 _
  refine (?_ : Goes p e below s room_1.cells room_1.slots (fun v h L => Q0 Z p0 p1 p2 p3 p4 ca cc h0 n0 v h L) (s₁.setTop (entryFrame m #[(.int p0), (.int p1), (.int p2), (.int p3), (.int p4)] maxLocals)))
  rw [ef_0 m p0 p1 p2 p3 p4 ca cc ]
  have J266_2 : ∀ (vm5 vn6 vs7 vq9 vk11 ex : Int32) (vx8 vx12 : Addr) (ka : Addr) (ha : Addr) (va : Addr) (kk : ClassId) (kh : ClassId) (kw : ClassId) (t : Nat → Option Nat) (hf : Nat → Int32) (KA : Nat → Addr) (VA : Nat → Addr) (sz : Int32) (hh : Heap) (T : State) (Lf : List Loc) (X : Stand p l e room_1 s m #[(.int p0), (.int p1), (.int p2), (.int p3), (.int p4)] below meth c T Lf 5 15) (eT : T.heap = hh) (NL : Fr n0 Lf) (hz : n0 ≤ hh.size) (E0 : Exa Z hh vx12 "com/example/nehaba/nehaba/input/KeptValues") (Fk : Fld Z hh vx12 "com/example/nehaba/nehaba/input/KeptValues" "keys" "[Ljava/lang/Object;" (.ref ka)) (Fh : Fld Z hh vx12 "com/example/nehaba/nehaba/input/KeptValues" "hashes" "[I" (.ref ha)) (Fv : Fld Z hh vx12 "com/example/nehaba/nehaba/input/KeptValues" "values" "[Ljava/lang/Object;" (.ref va)) (Fm : Fld Z hh vx12 "com/example/nehaba/nehaba/input/KeptValues" "most" "I" (.int vm5)) (Fz : Fld Z hh vx12 "com/example/nehaba/nehaba/input/KeptValues" "size" "I" (.int sz)) (Fs : Fld Z hh vx12 "com/example/nehaba/nehaba/input/KeptValues" "shift" "I" (.int (31 : Int32))) (Ak : ArF Z hh ka kk (.object "java/lang/Object") 2 (fun j => rfv KA (t j))) (Ah : ArF Z hh ha kh .int 2 (fun j => .int (hf j))) (Av : ArF Z hh va kw (.object "java/lang/Object") 2 (fun j => rfv VA (t j))), own_b (t ((0 : Int32)).toNatClampNeg) + own_b (t ((1 : Int32)).toNatClampNeg) = vk11 → Goes p e below s room_1.cells room_1.slots (fun v h L => Q0 Z p0 p1 p2 p3 p4 ca cc h0 n0 v h L) (T.setTop (mkF m 266 #[.val (.int p0), .val (.int p1), .val (.int p2), .val (.int p3), .val (.int p4), .val (.int vm5), .val (.int vn6), .val (.int vs7), .val (.ref vx8), .val (.int vq9), .val (.int (2 : Int32)), .val (.int vk11), .val (.ref vx12), .val (.int ex), .val (.int ex), .unset] [])) := by
    intro vm5 vn6 vs7 vq9 vk11 ex vx8 vx12 ka ha va kk kh kw t hf KA VA sz hh T Lf X eT NL hz E0 Fk Fh Fv Fm Fz Fs Ak Ah Av hc0
    have J403 : ∀ (ctr : Int32) (T : State) (Lf : List Loc) (X : Stand p l e room_1 s m #[(.int p0), (.int p1), (.int p2), (.int p3), (.int p4)] below meth c T Lf 5 15) (eT : T.heap = hh) (NL : Fr n0 Lf), ctr = vk11 → Goes p e below s room_1.cells room_1.slots (fun v h L => Q0 Z p0 p1 p2 p3 p4 ca cc h0 n0 v h L) (T.setTop (mkF m 403 #[.val (.int p0), .val (.int p1), .val (.int p2), .val (.int p3), .val (.int p4), .val (.int vm5), .val (.int vn6), .val (.int vs7), .val (.ref vx8), .val (.int vq9), .val (.int (2 : Int32)), .val (.int vk11), .val (.ref vx12), .val (.int ex), .val (.int ex), .val (.int ctr)] [])) := by
      intro ctr T Lf X eT NL hc
      refine G1 (fun _ => XS.iload X.here hx rfl (hb hby at_403) rfl ) ?_
      refine G1 (fun _ => XS.iload X.here hx rfl (hb hby at_405) rfl ) ?_
      refine G1 (fun _ => XS.icmpNo X.here hx rfl (hb hby at_407) rfl (teq (rfl : ex = ex)).2) ?_
      show Goes _ _ _ _ _ _ _ (T.setTop (mkF m 410 _ []))
      refine G1 (fun _ => XS.iload X.here hx rfl (hb hby at_410) rfl ) ?_
      refine G1 (fun _ => XS.iload X.here hx rfl (hb hby at_412) rfl ) ?_
      refine G1 (fun _ => XS.icmpNo X.here hx rfl (hb hby at_414) rfl (teq hc).2) ?_
      show Goes _ _ _ _ _ _ _ (T.setTop (mkF m 417 _ []))
      refine G1 (fun _ => XS.iconst X.here hx rfl (hb hby at_417)) ?_
      refine G1 (fun _ => XS.goto X.here hx rfl (pc0 := 418) (pc' := 422) rfl (hb hby at_418) (by decide) (by decide)) ?_
      show Goes _ _ _ _ _ _ _ (T.setTop (mkF m 422 _ [(.int (1 : Int32))]))
      exact Goes.ret X hx (BodyLoose.notSynchronized Bd) Bd.returns rfl (Or.inl ⟨rfl, by simp, _, rfl⟩) (hb hby at_422) (by show Q0 Z p0 p1 p2 p3 p4 ca cc h0 n0 (some (.int (1 : Int32))) T.heap _; rw [eT]; exact ⟨rfl, NL⟩) (by decide) (by decide)
    have J281 : ∀ (ctr : Int32) (T : State) (Lf : List Loc) (X : Stand p l e room_1 s m #[(.int p0), (.int p1), (.int p2), (.int p3), (.int p4)] below meth c T Lf 5 15) (eT : T.heap = hh) (NL : Fr n0 Lf), ctr + own_b (t ((1 : Int32)).toNatClampNeg) = vk11 → Goes p e below s room_1.cells room_1.slots (fun v h L => Q0 Z p0 p1 p2 p3 p4 ca cc h0 n0 v h L) (T.setTop (mkF m 281 #[.val (.int p0), .val (.int p1), .val (.int p2), .val (.int p3), .val (.int p4), .val (.int vm5), .val (.int vn6), .val (.int vs7), .val (.ref vx8), .val (.int vq9), .val (.int (2 : Int32)), .val (.int vk11), .val (.ref vx12), .val (.int ex), .val (.int ex), .val (.int ctr)] [])) := by
      intro ctr T Lf X eT NL hc
      refine G1 (fun _ => XS.aload X.here hx rfl (hb hby at_281) rfl rfl) ?_
      refine G1 (fun _ => XS.iconst X.here hx rfl (hb hby at_283)) ?_
      obtain ⟨cq1, kq1, q1a, q1b, q1c⟩ := isOf hZ eT E0
      obtain ⟨_, _, ⟨T1, L1, k1, n1⟩, -, X1, ⟨Lc1, hQ1, l1, y1, z1⟩, st1⟩ := X.virtualBack hx (y := mN6) (z := mN6) hown (mvT hZ w_47) (mvT hZ w_48) (notFace_of_selects (args := #[]) (mvT hZ w_50)) (mvT hZ w_50) (mvT hZ w_49) (by decide) (backOf (W := 0) (rm8 l Z a0 hw [] vx12 (1 : Int32) ka ha va kk kh kw 2 t hf KA VA (31 : Int32) vm5 sz hh n0 hz E0 Fk Fh Fv Fm Fz Fs Ak Ah Av (by decide) (by decide)) hZ w_51 w_3 (by decide) (by decide)) q1a q1c (g := (mkF m 284 #[.val (.int p0), .val (.int p1), .val (.int p2), .val (.int p3), .val (.int p4), .val (.int vm5), .val (.int vn6), .val (.int vs7), .val (.ref vx8), .val (.int vq9), .val (.int (2 : Int32)), .val (.int vk11), .val (.ref vx12), .val (.int ex), .val (.int ex), .val (.int ctr)] [(.int (1 : Int32)), (.ref vx12)])) rfl (by rw [hml]; rfl) (Steps.refl _) (argsL := [(.int (1 : Int32))]) (rest := []) (lenOf pd_4 rfl) rfl (by show 2 * 0 + _ ≤ _; exact Nat.le_of_eq rfl) (hb hby at_284) (fun _ _ => ⟨rfl, eT, (by decide : 5 + 0 ≤ _), (by decide : 15 + 0 ≤ _)⟩)
      dsimp only [Pt.U, Pt.locs, Pt.cells, Pt.slots] at X1 l1 y1 z1 st1 hQ1
      rw [l1, y1, z1] at X1
      obtain ⟨N1, eh1, hv1⟩ := hQ1
      have NA1 := Fr.app NL N1
      subst hv1
      refine G2 st1 ?_
      show Goes _ _ _ _ _ _ _ (T1.setTop (mkF m 287 _ [(.int (own_b (t ((1 : Int32)).toNatClampNeg)))]))
      by_cases c287_2 : (own_b (t ((1 : Int32)).toNatClampNeg)) = (0 : Int32)
      · refine G1 (fun _ => XS.ifYes X1.here hx rfl (pc0 := 287) (pc' := 293) rfl (hb hby at_287) rfl ((if0 _ _).trans (teq c287_2).1) (by decide) (by decide)) ?_
        show Goes _ _ _ _ _ _ _ (T1.setTop (mkF m 293 _ []))
        refine G1 (fun _ => XS.iload X1.here hx rfl (hb hby at_293) rfl ) ?_
        refine G1 (fun _ => XS.iconst X1.here hx rfl (hb hby at_295)) ?_
        refine G1 (fun _ => XS.icmpYes X1.here hx rfl (pc0 := 296) (pc' := 311) rfl (hb hby at_296) rfl (flt (by decide : ¬ ((2 : Int32) < (2 : Int32)))).2.2.2 (by decide) (by decide)) ?_
        show Goes _ _ _ _ _ _ _ (T1.setTop (mkF m 311 _ []))
        refine G1 (fun _ => XS.iload X1.here hx rfl (hb hby at_311) rfl ) ?_
        refine G1 (fun _ => XS.iconst X1.here hx rfl (hb hby at_313)) ?_
        refine G1 (fun _ => XS.icmpYes X1.here hx rfl (pc0 := 314) (pc' := 329) rfl (hb hby at_314) rfl (flt (by decide : ¬ ((2 : Int32) < (2 : Int32)))).2.2.2 (by decide) (by decide)) ?_
        show Goes _ _ _ _ _ _ _ (T1.setTop (mkF m 329 _ []))
        refine G1 (fun _ => XS.iload X1.here hx rfl (hb hby at_329) rfl ) ?_
        refine G1 (fun _ => XS.iconst X1.here hx rfl (hb hby at_331)) ?_
        refine G1 (fun _ => XS.icmpYes X1.here hx rfl (pc0 := 332) (pc' := 347) rfl (hb hby at_332) rfl (flt (by decide : ¬ ((4 : Int32) < (2 : Int32)))).2.2.2 (by decide) (by decide)) ?_
        show Goes _ _ _ _ _ _ _ (T1.setTop (mkF m 347 _ []))
        refine G1 (fun _ => XS.iload X1.here hx rfl (hb hby at_347) rfl ) ?_
        refine G1 (fun _ => XS.iconst X1.here hx rfl (hb hby at_349)) ?_
        refine G1 (fun _ => XS.icmpYes X1.here hx rfl (pc0 := 350) (pc' := 365) rfl (hb hby at_350) rfl (flt (by decide : ¬ ((4 : Int32) < (2 : Int32)))).2.2.2 (by decide) (by decide)) ?_
        show Goes _ _ _ _ _ _ _ (T1.setTop (mkF m 365 _ []))
        refine G1 (fun _ => XS.iload X1.here hx rfl (hb hby at_365) rfl ) ?_
        refine G1 (fun _ => XS.iconst X1.here hx rfl (hb hby at_367)) ?_
        refine G1 (fun _ => XS.icmpYes X1.here hx rfl (pc0 := 368) (pc' := 384) rfl (hb hby at_368) rfl (flt (by decide : ¬ ((4 : Int32) < (2 : Int32)))).2.2.2 (by decide) (by decide)) ?_
        show Goes _ _ _ _ _ _ _ (T1.setTop (mkF m 384 _ []))
        refine G1 (fun _ => XS.iload X1.here hx rfl (hb hby at_384) rfl ) ?_
        refine G1 (fun _ => XS.iconst X1.here hx rfl (hb hby at_386)) ?_
        refine G1 (fun _ => XS.icmpYes X1.here hx rfl (pc0 := 387) (pc' := 403) rfl (hb hby at_387) rfl (flt (by decide : ¬ ((4 : Int32) < (2 : Int32)))).2.2.2 (by decide) (by decide)) ?_
        show Goes _ _ _ _ _ _ _ (T1.setTop (mkF m 403 _ []))
        show Goes _ _ _ _ _ _ _ (T1.setTop (mkF m 403 #[.val (.int p0), .val (.int p1), .val (.int p2), .val (.int p3), .val (.int p4), .val (.int vm5), .val (.int vn6), .val (.int vs7), .val (.ref vx8), .val (.int vq9), .val (.int (2 : Int32)), .val (.int vk11), .val (.ref vx12), .val (.int ex), .val (.int ex), .val (.int ctr)] []))
        exact J403 _ _ _ X1 eh1 NA1 (by rw [c287_2, own_addz] at hc; exact hc)
      · refine G1 (fun _ => XS.ifNo X1.here hx rfl (hb hby at_287) rfl ((if0 _ _).trans (feq c287_2).1)) ?_
        show Goes _ _ _ _ _ _ _ (T1.setTop (mkF m 290 _ []))
        refine G1 (fun _ => XS.iinc X1.here hx rfl (hb hby at_290) rfl (l' := #[.val (.int p0), .val (.int p1), .val (.int p2), .val (.int p3), .val (.int p4), .val (.int vm5), .val (.int vn6), .val (.int vs7), .val (.ref vx8), .val (.int vq9), .val (.int (2 : Int32)), .val (.int vk11), .val (.ref vx12), .val (.int ex), .val (.int ex), .val (.int (ctr + (1 : Int32)))]) rfl) ?_
        show Goes _ _ _ _ _ _ _ (T1.setTop (mkF m 293 _ []))
        refine G1 (fun _ => XS.iload X1.here hx rfl (hb hby at_293) rfl ) ?_
        refine G1 (fun _ => XS.iconst X1.here hx rfl (hb hby at_295)) ?_
        refine G1 (fun _ => XS.icmpYes X1.here hx rfl (pc0 := 296) (pc' := 311) rfl (hb hby at_296) rfl (flt (by decide : ¬ ((2 : Int32) < (2 : Int32)))).2.2.2 (by decide) (by decide)) ?_
        show Goes _ _ _ _ _ _ _ (T1.setTop (mkF m 311 _ []))
        refine G1 (fun _ => XS.iload X1.here hx rfl (hb hby at_311) rfl ) ?_
        refine G1 (fun _ => XS.iconst X1.here hx rfl (hb hby at_313)) ?_
        refine G1 (fun _ => XS.icmpYes X1.here hx rfl (pc0 := 314) (pc' := 329) rfl (hb hby at_314) rfl (flt (by decide : ¬ ((2 : Int32) < (2 : Int32)))).2.2.2 (by decide) (by decide)) ?_
        show Goes _ _ _ _ _ _ _ (T1.setTop (mkF m 329 _ []))
        refine G1 (fun _ => XS.iload X1.here hx rfl (hb hby at_329) rfl ) ?_
        refine G1 (fun _ => XS.iconst X1.here hx rfl (hb hby at_331)) ?_
        refine G1 (fun _ => XS.icmpYes X1.here hx rfl (pc0 := 332) (pc' := 347) rfl (hb hby at_332) rfl (flt (by decide : ¬ ((4 : Int32) < (2 : Int32)))).2.2.2 (by decide) (by decide)) ?_
        show Goes _ _ _ _ _ _ _ (T1.setTop (mkF m 347 _ []))
        refine G1 (fun _ => XS.iload X1.here hx rfl (hb hby at_347) rfl ) ?_
        refine G1 (fun _ => XS.iconst X1.here hx rfl (hb hby at_349)) ?_
        refine G1 (fun _ => XS.icmpYes X1.here hx rfl (pc0 := 350) (pc' := 365) rfl (hb hby at_350) rfl (flt (by decide : ¬ ((4 : Int32) < (2 : Int32)))).2.2.2 (by decide) (by decide)) ?_
        show Goes _ _ _ _ _ _ _ (T1.setTop (mkF m 365 _ []))
        refine G1 (fun _ => XS.iload X1.here hx rfl (hb hby at_365) rfl ) ?_
        refine G1 (fun _ => XS.iconst X1.here hx rfl (hb hby at_367)) ?_
        refine G1 (fun _ => XS.icmpYes X1.here hx rfl (pc0 := 368) (pc' := 384) rfl (hb hby at_368) rfl (flt (by decide : ¬ ((4 : Int32) < (2 : Int32)))).2.2.2 (by decide) (by decide)) ?_
        show Goes _ _ _ _ _ _ _ (T1.setTop (mkF m 384 _ []))
        refine G1 (fun _ => XS.iload X1.here hx rfl (hb hby at_384) rfl ) ?_
        refine G1 (fun _ => XS.iconst X1.here hx rfl (hb hby at_386)) ?_
        refine G1 (fun _ => XS.icmpYes X1.here hx rfl (pc0 := 387) (pc' := 403) rfl (hb hby at_387) rfl (flt (by decide : ¬ ((4 : Int32) < (2 : Int32)))).2.2.2 (by decide) (by decide)) ?_
        show Goes _ _ _ _ _ _ _ (T1.setTop (mkF m 403 _ []))
        show Goes _ _ _ _ _ _ _ (T1.setTop (mkF m 403 #[.val (.int p0), .val (.int p1), .val (.int p2), .val (.int p3), .val (.int p4), .val (.int vm5), .val (.int vn6), .val (.int vs7), .val (.ref vx8), .val (.int vq9), .val (.int (2 : Int32)), .val (.int vk11), .val (.ref vx12), .val (.int ex), .val (.int ex), .val (.int (ctr + (1 : Int32)))] []))
        exact J403 _ _ _ X1 eh1 NA1 (by rw [own_bne c287_2] at hc; exact hc)
    have J269 : ∀ (ctr : Int32) (T : State) (Lf : List Loc) (X : Stand p l e room_1 s m #[(.int p0), (.int p1), (.int p2), (.int p3), (.int p4)] below meth c T Lf 5 15) (eT : T.heap = hh) (NL : Fr n0 Lf), ctr + own_b (t ((0 : Int32)).toNatClampNeg) + own_b (t ((1 : Int32)).toNatClampNeg) = vk11 → Goes p e below s room_1.cells room_1.slots (fun v h L => Q0 Z p0 p1 p2 p3 p4 ca cc h0 n0 v h L) (T.setTop (mkF m 269 #[.val (.int p0), .val (.int p1), .val (.int p2), .val (.int p3), .val (.int p4), .val (.int vm5), .val (.int vn6), .val (.int vs7), .val (.ref vx8), .val (.int vq9), .val (.int (2 : Int32)), .val (.int vk11), .val (.ref vx12), .val (.int ex), .val (.int ex), .val (.int ctr)] [])) := by
      intro ctr T Lf X eT NL hc
      refine G1 (fun _ => XS.aload X.here hx rfl (hb hby at_269) rfl rfl) ?_
      refine G1 (fun _ => XS.iconst X.here hx rfl (hb hby at_271)) ?_
      obtain ⟨cq3, kq3, q3a, q3b, q3c⟩ := isOf hZ eT E0
      obtain ⟨_, _, ⟨T3, L3, k3, n3⟩, -, X3, ⟨Lc3, hQ3, l3, y3, z3⟩, st3⟩ := X.virtualBack hx (y := mN6) (z := mN6) hown (mvT hZ w_47) (mvT hZ w_48) (notFace_of_selects (args := #[]) (mvT hZ w_50)) (mvT hZ w_50) (mvT hZ w_49) (by decide) (backOf (W := 0) (rm8 l Z a0 hw [] vx12 (0 : Int32) ka ha va kk kh kw 2 t hf KA VA (31 : Int32) vm5 sz hh n0 hz E0 Fk Fh Fv Fm Fz Fs Ak Ah Av (by decide) (by decide)) hZ w_51 w_3 (by decide) (by decide)) q3a q3c (g := (mkF m 272 #[.val (.int p0), .val (.int p1), .val (.int p2), .val (.int p3), .val (.int p4), .val (.int vm5), .val (.int vn6), .val (.int vs7), .val (.ref vx8), .val (.int vq9), .val (.int (2 : Int32)), .val (.int vk11), .val (.ref vx12), .val (.int ex), .val (.int ex), .val (.int ctr)] [(.int (0 : Int32)), (.ref vx12)])) rfl (by rw [hml]; rfl) (Steps.refl _) (argsL := [(.int (0 : Int32))]) (rest := []) (lenOf pd_4 rfl) rfl (by show 2 * 0 + _ ≤ _; exact Nat.le_of_eq rfl) (hb hby at_272) (fun _ _ => ⟨rfl, eT, (by decide : 5 + 0 ≤ _), (by decide : 15 + 0 ≤ _)⟩)
      dsimp only [Pt.U, Pt.locs, Pt.cells, Pt.slots] at X3 l3 y3 z3 st3 hQ3
      rw [l3, y3, z3] at X3
      obtain ⟨N3, eh3, hv3⟩ := hQ3
      have NA3 := Fr.app NL N3
      subst hv3
      refine G2 st3 ?_
      show Goes _ _ _ _ _ _ _ (T3.setTop (mkF m 275 _ [(.int (own_b (t ((0 : Int32)).toNatClampNeg)))]))
      by_cases c275_4 : (own_b (t ((0 : Int32)).toNatClampNeg)) = (0 : Int32)
      · refine G1 (fun _ => XS.ifYes X3.here hx rfl (pc0 := 275) (pc' := 281) rfl (hb hby at_275) rfl ((if0 _ _).trans (teq c275_4).1) (by decide) (by decide)) ?_
        show Goes _ _ _ _ _ _ _ (T3.setTop (mkF m 281 _ []))
        show Goes _ _ _ _ _ _ _ (T3.setTop (mkF m 281 #[.val (.int p0), .val (.int p1), .val (.int p2), .val (.int p3), .val (.int p4), .val (.int vm5), .val (.int vn6), .val (.int vs7), .val (.ref vx8), .val (.int vq9), .val (.int (2 : Int32)), .val (.int vk11), .val (.ref vx12), .val (.int ex), .val (.int ex), .val (.int ctr)] []))
        exact J281 _ _ _ X3 eh3 NA3 (by rw [c275_4, own_addz] at hc; exact hc)
      · refine G1 (fun _ => XS.ifNo X3.here hx rfl (hb hby at_275) rfl ((if0 _ _).trans (feq c275_4).1)) ?_
        show Goes _ _ _ _ _ _ _ (T3.setTop (mkF m 278 _ []))
        refine G1 (fun _ => XS.iinc X3.here hx rfl (hb hby at_278) rfl (l' := #[.val (.int p0), .val (.int p1), .val (.int p2), .val (.int p3), .val (.int p4), .val (.int vm5), .val (.int vn6), .val (.int vs7), .val (.ref vx8), .val (.int vq9), .val (.int (2 : Int32)), .val (.int vk11), .val (.ref vx12), .val (.int ex), .val (.int ex), .val (.int (ctr + (1 : Int32)))]) rfl) ?_
        show Goes _ _ _ _ _ _ _ (T3.setTop (mkF m 281 _ []))
        show Goes _ _ _ _ _ _ _ (T3.setTop (mkF m 281 #[.val (.int p0), .val (.int p1), .val (.int p2), .val (.int p3), .val (.int p4), .val (.int vm5), .val (.int vn6), .val (.int vs7), .val (.ref vx8), .val (.int vq9), .val (.int (2 : Int32)), .val (.int vk11), .val (.ref vx12), .val (.int ex), .val (.int ex), .val (.int (ctr + (1 : Int32)))] []))
        exact J281 _ _ _ X3 eh3 NA3 (by rw [own_bne c275_4] at hc; exact hc)
    refine G1 (fun _ => XS.iconst X.here hx rfl (hb hby at_266)) ?_
    refine G1 (fun _ => XS.istore X.here hx rfl (hb hby at_267) rfl (l' := #[.val (.int p0), .val (.int p1), .val (.int p2), .val (.int p3), .val (.int p4), .val (.int vm5), .val (.int vn6), .val (.int vs7), .val (.ref vx8), .val (.int vq9), .val (.int (2 : Int32)), .val (.int vk11), .val (.ref vx12), .val (.int ex), .val (.int ex), .val (.int (0 : Int32))]) rfl) ?_
    show Goes _ _ _ _ _ _ _ (T.setTop (mkF m 269 _ []))
    show Goes _ _ _ _ _ _ _ (T.setTop (mkF m 269 #[.val (.int p0), .val (.int p1), .val (.int p2), .val (.int p3), .val (.int p4), .val (.int vm5), .val (.int vn6), .val (.int vs7), .val (.ref vx8), .val (.int vq9), .val (.int (2 : Int32)), .val (.int vk11), .val (.ref vx12), .val (.int ex), .val (.int ex), .val (.int (0 : Int32))] []))
    exact J269 _ _ _ X eT NL (by rw [own_zadd]; exact hc0)
  have J266_4 : ∀ (vm5 vn6 vs7 vq9 vk11 ex : Int32) (vx8 vx12 : Addr) (ka : Addr) (ha : Addr) (va : Addr) (kk : ClassId) (kh : ClassId) (kw : ClassId) (t : Nat → Option Nat) (hf : Nat → Int32) (KA : Nat → Addr) (VA : Nat → Addr) (sz : Int32) (hh : Heap) (T : State) (Lf : List Loc) (X : Stand p l e room_1 s m #[(.int p0), (.int p1), (.int p2), (.int p3), (.int p4)] below meth c T Lf 5 21) (eT : T.heap = hh) (NL : Fr n0 Lf) (hz : n0 ≤ hh.size) (E0 : Exa Z hh vx12 "com/example/nehaba/nehaba/input/KeptValues") (Fk : Fld Z hh vx12 "com/example/nehaba/nehaba/input/KeptValues" "keys" "[Ljava/lang/Object;" (.ref ka)) (Fh : Fld Z hh vx12 "com/example/nehaba/nehaba/input/KeptValues" "hashes" "[I" (.ref ha)) (Fv : Fld Z hh vx12 "com/example/nehaba/nehaba/input/KeptValues" "values" "[Ljava/lang/Object;" (.ref va)) (Fm : Fld Z hh vx12 "com/example/nehaba/nehaba/input/KeptValues" "most" "I" (.int vm5)) (Fz : Fld Z hh vx12 "com/example/nehaba/nehaba/input/KeptValues" "size" "I" (.int sz)) (Fs : Fld Z hh vx12 "com/example/nehaba/nehaba/input/KeptValues" "shift" "I" (.int (30 : Int32))) (Ak : ArF Z hh ka kk (.object "java/lang/Object") 4 (fun j => rfv KA (t j))) (Ah : ArF Z hh ha kh .int 4 (fun j => .int (hf j))) (Av : ArF Z hh va kw (.object "java/lang/Object") 4 (fun j => rfv VA (t j))), own_b (t ((0 : Int32)).toNatClampNeg) + own_b (t ((1 : Int32)).toNatClampNeg) + own_b (t ((2 : Int32)).toNatClampNeg) + own_b (t ((3 : Int32)).toNatClampNeg) = vk11 → Goes p e below s room_1.cells room_1.slots (fun v h L => Q0 Z p0 p1 p2 p3 p4 ca cc h0 n0 v h L) (T.setTop (mkF m 266 #[.val (.int p0), .val (.int p1), .val (.int p2), .val (.int p3), .val (.int p4), .val (.int vm5), .val (.int vn6), .val (.int vs7), .val (.ref vx8), .val (.int vq9), .val (.int (4 : Int32)), .val (.int vk11), .val (.ref vx12), .val (.int ex), .val (.int ex), .unset] [])) := by
    intro vm5 vn6 vs7 vq9 vk11 ex vx8 vx12 ka ha va kk kh kw t hf KA VA sz hh T Lf X eT NL hz E0 Fk Fh Fv Fm Fz Fs Ak Ah Av hc0
    have J403 : ∀ (ctr : Int32) (T : State) (Lf : List Loc) (X : Stand p l e room_1 s m #[(.int p0), (.int p1), (.int p2), (.int p3), (.int p4)] below meth c T Lf 5 21) (eT : T.heap = hh) (NL : Fr n0 Lf), ctr = vk11 → Goes p e below s room_1.cells room_1.slots (fun v h L => Q0 Z p0 p1 p2 p3 p4 ca cc h0 n0 v h L) (T.setTop (mkF m 403 #[.val (.int p0), .val (.int p1), .val (.int p2), .val (.int p3), .val (.int p4), .val (.int vm5), .val (.int vn6), .val (.int vs7), .val (.ref vx8), .val (.int vq9), .val (.int (4 : Int32)), .val (.int vk11), .val (.ref vx12), .val (.int ex), .val (.int ex), .val (.int ctr)] [])) := by
      intro ctr T Lf X eT NL hc
      refine G1 (fun _ => XS.iload X.here hx rfl (hb hby at_403) rfl ) ?_
      refine G1 (fun _ => XS.iload X.here hx rfl (hb hby at_405) rfl ) ?_
      refine G1 (fun _ => XS.icmpNo X.here hx rfl (hb hby at_407) rfl (teq (rfl : ex = ex)).2) ?_
      show Goes _ _ _ _ _ _ _ (T.setTop (mkF m 410 _ []))
      refine G1 (fun _ => XS.iload X.here hx rfl (hb hby at_410) rfl ) ?_
      refine G1 (fun _ => XS.iload X.here hx rfl (hb hby at_412) rfl ) ?_
      refine G1 (fun _ => XS.icmpNo X.here hx rfl (hb hby at_414) rfl (teq hc).2) ?_
      show Goes _ _ _ _ _ _ _ (T.setTop (mkF m 417 _ []))
      refine G1 (fun _ => XS.iconst X.here hx rfl (hb hby at_417)) ?_
      refine G1 (fun _ => XS.goto X.here hx rfl (pc0 := 418) (pc' := 422) rfl (hb hby at_418) (by decide) (by decide)) ?_
      show Goes _ _ _ _ _ _ _ (T.setTop (mkF m 422 _ [(.int (1 : Int32))]))
      exact Goes.ret X hx (BodyLoose.notSynchronized Bd) Bd.returns rfl (Or.inl ⟨rfl, by simp, _, rfl⟩) (hb hby at_422) (by show Q0 Z p0 p1 p2 p3 p4 ca cc h0 n0 (some (.int (1 : Int32))) T.heap _; rw [eT]; exact ⟨rfl, NL⟩) (by decide) (by decide)
    have J311 : ∀ (ctr : Int32) (T : State) (Lf : List Loc) (X : Stand p l e room_1 s m #[(.int p0), (.int p1), (.int p2), (.int p3), (.int p4)] below meth c T Lf 5 21) (eT : T.heap = hh) (NL : Fr n0 Lf), ctr + own_b (t ((3 : Int32)).toNatClampNeg) = vk11 → Goes p e below s room_1.cells room_1.slots (fun v h L => Q0 Z p0 p1 p2 p3 p4 ca cc h0 n0 v h L) (T.setTop (mkF m 311 #[.val (.int p0), .val (.int p1), .val (.int p2), .val (.int p3), .val (.int p4), .val (.int vm5), .val (.int vn6), .val (.int vs7), .val (.ref vx8), .val (.int vq9), .val (.int (4 : Int32)), .val (.int vk11), .val (.ref vx12), .val (.int ex), .val (.int ex), .val (.int ctr)] [])) := by
      intro ctr T Lf X eT NL hc
      refine G1 (fun _ => XS.iload X.here hx rfl (hb hby at_311) rfl ) ?_
      refine G1 (fun _ => XS.iconst X.here hx rfl (hb hby at_313)) ?_
      refine G1 (fun _ => XS.icmpNo X.here hx rfl (hb hby at_314) rfl (tlt (by decide : (2 : Int32) < (4 : Int32))).2.2.2) ?_
      show Goes _ _ _ _ _ _ _ (T.setTop (mkF m 317 _ []))
      refine G1 (fun _ => XS.aload X.here hx rfl (hb hby at_317) rfl rfl) ?_
      refine G1 (fun _ => XS.iconst X.here hx rfl (hb hby at_319)) ?_
      obtain ⟨cq5, kq5, q5a, q5b, q5c⟩ := isOf hZ eT E0
      obtain ⟨_, _, ⟨T5, L5, k5, n5⟩, -, X5, ⟨Lc5, hQ5, l5, y5, z5⟩, st5⟩ := X.virtualBack hx (y := mN6) (z := mN6) hown (mvT hZ w_47) (mvT hZ w_48) (notFace_of_selects (args := #[]) (mvT hZ w_50)) (mvT hZ w_50) (mvT hZ w_49) (by decide) (backOf (W := 0) (rm8 l Z a0 hw [] vx12 (3 : Int32) ka ha va kk kh kw 4 t hf KA VA (30 : Int32) vm5 sz hh n0 hz E0 Fk Fh Fv Fm Fz Fs Ak Ah Av (by decide) (by decide)) hZ w_51 w_3 (by decide) (by decide)) q5a q5c (g := (mkF m 320 #[.val (.int p0), .val (.int p1), .val (.int p2), .val (.int p3), .val (.int p4), .val (.int vm5), .val (.int vn6), .val (.int vs7), .val (.ref vx8), .val (.int vq9), .val (.int (4 : Int32)), .val (.int vk11), .val (.ref vx12), .val (.int ex), .val (.int ex), .val (.int ctr)] [(.int (3 : Int32)), (.ref vx12)])) rfl (by rw [hml]; rfl) (Steps.refl _) (argsL := [(.int (3 : Int32))]) (rest := []) (lenOf pd_4 rfl) rfl (by show 2 * 0 + _ ≤ _; exact Nat.le_of_eq rfl) (hb hby at_320) (fun _ _ => ⟨rfl, eT, (by decide : 5 + 0 ≤ _), (by decide : 21 + 0 ≤ _)⟩)
      dsimp only [Pt.U, Pt.locs, Pt.cells, Pt.slots] at X5 l5 y5 z5 st5 hQ5
      rw [l5, y5, z5] at X5
      obtain ⟨N5, eh5, hv5⟩ := hQ5
      have NA5 := Fr.app NL N5
      subst hv5
      refine G2 st5 ?_
      show Goes _ _ _ _ _ _ _ (T5.setTop (mkF m 323 _ [(.int (own_b (t ((3 : Int32)).toNatClampNeg)))]))
      by_cases c323_6 : (own_b (t ((3 : Int32)).toNatClampNeg)) = (0 : Int32)
      · refine G1 (fun _ => XS.ifYes X5.here hx rfl (pc0 := 323) (pc' := 329) rfl (hb hby at_323) rfl ((if0 _ _).trans (teq c323_6).1) (by decide) (by decide)) ?_
        show Goes _ _ _ _ _ _ _ (T5.setTop (mkF m 329 _ []))
        refine G1 (fun _ => XS.iload X5.here hx rfl (hb hby at_329) rfl ) ?_
        refine G1 (fun _ => XS.iconst X5.here hx rfl (hb hby at_331)) ?_
        refine G1 (fun _ => XS.icmpYes X5.here hx rfl (pc0 := 332) (pc' := 347) rfl (hb hby at_332) rfl (flt (by decide : ¬ ((4 : Int32) < (4 : Int32)))).2.2.2 (by decide) (by decide)) ?_
        show Goes _ _ _ _ _ _ _ (T5.setTop (mkF m 347 _ []))
        refine G1 (fun _ => XS.iload X5.here hx rfl (hb hby at_347) rfl ) ?_
        refine G1 (fun _ => XS.iconst X5.here hx rfl (hb hby at_349)) ?_
        refine G1 (fun _ => XS.icmpYes X5.here hx rfl (pc0 := 350) (pc' := 365) rfl (hb hby at_350) rfl (flt (by decide : ¬ ((4 : Int32) < (4 : Int32)))).2.2.2 (by decide) (by decide)) ?_
        show Goes _ _ _ _ _ _ _ (T5.setTop (mkF m 365 _ []))
        refine G1 (fun _ => XS.iload X5.here hx rfl (hb hby at_365) rfl ) ?_
        refine G1 (fun _ => XS.iconst X5.here hx rfl (hb hby at_367)) ?_
        refine G1 (fun _ => XS.icmpYes X5.here hx rfl (pc0 := 368) (pc' := 384) rfl (hb hby at_368) rfl (flt (by decide : ¬ ((4 : Int32) < (4 : Int32)))).2.2.2 (by decide) (by decide)) ?_
        show Goes _ _ _ _ _ _ _ (T5.setTop (mkF m 384 _ []))
        refine G1 (fun _ => XS.iload X5.here hx rfl (hb hby at_384) rfl ) ?_
        refine G1 (fun _ => XS.iconst X5.here hx rfl (hb hby at_386)) ?_
        refine G1 (fun _ => XS.icmpYes X5.here hx rfl (pc0 := 387) (pc' := 403) rfl (hb hby at_387) rfl (flt (by decide : ¬ ((4 : Int32) < (4 : Int32)))).2.2.2 (by decide) (by decide)) ?_
        show Goes _ _ _ _ _ _ _ (T5.setTop (mkF m 403 _ []))
        show Goes _ _ _ _ _ _ _ (T5.setTop (mkF m 403 #[.val (.int p0), .val (.int p1), .val (.int p2), .val (.int p3), .val (.int p4), .val (.int vm5), .val (.int vn6), .val (.int vs7), .val (.ref vx8), .val (.int vq9), .val (.int (4 : Int32)), .val (.int vk11), .val (.ref vx12), .val (.int ex), .val (.int ex), .val (.int ctr)] []))
        exact J403 _ _ _ X5 eh5 NA5 (by rw [c323_6, own_addz] at hc; exact hc)
      · refine G1 (fun _ => XS.ifNo X5.here hx rfl (hb hby at_323) rfl ((if0 _ _).trans (feq c323_6).1)) ?_
        show Goes _ _ _ _ _ _ _ (T5.setTop (mkF m 326 _ []))
        refine G1 (fun _ => XS.iinc X5.here hx rfl (hb hby at_326) rfl (l' := #[.val (.int p0), .val (.int p1), .val (.int p2), .val (.int p3), .val (.int p4), .val (.int vm5), .val (.int vn6), .val (.int vs7), .val (.ref vx8), .val (.int vq9), .val (.int (4 : Int32)), .val (.int vk11), .val (.ref vx12), .val (.int ex), .val (.int ex), .val (.int (ctr + (1 : Int32)))]) rfl) ?_
        show Goes _ _ _ _ _ _ _ (T5.setTop (mkF m 329 _ []))
        refine G1 (fun _ => XS.iload X5.here hx rfl (hb hby at_329) rfl ) ?_
        refine G1 (fun _ => XS.iconst X5.here hx rfl (hb hby at_331)) ?_
        refine G1 (fun _ => XS.icmpYes X5.here hx rfl (pc0 := 332) (pc' := 347) rfl (hb hby at_332) rfl (flt (by decide : ¬ ((4 : Int32) < (4 : Int32)))).2.2.2 (by decide) (by decide)) ?_
        show Goes _ _ _ _ _ _ _ (T5.setTop (mkF m 347 _ []))
        refine G1 (fun _ => XS.iload X5.here hx rfl (hb hby at_347) rfl ) ?_
        refine G1 (fun _ => XS.iconst X5.here hx rfl (hb hby at_349)) ?_
        refine G1 (fun _ => XS.icmpYes X5.here hx rfl (pc0 := 350) (pc' := 365) rfl (hb hby at_350) rfl (flt (by decide : ¬ ((4 : Int32) < (4 : Int32)))).2.2.2 (by decide) (by decide)) ?_
        show Goes _ _ _ _ _ _ _ (T5.setTop (mkF m 365 _ []))
        refine G1 (fun _ => XS.iload X5.here hx rfl (hb hby at_365) rfl ) ?_
        refine G1 (fun _ => XS.iconst X5.here hx rfl (hb hby at_367)) ?_
        refine G1 (fun _ => XS.icmpYes X5.here hx rfl (pc0 := 368) (pc' := 384) rfl (hb hby at_368) rfl (flt (by decide : ¬ ((4 : Int32) < (4 : Int32)))).2.2.2 (by decide) (by decide)) ?_
        show Goes _ _ _ _ _ _ _ (T5.setTop (mkF m 384 _ []))
        refine G1 (fun _ => XS.iload X5.here hx rfl (hb hby at_384) rfl ) ?_
        refine G1 (fun _ => XS.iconst X5.here hx rfl (hb hby at_386)) ?_
        refine G1 (fun _ => XS.icmpYes X5.here hx rfl (pc0 := 387) (pc' := 403) rfl (hb hby at_387) rfl (flt (by decide : ¬ ((4 : Int32) < (4 : Int32)))).2.2.2 (by decide) (by decide)) ?_
        show Goes _ _ _ _ _ _ _ (T5.setTop (mkF m 403 _ []))
        show Goes _ _ _ _ _ _ _ (T5.setTop (mkF m 403 #[.val (.int p0), .val (.int p1), .val (.int p2), .val (.int p3), .val (.int p4), .val (.int vm5), .val (.int vn6), .val (.int vs7), .val (.ref vx8), .val (.int vq9), .val (.int (4 : Int32)), .val (.int vk11), .val (.ref vx12), .val (.int ex), .val (.int ex), .val (.int (ctr + (1 : Int32)))] []))
        exact J403 _ _ _ X5 eh5 NA5 (by rw [own_bne c323_6] at hc; exact hc)
    have J293 : ∀ (ctr : Int32) (T : State) (Lf : List Loc) (X : Stand p l e room_1 s m #[(.int p0), (.int p1), (.int p2), (.int p3), (.int p4)] below meth c T Lf 5 21) (eT : T.heap = hh) (NL : Fr n0 Lf), ctr + own_b (t ((2 : Int32)).toNatClampNeg) + own_b (t ((3 : Int32)).toNatClampNeg) = vk11 → Goes p e below s room_1.cells room_1.slots (fun v h L => Q0 Z p0 p1 p2 p3 p4 ca cc h0 n0 v h L) (T.setTop (mkF m 293 #[.val (.int p0), .val (.int p1), .val (.int p2), .val (.int p3), .val (.int p4), .val (.int vm5), .val (.int vn6), .val (.int vs7), .val (.ref vx8), .val (.int vq9), .val (.int (4 : Int32)), .val (.int vk11), .val (.ref vx12), .val (.int ex), .val (.int ex), .val (.int ctr)] [])) := by
      intro ctr T Lf X eT NL hc
      refine G1 (fun _ => XS.iload X.here hx rfl (hb hby at_293) rfl ) ?_
      refine G1 (fun _ => XS.iconst X.here hx rfl (hb hby at_295)) ?_
      refine G1 (fun _ => XS.icmpNo X.here hx rfl (hb hby at_296) rfl (tlt (by decide : (2 : Int32) < (4 : Int32))).2.2.2) ?_
      show Goes _ _ _ _ _ _ _ (T.setTop (mkF m 299 _ []))
      refine G1 (fun _ => XS.aload X.here hx rfl (hb hby at_299) rfl rfl) ?_
      refine G1 (fun _ => XS.iconst X.here hx rfl (hb hby at_301)) ?_
      obtain ⟨cq7, kq7, q7a, q7b, q7c⟩ := isOf hZ eT E0
      obtain ⟨_, _, ⟨T7, L7, k7, n7⟩, -, X7, ⟨Lc7, hQ7, l7, y7, z7⟩, st7⟩ := X.virtualBack hx (y := mN6) (z := mN6) hown (mvT hZ w_47) (mvT hZ w_48) (notFace_of_selects (args := #[]) (mvT hZ w_50)) (mvT hZ w_50) (mvT hZ w_49) (by decide) (backOf (W := 0) (rm8 l Z a0 hw [] vx12 (2 : Int32) ka ha va kk kh kw 4 t hf KA VA (30 : Int32) vm5 sz hh n0 hz E0 Fk Fh Fv Fm Fz Fs Ak Ah Av (by decide) (by decide)) hZ w_51 w_3 (by decide) (by decide)) q7a q7c (g := (mkF m 302 #[.val (.int p0), .val (.int p1), .val (.int p2), .val (.int p3), .val (.int p4), .val (.int vm5), .val (.int vn6), .val (.int vs7), .val (.ref vx8), .val (.int vq9), .val (.int (4 : Int32)), .val (.int vk11), .val (.ref vx12), .val (.int ex), .val (.int ex), .val (.int ctr)] [(.int (2 : Int32)), (.ref vx12)])) rfl (by rw [hml]; rfl) (Steps.refl _) (argsL := [(.int (2 : Int32))]) (rest := []) (lenOf pd_4 rfl) rfl (by show 2 * 0 + _ ≤ _; exact Nat.le_of_eq rfl) (hb hby at_302) (fun _ _ => ⟨rfl, eT, (by decide : 5 + 0 ≤ _), (by decide : 21 + 0 ≤ _)⟩)
      dsimp only [Pt.U, Pt.locs, Pt.cells, Pt.slots] at X7 l7 y7 z7 st7 hQ7
      rw [l7, y7, z7] at X7
      obtain ⟨N7, eh7, hv7⟩ := hQ7
      have NA7 := Fr.app NL N7
      subst hv7
      refine G2 st7 ?_
      show Goes _ _ _ _ _ _ _ (T7.setTop (mkF m 305 _ [(.int (own_b (t ((2 : Int32)).toNatClampNeg)))]))
      by_cases c305_8 : (own_b (t ((2 : Int32)).toNatClampNeg)) = (0 : Int32)
      · refine G1 (fun _ => XS.ifYes X7.here hx rfl (pc0 := 305) (pc' := 311) rfl (hb hby at_305) rfl ((if0 _ _).trans (teq c305_8).1) (by decide) (by decide)) ?_
        show Goes _ _ _ _ _ _ _ (T7.setTop (mkF m 311 _ []))
        show Goes _ _ _ _ _ _ _ (T7.setTop (mkF m 311 #[.val (.int p0), .val (.int p1), .val (.int p2), .val (.int p3), .val (.int p4), .val (.int vm5), .val (.int vn6), .val (.int vs7), .val (.ref vx8), .val (.int vq9), .val (.int (4 : Int32)), .val (.int vk11), .val (.ref vx12), .val (.int ex), .val (.int ex), .val (.int ctr)] []))
        exact J311 _ _ _ X7 eh7 NA7 (by rw [c305_8, own_addz] at hc; exact hc)
      · refine G1 (fun _ => XS.ifNo X7.here hx rfl (hb hby at_305) rfl ((if0 _ _).trans (feq c305_8).1)) ?_
        show Goes _ _ _ _ _ _ _ (T7.setTop (mkF m 308 _ []))
        refine G1 (fun _ => XS.iinc X7.here hx rfl (hb hby at_308) rfl (l' := #[.val (.int p0), .val (.int p1), .val (.int p2), .val (.int p3), .val (.int p4), .val (.int vm5), .val (.int vn6), .val (.int vs7), .val (.ref vx8), .val (.int vq9), .val (.int (4 : Int32)), .val (.int vk11), .val (.ref vx12), .val (.int ex), .val (.int ex), .val (.int (ctr + (1 : Int32)))]) rfl) ?_
        show Goes _ _ _ _ _ _ _ (T7.setTop (mkF m 311 _ []))
        show Goes _ _ _ _ _ _ _ (T7.setTop (mkF m 311 #[.val (.int p0), .val (.int p1), .val (.int p2), .val (.int p3), .val (.int p4), .val (.int vm5), .val (.int vn6), .val (.int vs7), .val (.ref vx8), .val (.int vq9), .val (.int (4 : Int32)), .val (.int vk11), .val (.ref vx12), .val (.int ex), .val (.int ex), .val (.int (ctr + (1 : Int32)))] []))
        exact J311 _ _ _ X7 eh7 NA7 (by rw [own_bne c305_8] at hc; exact hc)
    have J281 : ∀ (ctr : Int32) (T : State) (Lf : List Loc) (X : Stand p l e room_1 s m #[(.int p0), (.int p1), (.int p2), (.int p3), (.int p4)] below meth c T Lf 5 21) (eT : T.heap = hh) (NL : Fr n0 Lf), ctr + own_b (t ((1 : Int32)).toNatClampNeg) + own_b (t ((2 : Int32)).toNatClampNeg) + own_b (t ((3 : Int32)).toNatClampNeg) = vk11 → Goes p e below s room_1.cells room_1.slots (fun v h L => Q0 Z p0 p1 p2 p3 p4 ca cc h0 n0 v h L) (T.setTop (mkF m 281 #[.val (.int p0), .val (.int p1), .val (.int p2), .val (.int p3), .val (.int p4), .val (.int vm5), .val (.int vn6), .val (.int vs7), .val (.ref vx8), .val (.int vq9), .val (.int (4 : Int32)), .val (.int vk11), .val (.ref vx12), .val (.int ex), .val (.int ex), .val (.int ctr)] [])) := by
      intro ctr T Lf X eT NL hc
      refine G1 (fun _ => XS.aload X.here hx rfl (hb hby at_281) rfl rfl) ?_
      refine G1 (fun _ => XS.iconst X.here hx rfl (hb hby at_283)) ?_
      obtain ⟨cq9, kq9, q9a, q9b, q9c⟩ := isOf hZ eT E0
      obtain ⟨_, _, ⟨T9, L9, k9, n9⟩, -, X9, ⟨Lc9, hQ9, l9, y9, z9⟩, st9⟩ := X.virtualBack hx (y := mN6) (z := mN6) hown (mvT hZ w_47) (mvT hZ w_48) (notFace_of_selects (args := #[]) (mvT hZ w_50)) (mvT hZ w_50) (mvT hZ w_49) (by decide) (backOf (W := 0) (rm8 l Z a0 hw [] vx12 (1 : Int32) ka ha va kk kh kw 4 t hf KA VA (30 : Int32) vm5 sz hh n0 hz E0 Fk Fh Fv Fm Fz Fs Ak Ah Av (by decide) (by decide)) hZ w_51 w_3 (by decide) (by decide)) q9a q9c (g := (mkF m 284 #[.val (.int p0), .val (.int p1), .val (.int p2), .val (.int p3), .val (.int p4), .val (.int vm5), .val (.int vn6), .val (.int vs7), .val (.ref vx8), .val (.int vq9), .val (.int (4 : Int32)), .val (.int vk11), .val (.ref vx12), .val (.int ex), .val (.int ex), .val (.int ctr)] [(.int (1 : Int32)), (.ref vx12)])) rfl (by rw [hml]; rfl) (Steps.refl _) (argsL := [(.int (1 : Int32))]) (rest := []) (lenOf pd_4 rfl) rfl (by show 2 * 0 + _ ≤ _; exact Nat.le_of_eq rfl) (hb hby at_284) (fun _ _ => ⟨rfl, eT, (by decide : 5 + 0 ≤ _), (by decide : 21 + 0 ≤ _)⟩)
      dsimp only [Pt.U, Pt.locs, Pt.cells, Pt.slots] at X9 l9 y9 z9 st9 hQ9
      rw [l9, y9, z9] at X9
      obtain ⟨N9, eh9, hv9⟩ := hQ9
      have NA9 := Fr.app NL N9
      subst hv9
      refine G2 st9 ?_
      show Goes _ _ _ _ _ _ _ (T9.setTop (mkF m 287 _ [(.int (own_b (t ((1 : Int32)).toNatClampNeg)))]))
      by_cases c287_10 : (own_b (t ((1 : Int32)).toNatClampNeg)) = (0 : Int32)
      · refine G1 (fun _ => XS.ifYes X9.here hx rfl (pc0 := 287) (pc' := 293) rfl (hb hby at_287) rfl ((if0 _ _).trans (teq c287_10).1) (by decide) (by decide)) ?_
        show Goes _ _ _ _ _ _ _ (T9.setTop (mkF m 293 _ []))
        show Goes _ _ _ _ _ _ _ (T9.setTop (mkF m 293 #[.val (.int p0), .val (.int p1), .val (.int p2), .val (.int p3), .val (.int p4), .val (.int vm5), .val (.int vn6), .val (.int vs7), .val (.ref vx8), .val (.int vq9), .val (.int (4 : Int32)), .val (.int vk11), .val (.ref vx12), .val (.int ex), .val (.int ex), .val (.int ctr)] []))
        exact J293 _ _ _ X9 eh9 NA9 (by rw [c287_10, own_addz] at hc; exact hc)
      · refine G1 (fun _ => XS.ifNo X9.here hx rfl (hb hby at_287) rfl ((if0 _ _).trans (feq c287_10).1)) ?_
        show Goes _ _ _ _ _ _ _ (T9.setTop (mkF m 290 _ []))
        refine G1 (fun _ => XS.iinc X9.here hx rfl (hb hby at_290) rfl (l' := #[.val (.int p0), .val (.int p1), .val (.int p2), .val (.int p3), .val (.int p4), .val (.int vm5), .val (.int vn6), .val (.int vs7), .val (.ref vx8), .val (.int vq9), .val (.int (4 : Int32)), .val (.int vk11), .val (.ref vx12), .val (.int ex), .val (.int ex), .val (.int (ctr + (1 : Int32)))]) rfl) ?_
        show Goes _ _ _ _ _ _ _ (T9.setTop (mkF m 293 _ []))
        show Goes _ _ _ _ _ _ _ (T9.setTop (mkF m 293 #[.val (.int p0), .val (.int p1), .val (.int p2), .val (.int p3), .val (.int p4), .val (.int vm5), .val (.int vn6), .val (.int vs7), .val (.ref vx8), .val (.int vq9), .val (.int (4 : Int32)), .val (.int vk11), .val (.ref vx12), .val (.int ex), .val (.int ex), .val (.int (ctr + (1 : Int32)))] []))
        exact J293 _ _ _ X9 eh9 NA9 (by rw [own_bne c287_10] at hc; exact hc)
    have J269 : ∀ (ctr : Int32) (T : State) (Lf : List Loc) (X : Stand p l e room_1 s m #[(.int p0), (.int p1), (.int p2), (.int p3), (.int p4)] below meth c T Lf 5 21) (eT : T.heap = hh) (NL : Fr n0 Lf), ctr + own_b (t ((0 : Int32)).toNatClampNeg) + own_b (t ((1 : Int32)).toNatClampNeg) + own_b (t ((2 : Int32)).toNatClampNeg) + own_b (t ((3 : Int32)).toNatClampNeg) = vk11 → Goes p e below s room_1.cells room_1.slots (fun v h L => Q0 Z p0 p1 p2 p3 p4 ca cc h0 n0 v h L) (T.setTop (mkF m 269 #[.val (.int p0), .val (.int p1), .val (.int p2), .val (.int p3), .val (.int p4), .val (.int vm5), .val (.int vn6), .val (.int vs7), .val (.ref vx8), .val (.int vq9), .val (.int (4 : Int32)), .val (.int vk11), .val (.ref vx12), .val (.int ex), .val (.int ex), .val (.int ctr)] [])) := by
      intro ctr T Lf X eT NL hc
      refine G1 (fun _ => XS.aload X.here hx rfl (hb hby at_269) rfl rfl) ?_
      refine G1 (fun _ => XS.iconst X.here hx rfl (hb hby at_271)) ?_
      obtain ⟨cq11, kq11, q11a, q11b, q11c⟩ := isOf hZ eT E0
      obtain ⟨_, _, ⟨T11, L11, k11, n11⟩, -, X11, ⟨Lc11, hQ11, l11, y11, z11⟩, st11⟩ := X.virtualBack hx (y := mN6) (z := mN6) hown (mvT hZ w_47) (mvT hZ w_48) (notFace_of_selects (args := #[]) (mvT hZ w_50)) (mvT hZ w_50) (mvT hZ w_49) (by decide) (backOf (W := 0) (rm8 l Z a0 hw [] vx12 (0 : Int32) ka ha va kk kh kw 4 t hf KA VA (30 : Int32) vm5 sz hh n0 hz E0 Fk Fh Fv Fm Fz Fs Ak Ah Av (by decide) (by decide)) hZ w_51 w_3 (by decide) (by decide)) q11a q11c (g := (mkF m 272 #[.val (.int p0), .val (.int p1), .val (.int p2), .val (.int p3), .val (.int p4), .val (.int vm5), .val (.int vn6), .val (.int vs7), .val (.ref vx8), .val (.int vq9), .val (.int (4 : Int32)), .val (.int vk11), .val (.ref vx12), .val (.int ex), .val (.int ex), .val (.int ctr)] [(.int (0 : Int32)), (.ref vx12)])) rfl (by rw [hml]; rfl) (Steps.refl _) (argsL := [(.int (0 : Int32))]) (rest := []) (lenOf pd_4 rfl) rfl (by show 2 * 0 + _ ≤ _; exact Nat.le_of_eq rfl) (hb hby at_272) (fun _ _ => ⟨rfl, eT, (by decide : 5 + 0 ≤ _), (by decide : 21 + 0 ≤ _)⟩)
      dsimp only [Pt.U, Pt.locs, Pt.cells, Pt.slots] at X11 l11 y11 z11 st11 hQ11
      rw [l11, y11, z11] at X11
      obtain ⟨N11, eh11, hv11⟩ := hQ11
      have NA11 := Fr.app NL N11
      subst hv11
      refine G2 st11 ?_
      show Goes _ _ _ _ _ _ _ (T11.setTop (mkF m 275 _ [(.int (own_b (t ((0 : Int32)).toNatClampNeg)))]))
      by_cases c275_12 : (own_b (t ((0 : Int32)).toNatClampNeg)) = (0 : Int32)
      · refine G1 (fun _ => XS.ifYes X11.here hx rfl (pc0 := 275) (pc' := 281) rfl (hb hby at_275) rfl ((if0 _ _).trans (teq c275_12).1) (by decide) (by decide)) ?_
        show Goes _ _ _ _ _ _ _ (T11.setTop (mkF m 281 _ []))
        show Goes _ _ _ _ _ _ _ (T11.setTop (mkF m 281 #[.val (.int p0), .val (.int p1), .val (.int p2), .val (.int p3), .val (.int p4), .val (.int vm5), .val (.int vn6), .val (.int vs7), .val (.ref vx8), .val (.int vq9), .val (.int (4 : Int32)), .val (.int vk11), .val (.ref vx12), .val (.int ex), .val (.int ex), .val (.int ctr)] []))
        exact J281 _ _ _ X11 eh11 NA11 (by rw [c275_12, own_addz] at hc; exact hc)
      · refine G1 (fun _ => XS.ifNo X11.here hx rfl (hb hby at_275) rfl ((if0 _ _).trans (feq c275_12).1)) ?_
        show Goes _ _ _ _ _ _ _ (T11.setTop (mkF m 278 _ []))
        refine G1 (fun _ => XS.iinc X11.here hx rfl (hb hby at_278) rfl (l' := #[.val (.int p0), .val (.int p1), .val (.int p2), .val (.int p3), .val (.int p4), .val (.int vm5), .val (.int vn6), .val (.int vs7), .val (.ref vx8), .val (.int vq9), .val (.int (4 : Int32)), .val (.int vk11), .val (.ref vx12), .val (.int ex), .val (.int ex), .val (.int (ctr + (1 : Int32)))]) rfl) ?_
        show Goes _ _ _ _ _ _ _ (T11.setTop (mkF m 281 _ []))
        show Goes _ _ _ _ _ _ _ (T11.setTop (mkF m 281 #[.val (.int p0), .val (.int p1), .val (.int p2), .val (.int p3), .val (.int p4), .val (.int vm5), .val (.int vn6), .val (.int vs7), .val (.ref vx8), .val (.int vq9), .val (.int (4 : Int32)), .val (.int vk11), .val (.ref vx12), .val (.int ex), .val (.int ex), .val (.int (ctr + (1 : Int32)))] []))
        exact J281 _ _ _ X11 eh11 NA11 (by rw [own_bne c275_12] at hc; exact hc)
    refine G1 (fun _ => XS.iconst X.here hx rfl (hb hby at_266)) ?_
    refine G1 (fun _ => XS.istore X.here hx rfl (hb hby at_267) rfl (l' := #[.val (.int p0), .val (.int p1), .val (.int p2), .val (.int p3), .val (.int p4), .val (.int vm5), .val (.int vn6), .val (.int vs7), .val (.ref vx8), .val (.int vq9), .val (.int (4 : Int32)), .val (.int vk11), .val (.ref vx12), .val (.int ex), .val (.int ex), .val (.int (0 : Int32))]) rfl) ?_
    show Goes _ _ _ _ _ _ _ (T.setTop (mkF m 269 _ []))
    show Goes _ _ _ _ _ _ _ (T.setTop (mkF m 269 #[.val (.int p0), .val (.int p1), .val (.int p2), .val (.int p3), .val (.int p4), .val (.int vm5), .val (.int vn6), .val (.int vs7), .val (.ref vx8), .val (.int vq9), .val (.int (4 : Int32)), .val (.int vk11), .val (.ref vx12), .val (.int ex), .val (.int ex), .val (.int (0 : Int32))] []))
    exact J269 _ _ _ X eT NL (by rw [own_zadd]; exact hc0)
  have J266_8 : ∀ (vm5 vn6 vs7 vq9 vk11 ex : Int32) (vx8 vx12 : Addr) (ka : Addr) (ha : Addr) (va : Addr) (kk : ClassId) (kh : ClassId) (kw : ClassId) (t : Nat → Option Nat) (hf : Nat → Int32) (KA : Nat → Addr) (VA : Nat → Addr) (sz : Int32) (hh : Heap) (T : State) (Lf : List Loc) (X : Stand p l e room_1 s m #[(.int p0), (.int p1), (.int p2), (.int p3), (.int p4)] below meth c T Lf 5 33) (eT : T.heap = hh) (NL : Fr n0 Lf) (hz : n0 ≤ hh.size) (E0 : Exa Z hh vx12 "com/example/nehaba/nehaba/input/KeptValues") (Fk : Fld Z hh vx12 "com/example/nehaba/nehaba/input/KeptValues" "keys" "[Ljava/lang/Object;" (.ref ka)) (Fh : Fld Z hh vx12 "com/example/nehaba/nehaba/input/KeptValues" "hashes" "[I" (.ref ha)) (Fv : Fld Z hh vx12 "com/example/nehaba/nehaba/input/KeptValues" "values" "[Ljava/lang/Object;" (.ref va)) (Fm : Fld Z hh vx12 "com/example/nehaba/nehaba/input/KeptValues" "most" "I" (.int vm5)) (Fz : Fld Z hh vx12 "com/example/nehaba/nehaba/input/KeptValues" "size" "I" (.int sz)) (Fs : Fld Z hh vx12 "com/example/nehaba/nehaba/input/KeptValues" "shift" "I" (.int (29 : Int32))) (Ak : ArF Z hh ka kk (.object "java/lang/Object") 8 (fun j => rfv KA (t j))) (Ah : ArF Z hh ha kh .int 8 (fun j => .int (hf j))) (Av : ArF Z hh va kw (.object "java/lang/Object") 8 (fun j => rfv VA (t j))), own_b (t ((0 : Int32)).toNatClampNeg) + own_b (t ((1 : Int32)).toNatClampNeg) + own_b (t ((2 : Int32)).toNatClampNeg) + own_b (t ((3 : Int32)).toNatClampNeg) + own_b (t ((4 : Int32)).toNatClampNeg) + own_b (t ((5 : Int32)).toNatClampNeg) + own_b (t ((6 : Int32)).toNatClampNeg) + own_b (t ((7 : Int32)).toNatClampNeg) = vk11 → Goes p e below s room_1.cells room_1.slots (fun v h L => Q0 Z p0 p1 p2 p3 p4 ca cc h0 n0 v h L) (T.setTop (mkF m 266 #[.val (.int p0), .val (.int p1), .val (.int p2), .val (.int p3), .val (.int p4), .val (.int vm5), .val (.int vn6), .val (.int vs7), .val (.ref vx8), .val (.int vq9), .val (.int (8 : Int32)), .val (.int vk11), .val (.ref vx12), .val (.int ex), .val (.int ex), .unset] [])) := by
    intro vm5 vn6 vs7 vq9 vk11 ex vx8 vx12 ka ha va kk kh kw t hf KA VA sz hh T Lf X eT NL hz E0 Fk Fh Fv Fm Fz Fs Ak Ah Av hc0
    have J403 : ∀ (ctr : Int32) (T : State) (Lf : List Loc) (X : Stand p l e room_1 s m #[(.int p0), (.int p1), (.int p2), (.int p3), (.int p4)] below meth c T Lf 5 33) (eT : T.heap = hh) (NL : Fr n0 Lf), ctr = vk11 → Goes p e below s room_1.cells room_1.slots (fun v h L => Q0 Z p0 p1 p2 p3 p4 ca cc h0 n0 v h L) (T.setTop (mkF m 403 #[.val (.int p0), .val (.int p1), .val (.int p2), .val (.int p3), .val (.int p4), .val (.int vm5), .val (.int vn6), .val (.int vs7), .val (.ref vx8), .val (.int vq9), .val (.int (8 : Int32)), .val (.int vk11), .val (.ref vx12), .val (.int ex), .val (.int ex), .val (.int ctr)] [])) := by
      intro ctr T Lf X eT NL hc
      refine G1 (fun _ => XS.iload X.here hx rfl (hb hby at_403) rfl ) ?_
      refine G1 (fun _ => XS.iload X.here hx rfl (hb hby at_405) rfl ) ?_
      refine G1 (fun _ => XS.icmpNo X.here hx rfl (hb hby at_407) rfl (teq (rfl : ex = ex)).2) ?_
      show Goes _ _ _ _ _ _ _ (T.setTop (mkF m 410 _ []))
      refine G1 (fun _ => XS.iload X.here hx rfl (hb hby at_410) rfl ) ?_
      refine G1 (fun _ => XS.iload X.here hx rfl (hb hby at_412) rfl ) ?_
      refine G1 (fun _ => XS.icmpNo X.here hx rfl (hb hby at_414) rfl (teq hc).2) ?_
      show Goes _ _ _ _ _ _ _ (T.setTop (mkF m 417 _ []))
      refine G1 (fun _ => XS.iconst X.here hx rfl (hb hby at_417)) ?_
      refine G1 (fun _ => XS.goto X.here hx rfl (pc0 := 418) (pc' := 422) rfl (hb hby at_418) (by decide) (by decide)) ?_
      show Goes _ _ _ _ _ _ _ (T.setTop (mkF m 422 _ [(.int (1 : Int32))]))
      exact Goes.ret X hx (BodyLoose.notSynchronized Bd) Bd.returns rfl (Or.inl ⟨rfl, by simp, _, rfl⟩) (hb hby at_422) (by show Q0 Z p0 p1 p2 p3 p4 ca cc h0 n0 (some (.int (1 : Int32))) T.heap _; rw [eT]; exact ⟨rfl, NL⟩) (by decide) (by decide)
    have J384 : ∀ (ctr : Int32) (T : State) (Lf : List Loc) (X : Stand p l e room_1 s m #[(.int p0), (.int p1), (.int p2), (.int p3), (.int p4)] below meth c T Lf 5 33) (eT : T.heap = hh) (NL : Fr n0 Lf), ctr + own_b (t ((7 : Int32)).toNatClampNeg) = vk11 → Goes p e below s room_1.cells room_1.slots (fun v h L => Q0 Z p0 p1 p2 p3 p4 ca cc h0 n0 v h L) (T.setTop (mkF m 384 #[.val (.int p0), .val (.int p1), .val (.int p2), .val (.int p3), .val (.int p4), .val (.int vm5), .val (.int vn6), .val (.int vs7), .val (.ref vx8), .val (.int vq9), .val (.int (8 : Int32)), .val (.int vk11), .val (.ref vx12), .val (.int ex), .val (.int ex), .val (.int ctr)] [])) := by
      intro ctr T Lf X eT NL hc
      refine G1 (fun _ => XS.iload X.here hx rfl (hb hby at_384) rfl ) ?_
      refine G1 (fun _ => XS.iconst X.here hx rfl (hb hby at_386)) ?_
      refine G1 (fun _ => XS.icmpNo X.here hx rfl (hb hby at_387) rfl (tlt (by decide : (4 : Int32) < (8 : Int32))).2.2.2) ?_
      show Goes _ _ _ _ _ _ _ (T.setTop (mkF m 390 _ []))
      refine G1 (fun _ => XS.aload X.here hx rfl (hb hby at_390) rfl rfl) ?_
      refine G1 (fun _ => XS.bipush X.here hx rfl (hb hby at_392)) ?_
      obtain ⟨cq13, kq13, q13a, q13b, q13c⟩ := isOf hZ eT E0
      obtain ⟨_, _, ⟨T13, L13, k13, n13⟩, -, X13, ⟨Lc13, hQ13, l13, y13, z13⟩, st13⟩ := X.virtualBack hx (y := mN6) (z := mN6) hown (mvT hZ w_47) (mvT hZ w_48) (notFace_of_selects (args := #[]) (mvT hZ w_50)) (mvT hZ w_50) (mvT hZ w_49) (by decide) (backOf (W := 0) (rm8 l Z a0 hw [] vx12 (7 : Int32) ka ha va kk kh kw 8 t hf KA VA (29 : Int32) vm5 sz hh n0 hz E0 Fk Fh Fv Fm Fz Fs Ak Ah Av (by decide) (by decide)) hZ w_51 w_3 (by decide) (by decide)) q13a q13c (g := (mkF m 394 #[.val (.int p0), .val (.int p1), .val (.int p2), .val (.int p3), .val (.int p4), .val (.int vm5), .val (.int vn6), .val (.int vs7), .val (.ref vx8), .val (.int vq9), .val (.int (8 : Int32)), .val (.int vk11), .val (.ref vx12), .val (.int ex), .val (.int ex), .val (.int ctr)] [(.int (7 : Int32)), (.ref vx12)])) rfl (by rw [hml]; rfl) (Steps.refl _) (argsL := [(.int (7 : Int32))]) (rest := []) (lenOf pd_4 rfl) rfl (by show 2 * 0 + _ ≤ _; exact Nat.le_of_eq rfl) (hb hby at_394) (fun _ _ => ⟨rfl, eT, (by decide : 5 + 0 ≤ _), (by decide : 33 + 0 ≤ _)⟩)
      dsimp only [Pt.U, Pt.locs, Pt.cells, Pt.slots] at X13 l13 y13 z13 st13 hQ13
      rw [l13, y13, z13] at X13
      obtain ⟨N13, eh13, hv13⟩ := hQ13
      have NA13 := Fr.app NL N13
      subst hv13
      refine G2 st13 ?_
      show Goes _ _ _ _ _ _ _ (T13.setTop (mkF m 397 _ [(.int (own_b (t ((7 : Int32)).toNatClampNeg)))]))
      by_cases c397_14 : (own_b (t ((7 : Int32)).toNatClampNeg)) = (0 : Int32)
      · refine G1 (fun _ => XS.ifYes X13.here hx rfl (pc0 := 397) (pc' := 403) rfl (hb hby at_397) rfl ((if0 _ _).trans (teq c397_14).1) (by decide) (by decide)) ?_
        show Goes _ _ _ _ _ _ _ (T13.setTop (mkF m 403 _ []))
        show Goes _ _ _ _ _ _ _ (T13.setTop (mkF m 403 #[.val (.int p0), .val (.int p1), .val (.int p2), .val (.int p3), .val (.int p4), .val (.int vm5), .val (.int vn6), .val (.int vs7), .val (.ref vx8), .val (.int vq9), .val (.int (8 : Int32)), .val (.int vk11), .val (.ref vx12), .val (.int ex), .val (.int ex), .val (.int ctr)] []))
        exact J403 _ _ _ X13 eh13 NA13 (by rw [c397_14, own_addz] at hc; exact hc)
      · refine G1 (fun _ => XS.ifNo X13.here hx rfl (hb hby at_397) rfl ((if0 _ _).trans (feq c397_14).1)) ?_
        show Goes _ _ _ _ _ _ _ (T13.setTop (mkF m 400 _ []))
        refine G1 (fun _ => XS.iinc X13.here hx rfl (hb hby at_400) rfl (l' := #[.val (.int p0), .val (.int p1), .val (.int p2), .val (.int p3), .val (.int p4), .val (.int vm5), .val (.int vn6), .val (.int vs7), .val (.ref vx8), .val (.int vq9), .val (.int (8 : Int32)), .val (.int vk11), .val (.ref vx12), .val (.int ex), .val (.int ex), .val (.int (ctr + (1 : Int32)))]) rfl) ?_
        show Goes _ _ _ _ _ _ _ (T13.setTop (mkF m 403 _ []))
        show Goes _ _ _ _ _ _ _ (T13.setTop (mkF m 403 #[.val (.int p0), .val (.int p1), .val (.int p2), .val (.int p3), .val (.int p4), .val (.int vm5), .val (.int vn6), .val (.int vs7), .val (.ref vx8), .val (.int vq9), .val (.int (8 : Int32)), .val (.int vk11), .val (.ref vx12), .val (.int ex), .val (.int ex), .val (.int (ctr + (1 : Int32)))] []))
        exact J403 _ _ _ X13 eh13 NA13 (by rw [own_bne c397_14] at hc; exact hc)
    have J365 : ∀ (ctr : Int32) (T : State) (Lf : List Loc) (X : Stand p l e room_1 s m #[(.int p0), (.int p1), (.int p2), (.int p3), (.int p4)] below meth c T Lf 5 33) (eT : T.heap = hh) (NL : Fr n0 Lf), ctr + own_b (t ((6 : Int32)).toNatClampNeg) + own_b (t ((7 : Int32)).toNatClampNeg) = vk11 → Goes p e below s room_1.cells room_1.slots (fun v h L => Q0 Z p0 p1 p2 p3 p4 ca cc h0 n0 v h L) (T.setTop (mkF m 365 #[.val (.int p0), .val (.int p1), .val (.int p2), .val (.int p3), .val (.int p4), .val (.int vm5), .val (.int vn6), .val (.int vs7), .val (.ref vx8), .val (.int vq9), .val (.int (8 : Int32)), .val (.int vk11), .val (.ref vx12), .val (.int ex), .val (.int ex), .val (.int ctr)] [])) := by
      intro ctr T Lf X eT NL hc
      refine G1 (fun _ => XS.iload X.here hx rfl (hb hby at_365) rfl ) ?_
      refine G1 (fun _ => XS.iconst X.here hx rfl (hb hby at_367)) ?_
      refine G1 (fun _ => XS.icmpNo X.here hx rfl (hb hby at_368) rfl (tlt (by decide : (4 : Int32) < (8 : Int32))).2.2.2) ?_
      show Goes _ _ _ _ _ _ _ (T.setTop (mkF m 371 _ []))
      refine G1 (fun _ => XS.aload X.here hx rfl (hb hby at_371) rfl rfl) ?_
      refine G1 (fun _ => XS.bipush X.here hx rfl (hb hby at_373)) ?_
      obtain ⟨cq15, kq15, q15a, q15b, q15c⟩ := isOf hZ eT E0
      obtain ⟨_, _, ⟨T15, L15, k15, n15⟩, -, X15, ⟨Lc15, hQ15, l15, y15, z15⟩, st15⟩ := X.virtualBack hx (y := mN6) (z := mN6) hown (mvT hZ w_47) (mvT hZ w_48) (notFace_of_selects (args := #[]) (mvT hZ w_50)) (mvT hZ w_50) (mvT hZ w_49) (by decide) (backOf (W := 0) (rm8 l Z a0 hw [] vx12 (6 : Int32) ka ha va kk kh kw 8 t hf KA VA (29 : Int32) vm5 sz hh n0 hz E0 Fk Fh Fv Fm Fz Fs Ak Ah Av (by decide) (by decide)) hZ w_51 w_3 (by decide) (by decide)) q15a q15c (g := (mkF m 375 #[.val (.int p0), .val (.int p1), .val (.int p2), .val (.int p3), .val (.int p4), .val (.int vm5), .val (.int vn6), .val (.int vs7), .val (.ref vx8), .val (.int vq9), .val (.int (8 : Int32)), .val (.int vk11), .val (.ref vx12), .val (.int ex), .val (.int ex), .val (.int ctr)] [(.int (6 : Int32)), (.ref vx12)])) rfl (by rw [hml]; rfl) (Steps.refl _) (argsL := [(.int (6 : Int32))]) (rest := []) (lenOf pd_4 rfl) rfl (by show 2 * 0 + _ ≤ _; exact Nat.le_of_eq rfl) (hb hby at_375) (fun _ _ => ⟨rfl, eT, (by decide : 5 + 0 ≤ _), (by decide : 33 + 0 ≤ _)⟩)
      dsimp only [Pt.U, Pt.locs, Pt.cells, Pt.slots] at X15 l15 y15 z15 st15 hQ15
      rw [l15, y15, z15] at X15
      obtain ⟨N15, eh15, hv15⟩ := hQ15
      have NA15 := Fr.app NL N15
      subst hv15
      refine G2 st15 ?_
      show Goes _ _ _ _ _ _ _ (T15.setTop (mkF m 378 _ [(.int (own_b (t ((6 : Int32)).toNatClampNeg)))]))
      by_cases c378_16 : (own_b (t ((6 : Int32)).toNatClampNeg)) = (0 : Int32)
      · refine G1 (fun _ => XS.ifYes X15.here hx rfl (pc0 := 378) (pc' := 384) rfl (hb hby at_378) rfl ((if0 _ _).trans (teq c378_16).1) (by decide) (by decide)) ?_
        show Goes _ _ _ _ _ _ _ (T15.setTop (mkF m 384 _ []))
        show Goes _ _ _ _ _ _ _ (T15.setTop (mkF m 384 #[.val (.int p0), .val (.int p1), .val (.int p2), .val (.int p3), .val (.int p4), .val (.int vm5), .val (.int vn6), .val (.int vs7), .val (.ref vx8), .val (.int vq9), .val (.int (8 : Int32)), .val (.int vk11), .val (.ref vx12), .val (.int ex), .val (.int ex), .val (.int ctr)] []))
        exact J384 _ _ _ X15 eh15 NA15 (by rw [c378_16, own_addz] at hc; exact hc)
      · refine G1 (fun _ => XS.ifNo X15.here hx rfl (hb hby at_378) rfl ((if0 _ _).trans (feq c378_16).1)) ?_
        show Goes _ _ _ _ _ _ _ (T15.setTop (mkF m 381 _ []))
        refine G1 (fun _ => XS.iinc X15.here hx rfl (hb hby at_381) rfl (l' := #[.val (.int p0), .val (.int p1), .val (.int p2), .val (.int p3), .val (.int p4), .val (.int vm5), .val (.int vn6), .val (.int vs7), .val (.ref vx8), .val (.int vq9), .val (.int (8 : Int32)), .val (.int vk11), .val (.ref vx12), .val (.int ex), .val (.int ex), .val (.int (ctr + (1 : Int32)))]) rfl) ?_
        show Goes _ _ _ _ _ _ _ (T15.setTop (mkF m 384 _ []))
        show Goes _ _ _ _ _ _ _ (T15.setTop (mkF m 384 #[.val (.int p0), .val (.int p1), .val (.int p2), .val (.int p3), .val (.int p4), .val (.int vm5), .val (.int vn6), .val (.int vs7), .val (.ref vx8), .val (.int vq9), .val (.int (8 : Int32)), .val (.int vk11), .val (.ref vx12), .val (.int ex), .val (.int ex), .val (.int (ctr + (1 : Int32)))] []))
        exact J384 _ _ _ X15 eh15 NA15 (by rw [own_bne c378_16] at hc; exact hc)
    have J347 : ∀ (ctr : Int32) (T : State) (Lf : List Loc) (X : Stand p l e room_1 s m #[(.int p0), (.int p1), (.int p2), (.int p3), (.int p4)] below meth c T Lf 5 33) (eT : T.heap = hh) (NL : Fr n0 Lf), ctr + own_b (t ((5 : Int32)).toNatClampNeg) + own_b (t ((6 : Int32)).toNatClampNeg) + own_b (t ((7 : Int32)).toNatClampNeg) = vk11 → Goes p e below s room_1.cells room_1.slots (fun v h L => Q0 Z p0 p1 p2 p3 p4 ca cc h0 n0 v h L) (T.setTop (mkF m 347 #[.val (.int p0), .val (.int p1), .val (.int p2), .val (.int p3), .val (.int p4), .val (.int vm5), .val (.int vn6), .val (.int vs7), .val (.ref vx8), .val (.int vq9), .val (.int (8 : Int32)), .val (.int vk11), .val (.ref vx12), .val (.int ex), .val (.int ex), .val (.int ctr)] [])) := by
      intro ctr T Lf X eT NL hc
      refine G1 (fun _ => XS.iload X.here hx rfl (hb hby at_347) rfl ) ?_
      refine G1 (fun _ => XS.iconst X.here hx rfl (hb hby at_349)) ?_
      refine G1 (fun _ => XS.icmpNo X.here hx rfl (hb hby at_350) rfl (tlt (by decide : (4 : Int32) < (8 : Int32))).2.2.2) ?_
      show Goes _ _ _ _ _ _ _ (T.setTop (mkF m 353 _ []))
      refine G1 (fun _ => XS.aload X.here hx rfl (hb hby at_353) rfl rfl) ?_
      refine G1 (fun _ => XS.iconst X.here hx rfl (hb hby at_355)) ?_
      obtain ⟨cq17, kq17, q17a, q17b, q17c⟩ := isOf hZ eT E0
      obtain ⟨_, _, ⟨T17, L17, k17, n17⟩, -, X17, ⟨Lc17, hQ17, l17, y17, z17⟩, st17⟩ := X.virtualBack hx (y := mN6) (z := mN6) hown (mvT hZ w_47) (mvT hZ w_48) (notFace_of_selects (args := #[]) (mvT hZ w_50)) (mvT hZ w_50) (mvT hZ w_49) (by decide) (backOf (W := 0) (rm8 l Z a0 hw [] vx12 (5 : Int32) ka ha va kk kh kw 8 t hf KA VA (29 : Int32) vm5 sz hh n0 hz E0 Fk Fh Fv Fm Fz Fs Ak Ah Av (by decide) (by decide)) hZ w_51 w_3 (by decide) (by decide)) q17a q17c (g := (mkF m 356 #[.val (.int p0), .val (.int p1), .val (.int p2), .val (.int p3), .val (.int p4), .val (.int vm5), .val (.int vn6), .val (.int vs7), .val (.ref vx8), .val (.int vq9), .val (.int (8 : Int32)), .val (.int vk11), .val (.ref vx12), .val (.int ex), .val (.int ex), .val (.int ctr)] [(.int (5 : Int32)), (.ref vx12)])) rfl (by rw [hml]; rfl) (Steps.refl _) (argsL := [(.int (5 : Int32))]) (rest := []) (lenOf pd_4 rfl) rfl (by show 2 * 0 + _ ≤ _; exact Nat.le_of_eq rfl) (hb hby at_356) (fun _ _ => ⟨rfl, eT, (by decide : 5 + 0 ≤ _), (by decide : 33 + 0 ≤ _)⟩)
      dsimp only [Pt.U, Pt.locs, Pt.cells, Pt.slots] at X17 l17 y17 z17 st17 hQ17
      rw [l17, y17, z17] at X17
      obtain ⟨N17, eh17, hv17⟩ := hQ17
      have NA17 := Fr.app NL N17
      subst hv17
      refine G2 st17 ?_
      show Goes _ _ _ _ _ _ _ (T17.setTop (mkF m 359 _ [(.int (own_b (t ((5 : Int32)).toNatClampNeg)))]))
      by_cases c359_18 : (own_b (t ((5 : Int32)).toNatClampNeg)) = (0 : Int32)
      · refine G1 (fun _ => XS.ifYes X17.here hx rfl (pc0 := 359) (pc' := 365) rfl (hb hby at_359) rfl ((if0 _ _).trans (teq c359_18).1) (by decide) (by decide)) ?_
        show Goes _ _ _ _ _ _ _ (T17.setTop (mkF m 365 _ []))
        show Goes _ _ _ _ _ _ _ (T17.setTop (mkF m 365 #[.val (.int p0), .val (.int p1), .val (.int p2), .val (.int p3), .val (.int p4), .val (.int vm5), .val (.int vn6), .val (.int vs7), .val (.ref vx8), .val (.int vq9), .val (.int (8 : Int32)), .val (.int vk11), .val (.ref vx12), .val (.int ex), .val (.int ex), .val (.int ctr)] []))
        exact J365 _ _ _ X17 eh17 NA17 (by rw [c359_18, own_addz] at hc; exact hc)
      · refine G1 (fun _ => XS.ifNo X17.here hx rfl (hb hby at_359) rfl ((if0 _ _).trans (feq c359_18).1)) ?_
        show Goes _ _ _ _ _ _ _ (T17.setTop (mkF m 362 _ []))
        refine G1 (fun _ => XS.iinc X17.here hx rfl (hb hby at_362) rfl (l' := #[.val (.int p0), .val (.int p1), .val (.int p2), .val (.int p3), .val (.int p4), .val (.int vm5), .val (.int vn6), .val (.int vs7), .val (.ref vx8), .val (.int vq9), .val (.int (8 : Int32)), .val (.int vk11), .val (.ref vx12), .val (.int ex), .val (.int ex), .val (.int (ctr + (1 : Int32)))]) rfl) ?_
        show Goes _ _ _ _ _ _ _ (T17.setTop (mkF m 365 _ []))
        show Goes _ _ _ _ _ _ _ (T17.setTop (mkF m 365 #[.val (.int p0), .val (.int p1), .val (.int p2), .val (.int p3), .val (.int p4), .val (.int vm5), .val (.int vn6), .val (.int vs7), .val (.ref vx8), .val (.int vq9), .val (.int (8 : Int32)), .val (.int vk11), .val (.ref vx12), .val (.int ex), .val (.int ex), .val (.int (ctr + (1 : Int32)))] []))
        exact J365 _ _ _ X17 eh17 NA17 (by rw [own_bne c359_18] at hc; exact hc)
    have J329 : ∀ (ctr : Int32) (T : State) (Lf : List Loc) (X : Stand p l e room_1 s m #[(.int p0), (.int p1), (.int p2), (.int p3), (.int p4)] below meth c T Lf 5 33) (eT : T.heap = hh) (NL : Fr n0 Lf), ctr + own_b (t ((4 : Int32)).toNatClampNeg) + own_b (t ((5 : Int32)).toNatClampNeg) + own_b (t ((6 : Int32)).toNatClampNeg) + own_b (t ((7 : Int32)).toNatClampNeg) = vk11 → Goes p e below s room_1.cells room_1.slots (fun v h L => Q0 Z p0 p1 p2 p3 p4 ca cc h0 n0 v h L) (T.setTop (mkF m 329 #[.val (.int p0), .val (.int p1), .val (.int p2), .val (.int p3), .val (.int p4), .val (.int vm5), .val (.int vn6), .val (.int vs7), .val (.ref vx8), .val (.int vq9), .val (.int (8 : Int32)), .val (.int vk11), .val (.ref vx12), .val (.int ex), .val (.int ex), .val (.int ctr)] [])) := by
      intro ctr T Lf X eT NL hc
      refine G1 (fun _ => XS.iload X.here hx rfl (hb hby at_329) rfl ) ?_
      refine G1 (fun _ => XS.iconst X.here hx rfl (hb hby at_331)) ?_
      refine G1 (fun _ => XS.icmpNo X.here hx rfl (hb hby at_332) rfl (tlt (by decide : (4 : Int32) < (8 : Int32))).2.2.2) ?_
      show Goes _ _ _ _ _ _ _ (T.setTop (mkF m 335 _ []))
      refine G1 (fun _ => XS.aload X.here hx rfl (hb hby at_335) rfl rfl) ?_
      refine G1 (fun _ => XS.iconst X.here hx rfl (hb hby at_337)) ?_
      obtain ⟨cq19, kq19, q19a, q19b, q19c⟩ := isOf hZ eT E0
      obtain ⟨_, _, ⟨T19, L19, k19, n19⟩, -, X19, ⟨Lc19, hQ19, l19, y19, z19⟩, st19⟩ := X.virtualBack hx (y := mN6) (z := mN6) hown (mvT hZ w_47) (mvT hZ w_48) (notFace_of_selects (args := #[]) (mvT hZ w_50)) (mvT hZ w_50) (mvT hZ w_49) (by decide) (backOf (W := 0) (rm8 l Z a0 hw [] vx12 (4 : Int32) ka ha va kk kh kw 8 t hf KA VA (29 : Int32) vm5 sz hh n0 hz E0 Fk Fh Fv Fm Fz Fs Ak Ah Av (by decide) (by decide)) hZ w_51 w_3 (by decide) (by decide)) q19a q19c (g := (mkF m 338 #[.val (.int p0), .val (.int p1), .val (.int p2), .val (.int p3), .val (.int p4), .val (.int vm5), .val (.int vn6), .val (.int vs7), .val (.ref vx8), .val (.int vq9), .val (.int (8 : Int32)), .val (.int vk11), .val (.ref vx12), .val (.int ex), .val (.int ex), .val (.int ctr)] [(.int (4 : Int32)), (.ref vx12)])) rfl (by rw [hml]; rfl) (Steps.refl _) (argsL := [(.int (4 : Int32))]) (rest := []) (lenOf pd_4 rfl) rfl (by show 2 * 0 + _ ≤ _; exact Nat.le_of_eq rfl) (hb hby at_338) (fun _ _ => ⟨rfl, eT, (by decide : 5 + 0 ≤ _), (by decide : 33 + 0 ≤ _)⟩)
      dsimp only [Pt.U, Pt.locs, Pt.cells, Pt.slots] at X19 l19 y19 z19 st19 hQ19
      rw [l19, y19, z19] at X19
      obtain ⟨N19, eh19, hv19⟩ := hQ19
      have NA19 := Fr.app NL N19
      subst hv19
      refine G2 st19 ?_
      show Goes _ _ _ _ _ _ _ (T19.setTop (mkF m 341 _ [(.int (own_b (t ((4 : Int32)).toNatClampNeg)))]))
      by_cases c341_20 : (own_b (t ((4 : Int32)).toNatClampNeg)) = (0 : Int32)
      · refine G1 (fun _ => XS.ifYes X19.here hx rfl (pc0 := 341) (pc' := 347) rfl (hb hby at_341) rfl ((if0 _ _).trans (teq c341_20).1) (by decide) (by decide)) ?_
        show Goes _ _ _ _ _ _ _ (T19.setTop (mkF m 347 _ []))
        show Goes _ _ _ _ _ _ _ (T19.setTop (mkF m 347 #[.val (.int p0), .val (.int p1), .val (.int p2), .val (.int p3), .val (.int p4), .val (.int vm5), .val (.int vn6), .val (.int vs7), .val (.ref vx8), .val (.int vq9), .val (.int (8 : Int32)), .val (.int vk11), .val (.ref vx12), .val (.int ex), .val (.int ex), .val (.int ctr)] []))
        exact J347 _ _ _ X19 eh19 NA19 (by rw [c341_20, own_addz] at hc; exact hc)
      · refine G1 (fun _ => XS.ifNo X19.here hx rfl (hb hby at_341) rfl ((if0 _ _).trans (feq c341_20).1)) ?_
        show Goes _ _ _ _ _ _ _ (T19.setTop (mkF m 344 _ []))
        refine G1 (fun _ => XS.iinc X19.here hx rfl (hb hby at_344) rfl (l' := #[.val (.int p0), .val (.int p1), .val (.int p2), .val (.int p3), .val (.int p4), .val (.int vm5), .val (.int vn6), .val (.int vs7), .val (.ref vx8), .val (.int vq9), .val (.int (8 : Int32)), .val (.int vk11), .val (.ref vx12), .val (.int ex), .val (.int ex), .val (.int (ctr + (1 : Int32)))]) rfl) ?_
        show Goes _ _ _ _ _ _ _ (T19.setTop (mkF m 347 _ []))
        show Goes _ _ _ _ _ _ _ (T19.setTop (mkF m 347 #[.val (.int p0), .val (.int p1), .val (.int p2), .val (.int p3), .val (.int p4), .val (.int vm5), .val (.int vn6), .val (.int vs7), .val (.ref vx8), .val (.int vq9), .val (.int (8 : Int32)), .val (.int vk11), .val (.ref vx12), .val (.int ex), .val (.int ex), .val (.int (ctr + (1 : Int32)))] []))
        exact J347 _ _ _ X19 eh19 NA19 (by rw [own_bne c341_20] at hc; exact hc)
    have J311 : ∀ (ctr : Int32) (T : State) (Lf : List Loc) (X : Stand p l e room_1 s m #[(.int p0), (.int p1), (.int p2), (.int p3), (.int p4)] below meth c T Lf 5 33) (eT : T.heap = hh) (NL : Fr n0 Lf), ctr + own_b (t ((3 : Int32)).toNatClampNeg) + own_b (t ((4 : Int32)).toNatClampNeg) + own_b (t ((5 : Int32)).toNatClampNeg) + own_b (t ((6 : Int32)).toNatClampNeg) + own_b (t ((7 : Int32)).toNatClampNeg) = vk11 → Goes p e below s room_1.cells room_1.slots (fun v h L => Q0 Z p0 p1 p2 p3 p4 ca cc h0 n0 v h L) (T.setTop (mkF m 311 #[.val (.int p0), .val (.int p1), .val (.int p2), .val (.int p3), .val (.int p4), .val (.int vm5), .val (.int vn6), .val (.int vs7), .val (.ref vx8), .val (.int vq9), .val (.int (8 : Int32)), .val (.int vk11), .val (.ref vx12), .val (.int ex), .val (.int ex), .val (.int ctr)] [])) := by
      intro ctr T Lf X eT NL hc
      refine G1 (fun _ => XS.iload X.here hx rfl (hb hby at_311) rfl ) ?_
      refine G1 (fun _ => XS.iconst X.here hx rfl (hb hby at_313)) ?_
      refine G1 (fun _ => XS.icmpNo X.here hx rfl (hb hby at_314) rfl (tlt (by decide : (2 : Int32) < (8 : Int32))).2.2.2) ?_
      show Goes _ _ _ _ _ _ _ (T.setTop (mkF m 317 _ []))
      refine G1 (fun _ => XS.aload X.here hx rfl (hb hby at_317) rfl rfl) ?_
      refine G1 (fun _ => XS.iconst X.here hx rfl (hb hby at_319)) ?_
      obtain ⟨cq21, kq21, q21a, q21b, q21c⟩ := isOf hZ eT E0
      obtain ⟨_, _, ⟨T21, L21, k21, n21⟩, -, X21, ⟨Lc21, hQ21, l21, y21, z21⟩, st21⟩ := X.virtualBack hx (y := mN6) (z := mN6) hown (mvT hZ w_47) (mvT hZ w_48) (notFace_of_selects (args := #[]) (mvT hZ w_50)) (mvT hZ w_50) (mvT hZ w_49) (by decide) (backOf (W := 0) (rm8 l Z a0 hw [] vx12 (3 : Int32) ka ha va kk kh kw 8 t hf KA VA (29 : Int32) vm5 sz hh n0 hz E0 Fk Fh Fv Fm Fz Fs Ak Ah Av (by decide) (by decide)) hZ w_51 w_3 (by decide) (by decide)) q21a q21c (g := (mkF m 320 #[.val (.int p0), .val (.int p1), .val (.int p2), .val (.int p3), .val (.int p4), .val (.int vm5), .val (.int vn6), .val (.int vs7), .val (.ref vx8), .val (.int vq9), .val (.int (8 : Int32)), .val (.int vk11), .val (.ref vx12), .val (.int ex), .val (.int ex), .val (.int ctr)] [(.int (3 : Int32)), (.ref vx12)])) rfl (by rw [hml]; rfl) (Steps.refl _) (argsL := [(.int (3 : Int32))]) (rest := []) (lenOf pd_4 rfl) rfl (by show 2 * 0 + _ ≤ _; exact Nat.le_of_eq rfl) (hb hby at_320) (fun _ _ => ⟨rfl, eT, (by decide : 5 + 0 ≤ _), (by decide : 33 + 0 ≤ _)⟩)
      dsimp only [Pt.U, Pt.locs, Pt.cells, Pt.slots] at X21 l21 y21 z21 st21 hQ21
      rw [l21, y21, z21] at X21
      obtain ⟨N21, eh21, hv21⟩ := hQ21
      have NA21 := Fr.app NL N21
      subst hv21
      refine G2 st21 ?_
      show Goes _ _ _ _ _ _ _ (T21.setTop (mkF m 323 _ [(.int (own_b (t ((3 : Int32)).toNatClampNeg)))]))
      by_cases c323_22 : (own_b (t ((3 : Int32)).toNatClampNeg)) = (0 : Int32)
      · refine G1 (fun _ => XS.ifYes X21.here hx rfl (pc0 := 323) (pc' := 329) rfl (hb hby at_323) rfl ((if0 _ _).trans (teq c323_22).1) (by decide) (by decide)) ?_
        show Goes _ _ _ _ _ _ _ (T21.setTop (mkF m 329 _ []))
        show Goes _ _ _ _ _ _ _ (T21.setTop (mkF m 329 #[.val (.int p0), .val (.int p1), .val (.int p2), .val (.int p3), .val (.int p4), .val (.int vm5), .val (.int vn6), .val (.int vs7), .val (.ref vx8), .val (.int vq9), .val (.int (8 : Int32)), .val (.int vk11), .val (.ref vx12), .val (.int ex), .val (.int ex), .val (.int ctr)] []))
        exact J329 _ _ _ X21 eh21 NA21 (by rw [c323_22, own_addz] at hc; exact hc)
      · refine G1 (fun _ => XS.ifNo X21.here hx rfl (hb hby at_323) rfl ((if0 _ _).trans (feq c323_22).1)) ?_
        show Goes _ _ _ _ _ _ _ (T21.setTop (mkF m 326 _ []))
        refine G1 (fun _ => XS.iinc X21.here hx rfl (hb hby at_326) rfl (l' := #[.val (.int p0), .val (.int p1), .val (.int p2), .val (.int p3), .val (.int p4), .val (.int vm5), .val (.int vn6), .val (.int vs7), .val (.ref vx8), .val (.int vq9), .val (.int (8 : Int32)), .val (.int vk11), .val (.ref vx12), .val (.int ex), .val (.int ex), .val (.int (ctr + (1 : Int32)))]) rfl) ?_
        show Goes _ _ _ _ _ _ _ (T21.setTop (mkF m 329 _ []))
        show Goes _ _ _ _ _ _ _ (T21.setTop (mkF m 329 #[.val (.int p0), .val (.int p1), .val (.int p2), .val (.int p3), .val (.int p4), .val (.int vm5), .val (.int vn6), .val (.int vs7), .val (.ref vx8), .val (.int vq9), .val (.int (8 : Int32)), .val (.int vk11), .val (.ref vx12), .val (.int ex), .val (.int ex), .val (.int (ctr + (1 : Int32)))] []))
        exact J329 _ _ _ X21 eh21 NA21 (by rw [own_bne c323_22] at hc; exact hc)
    have J293 : ∀ (ctr : Int32) (T : State) (Lf : List Loc) (X : Stand p l e room_1 s m #[(.int p0), (.int p1), (.int p2), (.int p3), (.int p4)] below meth c T Lf 5 33) (eT : T.heap = hh) (NL : Fr n0 Lf), ctr + own_b (t ((2 : Int32)).toNatClampNeg) + own_b (t ((3 : Int32)).toNatClampNeg) + own_b (t ((4 : Int32)).toNatClampNeg) + own_b (t ((5 : Int32)).toNatClampNeg) + own_b (t ((6 : Int32)).toNatClampNeg) + own_b (t ((7 : Int32)).toNatClampNeg) = vk11 → Goes p e below s room_1.cells room_1.slots (fun v h L => Q0 Z p0 p1 p2 p3 p4 ca cc h0 n0 v h L) (T.setTop (mkF m 293 #[.val (.int p0), .val (.int p1), .val (.int p2), .val (.int p3), .val (.int p4), .val (.int vm5), .val (.int vn6), .val (.int vs7), .val (.ref vx8), .val (.int vq9), .val (.int (8 : Int32)), .val (.int vk11), .val (.ref vx12), .val (.int ex), .val (.int ex), .val (.int ctr)] [])) := by
      intro ctr T Lf X eT NL hc
      refine G1 (fun _ => XS.iload X.here hx rfl (hb hby at_293) rfl ) ?_
      refine G1 (fun _ => XS.iconst X.here hx rfl (hb hby at_295)) ?_
      refine G1 (fun _ => XS.icmpNo X.here hx rfl (hb hby at_296) rfl (tlt (by decide : (2 : Int32) < (8 : Int32))).2.2.2) ?_
      show Goes _ _ _ _ _ _ _ (T.setTop (mkF m 299 _ []))
      refine G1 (fun _ => XS.aload X.here hx rfl (hb hby at_299) rfl rfl) ?_
      refine G1 (fun _ => XS.iconst X.here hx rfl (hb hby at_301)) ?_
      obtain ⟨cq23, kq23, q23a, q23b, q23c⟩ := isOf hZ eT E0
      obtain ⟨_, _, ⟨T23, L23, k23, n23⟩, -, X23, ⟨Lc23, hQ23, l23, y23, z23⟩, st23⟩ := X.virtualBack hx (y := mN6) (z := mN6) hown (mvT hZ w_47) (mvT hZ w_48) (notFace_of_selects (args := #[]) (mvT hZ w_50)) (mvT hZ w_50) (mvT hZ w_49) (by decide) (backOf (W := 0) (rm8 l Z a0 hw [] vx12 (2 : Int32) ka ha va kk kh kw 8 t hf KA VA (29 : Int32) vm5 sz hh n0 hz E0 Fk Fh Fv Fm Fz Fs Ak Ah Av (by decide) (by decide)) hZ w_51 w_3 (by decide) (by decide)) q23a q23c (g := (mkF m 302 #[.val (.int p0), .val (.int p1), .val (.int p2), .val (.int p3), .val (.int p4), .val (.int vm5), .val (.int vn6), .val (.int vs7), .val (.ref vx8), .val (.int vq9), .val (.int (8 : Int32)), .val (.int vk11), .val (.ref vx12), .val (.int ex), .val (.int ex), .val (.int ctr)] [(.int (2 : Int32)), (.ref vx12)])) rfl (by rw [hml]; rfl) (Steps.refl _) (argsL := [(.int (2 : Int32))]) (rest := []) (lenOf pd_4 rfl) rfl (by show 2 * 0 + _ ≤ _; exact Nat.le_of_eq rfl) (hb hby at_302) (fun _ _ => ⟨rfl, eT, (by decide : 5 + 0 ≤ _), (by decide : 33 + 0 ≤ _)⟩)
      dsimp only [Pt.U, Pt.locs, Pt.cells, Pt.slots] at X23 l23 y23 z23 st23 hQ23
      rw [l23, y23, z23] at X23
      obtain ⟨N23, eh23, hv23⟩ := hQ23
      have NA23 := Fr.app NL N23
      subst hv23
      refine G2 st23 ?_
      show Goes _ _ _ _ _ _ _ (T23.setTop (mkF m 305 _ [(.int (own_b (t ((2 : Int32)).toNatClampNeg)))]))
      by_cases c305_24 : (own_b (t ((2 : Int32)).toNatClampNeg)) = (0 : Int32)
      · refine G1 (fun _ => XS.ifYes X23.here hx rfl (pc0 := 305) (pc' := 311) rfl (hb hby at_305) rfl ((if0 _ _).trans (teq c305_24).1) (by decide) (by decide)) ?_
        show Goes _ _ _ _ _ _ _ (T23.setTop (mkF m 311 _ []))
        show Goes _ _ _ _ _ _ _ (T23.setTop (mkF m 311 #[.val (.int p0), .val (.int p1), .val (.int p2), .val (.int p3), .val (.int p4), .val (.int vm5), .val (.int vn6), .val (.int vs7), .val (.ref vx8), .val (.int vq9), .val (.int (8 : Int32)), .val (.int vk11), .val (.ref vx12), .val (.int ex), .val (.int ex), .val (.int ctr)] []))
        exact J311 _ _ _ X23 eh23 NA23 (by rw [c305_24, own_addz] at hc; exact hc)
      · refine G1 (fun _ => XS.ifNo X23.here hx rfl (hb hby at_305) rfl ((if0 _ _).trans (feq c305_24).1)) ?_
        show Goes _ _ _ _ _ _ _ (T23.setTop (mkF m 308 _ []))
        refine G1 (fun _ => XS.iinc X23.here hx rfl (hb hby at_308) rfl (l' := #[.val (.int p0), .val (.int p1), .val (.int p2), .val (.int p3), .val (.int p4), .val (.int vm5), .val (.int vn6), .val (.int vs7), .val (.ref vx8), .val (.int vq9), .val (.int (8 : Int32)), .val (.int vk11), .val (.ref vx12), .val (.int ex), .val (.int ex), .val (.int (ctr + (1 : Int32)))]) rfl) ?_
        show Goes _ _ _ _ _ _ _ (T23.setTop (mkF m 311 _ []))
        show Goes _ _ _ _ _ _ _ (T23.setTop (mkF m 311 #[.val (.int p0), .val (.int p1), .val (.int p2), .val (.int p3), .val (.int p4), .val (.int vm5), .val (.int vn6), .val (.int vs7), .val (.ref vx8), .val (.int vq9), .val (.int (8 : Int32)), .val (.int vk11), .val (.ref vx12), .val (.int ex), .val (.int ex), .val (.int (ctr + (1 : Int32)))] []))
        exact J311 _ _ _ X23 eh23 NA23 (by rw [own_bne c305_24] at hc; exact hc)
    have J281 : ∀ (ctr : Int32) (T : State) (Lf : List Loc) (X : Stand p l e room_1 s m #[(.int p0), (.int p1), (.int p2), (.int p3), (.int p4)] below meth c T Lf 5 33) (eT : T.heap = hh) (NL : Fr n0 Lf), ctr + own_b (t ((1 : Int32)).toNatClampNeg) + own_b (t ((2 : Int32)).toNatClampNeg) + own_b (t ((3 : Int32)).toNatClampNeg) + own_b (t ((4 : Int32)).toNatClampNeg) + own_b (t ((5 : Int32)).toNatClampNeg) + own_b (t ((6 : Int32)).toNatClampNeg) + own_b (t ((7 : Int32)).toNatClampNeg) = vk11 → Goes p e below s room_1.cells room_1.slots (fun v h L => Q0 Z p0 p1 p2 p3 p4 ca cc h0 n0 v h L) (T.setTop (mkF m 281 #[.val (.int p0), .val (.int p1), .val (.int p2), .val (.int p3), .val (.int p4), .val (.int vm5), .val (.int vn6), .val (.int vs7), .val (.ref vx8), .val (.int vq9), .val (.int (8 : Int32)), .val (.int vk11), .val (.ref vx12), .val (.int ex), .val (.int ex), .val (.int ctr)] [])) := by
      intro ctr T Lf X eT NL hc
      refine G1 (fun _ => XS.aload X.here hx rfl (hb hby at_281) rfl rfl) ?_
      refine G1 (fun _ => XS.iconst X.here hx rfl (hb hby at_283)) ?_
      obtain ⟨cq25, kq25, q25a, q25b, q25c⟩ := isOf hZ eT E0
      obtain ⟨_, _, ⟨T25, L25, k25, n25⟩, -, X25, ⟨Lc25, hQ25, l25, y25, z25⟩, st25⟩ := X.virtualBack hx (y := mN6) (z := mN6) hown (mvT hZ w_47) (mvT hZ w_48) (notFace_of_selects (args := #[]) (mvT hZ w_50)) (mvT hZ w_50) (mvT hZ w_49) (by decide) (backOf (W := 0) (rm8 l Z a0 hw [] vx12 (1 : Int32) ka ha va kk kh kw 8 t hf KA VA (29 : Int32) vm5 sz hh n0 hz E0 Fk Fh Fv Fm Fz Fs Ak Ah Av (by decide) (by decide)) hZ w_51 w_3 (by decide) (by decide)) q25a q25c (g := (mkF m 284 #[.val (.int p0), .val (.int p1), .val (.int p2), .val (.int p3), .val (.int p4), .val (.int vm5), .val (.int vn6), .val (.int vs7), .val (.ref vx8), .val (.int vq9), .val (.int (8 : Int32)), .val (.int vk11), .val (.ref vx12), .val (.int ex), .val (.int ex), .val (.int ctr)] [(.int (1 : Int32)), (.ref vx12)])) rfl (by rw [hml]; rfl) (Steps.refl _) (argsL := [(.int (1 : Int32))]) (rest := []) (lenOf pd_4 rfl) rfl (by show 2 * 0 + _ ≤ _; exact Nat.le_of_eq rfl) (hb hby at_284) (fun _ _ => ⟨rfl, eT, (by decide : 5 + 0 ≤ _), (by decide : 33 + 0 ≤ _)⟩)
      dsimp only [Pt.U, Pt.locs, Pt.cells, Pt.slots] at X25 l25 y25 z25 st25 hQ25
      rw [l25, y25, z25] at X25
      obtain ⟨N25, eh25, hv25⟩ := hQ25
      have NA25 := Fr.app NL N25
      subst hv25
      refine G2 st25 ?_
      show Goes _ _ _ _ _ _ _ (T25.setTop (mkF m 287 _ [(.int (own_b (t ((1 : Int32)).toNatClampNeg)))]))
      by_cases c287_26 : (own_b (t ((1 : Int32)).toNatClampNeg)) = (0 : Int32)
      · refine G1 (fun _ => XS.ifYes X25.here hx rfl (pc0 := 287) (pc' := 293) rfl (hb hby at_287) rfl ((if0 _ _).trans (teq c287_26).1) (by decide) (by decide)) ?_
        show Goes _ _ _ _ _ _ _ (T25.setTop (mkF m 293 _ []))
        show Goes _ _ _ _ _ _ _ (T25.setTop (mkF m 293 #[.val (.int p0), .val (.int p1), .val (.int p2), .val (.int p3), .val (.int p4), .val (.int vm5), .val (.int vn6), .val (.int vs7), .val (.ref vx8), .val (.int vq9), .val (.int (8 : Int32)), .val (.int vk11), .val (.ref vx12), .val (.int ex), .val (.int ex), .val (.int ctr)] []))
        exact J293 _ _ _ X25 eh25 NA25 (by rw [c287_26, own_addz] at hc; exact hc)
      · refine G1 (fun _ => XS.ifNo X25.here hx rfl (hb hby at_287) rfl ((if0 _ _).trans (feq c287_26).1)) ?_
        show Goes _ _ _ _ _ _ _ (T25.setTop (mkF m 290 _ []))
        refine G1 (fun _ => XS.iinc X25.here hx rfl (hb hby at_290) rfl (l' := #[.val (.int p0), .val (.int p1), .val (.int p2), .val (.int p3), .val (.int p4), .val (.int vm5), .val (.int vn6), .val (.int vs7), .val (.ref vx8), .val (.int vq9), .val (.int (8 : Int32)), .val (.int vk11), .val (.ref vx12), .val (.int ex), .val (.int ex), .val (.int (ctr + (1 : Int32)))]) rfl) ?_
        show Goes _ _ _ _ _ _ _ (T25.setTop (mkF m 293 _ []))
        show Goes _ _ _ _ _ _ _ (T25.setTop (mkF m 293 #[.val (.int p0), .val (.int p1), .val (.int p2), .val (.int p3), .val (.int p4), .val (.int vm5), .val (.int vn6), .val (.int vs7), .val (.ref vx8), .val (.int vq9), .val (.int (8 : Int32)), .val (.int vk11), .val (.ref vx12), .val (.int ex), .val (.int ex), .val (.int (ctr + (1 : Int32)))] []))
        exact J293 _ _ _ X25 eh25 NA25 (by rw [own_bne c287_26] at hc; exact hc)
    have J269 : ∀ (ctr : Int32) (T : State) (Lf : List Loc) (X : Stand p l e room_1 s m #[(.int p0), (.int p1), (.int p2), (.int p3), (.int p4)] below meth c T Lf 5 33) (eT : T.heap = hh) (NL : Fr n0 Lf), ctr + own_b (t ((0 : Int32)).toNatClampNeg) + own_b (t ((1 : Int32)).toNatClampNeg) + own_b (t ((2 : Int32)).toNatClampNeg) + own_b (t ((3 : Int32)).toNatClampNeg) + own_b (t ((4 : Int32)).toNatClampNeg) + own_b (t ((5 : Int32)).toNatClampNeg) + own_b (t ((6 : Int32)).toNatClampNeg) + own_b (t ((7 : Int32)).toNatClampNeg) = vk11 → Goes p e below s room_1.cells room_1.slots (fun v h L => Q0 Z p0 p1 p2 p3 p4 ca cc h0 n0 v h L) (T.setTop (mkF m 269 #[.val (.int p0), .val (.int p1), .val (.int p2), .val (.int p3), .val (.int p4), .val (.int vm5), .val (.int vn6), .val (.int vs7), .val (.ref vx8), .val (.int vq9), .val (.int (8 : Int32)), .val (.int vk11), .val (.ref vx12), .val (.int ex), .val (.int ex), .val (.int ctr)] [])) := by
      intro ctr T Lf X eT NL hc
      refine G1 (fun _ => XS.aload X.here hx rfl (hb hby at_269) rfl rfl) ?_
      refine G1 (fun _ => XS.iconst X.here hx rfl (hb hby at_271)) ?_
      obtain ⟨cq27, kq27, q27a, q27b, q27c⟩ := isOf hZ eT E0
      obtain ⟨_, _, ⟨T27, L27, k27, n27⟩, -, X27, ⟨Lc27, hQ27, l27, y27, z27⟩, st27⟩ := X.virtualBack hx (y := mN6) (z := mN6) hown (mvT hZ w_47) (mvT hZ w_48) (notFace_of_selects (args := #[]) (mvT hZ w_50)) (mvT hZ w_50) (mvT hZ w_49) (by decide) (backOf (W := 0) (rm8 l Z a0 hw [] vx12 (0 : Int32) ka ha va kk kh kw 8 t hf KA VA (29 : Int32) vm5 sz hh n0 hz E0 Fk Fh Fv Fm Fz Fs Ak Ah Av (by decide) (by decide)) hZ w_51 w_3 (by decide) (by decide)) q27a q27c (g := (mkF m 272 #[.val (.int p0), .val (.int p1), .val (.int p2), .val (.int p3), .val (.int p4), .val (.int vm5), .val (.int vn6), .val (.int vs7), .val (.ref vx8), .val (.int vq9), .val (.int (8 : Int32)), .val (.int vk11), .val (.ref vx12), .val (.int ex), .val (.int ex), .val (.int ctr)] [(.int (0 : Int32)), (.ref vx12)])) rfl (by rw [hml]; rfl) (Steps.refl _) (argsL := [(.int (0 : Int32))]) (rest := []) (lenOf pd_4 rfl) rfl (by show 2 * 0 + _ ≤ _; exact Nat.le_of_eq rfl) (hb hby at_272) (fun _ _ => ⟨rfl, eT, (by decide : 5 + 0 ≤ _), (by decide : 33 + 0 ≤ _)⟩)
      dsimp only [Pt.U, Pt.locs, Pt.cells, Pt.slots] at X27 l27 y27 z27 st27 hQ27
      rw [l27, y27, z27] at X27
      obtain ⟨N27, eh27, hv27⟩ := hQ27
      have NA27 := Fr.app NL N27
      subst hv27
      refine G2 st27 ?_
      show Goes _ _ _ _ _ _ _ (T27.setTop (mkF m 275 _ [(.int (own_b (t ((0 : Int32)).toNatClampNeg)))]))
      by_cases c275_28 : (own_b (t ((0 : Int32)).toNatClampNeg)) = (0 : Int32)
      · refine G1 (fun _ => XS.ifYes X27.here hx rfl (pc0 := 275) (pc' := 281) rfl (hb hby at_275) rfl ((if0 _ _).trans (teq c275_28).1) (by decide) (by decide)) ?_
        show Goes _ _ _ _ _ _ _ (T27.setTop (mkF m 281 _ []))
        show Goes _ _ _ _ _ _ _ (T27.setTop (mkF m 281 #[.val (.int p0), .val (.int p1), .val (.int p2), .val (.int p3), .val (.int p4), .val (.int vm5), .val (.int vn6), .val (.int vs7), .val (.ref vx8), .val (.int vq9), .val (.int (8 : Int32)), .val (.int vk11), .val (.ref vx12), .val (.int ex), .val (.int ex), .val (.int ctr)] []))
        exact J281 _ _ _ X27 eh27 NA27 (by rw [c275_28, own_addz] at hc; exact hc)
      · refine G1 (fun _ => XS.ifNo X27.here hx rfl (hb hby at_275) rfl ((if0 _ _).trans (feq c275_28).1)) ?_
        show Goes _ _ _ _ _ _ _ (T27.setTop (mkF m 278 _ []))
        refine G1 (fun _ => XS.iinc X27.here hx rfl (hb hby at_278) rfl (l' := #[.val (.int p0), .val (.int p1), .val (.int p2), .val (.int p3), .val (.int p4), .val (.int vm5), .val (.int vn6), .val (.int vs7), .val (.ref vx8), .val (.int vq9), .val (.int (8 : Int32)), .val (.int vk11), .val (.ref vx12), .val (.int ex), .val (.int ex), .val (.int (ctr + (1 : Int32)))]) rfl) ?_
        show Goes _ _ _ _ _ _ _ (T27.setTop (mkF m 281 _ []))
        show Goes _ _ _ _ _ _ _ (T27.setTop (mkF m 281 #[.val (.int p0), .val (.int p1), .val (.int p2), .val (.int p3), .val (.int p4), .val (.int vm5), .val (.int vn6), .val (.int vs7), .val (.ref vx8), .val (.int vq9), .val (.int (8 : Int32)), .val (.int vk11), .val (.ref vx12), .val (.int ex), .val (.int ex), .val (.int (ctr + (1 : Int32)))] []))
        exact J281 _ _ _ X27 eh27 NA27 (by rw [own_bne c275_28] at hc; exact hc)
    refine G1 (fun _ => XS.iconst X.here hx rfl (hb hby at_266)) ?_
    refine G1 (fun _ => XS.istore X.here hx rfl (hb hby at_267) rfl (l' := #[.val (.int p0), .val (.int p1), .val (.int p2), .val (.int p3), .val (.int p4), .val (.int vm5), .val (.int vn6), .val (.int vs7), .val (.ref vx8), .val (.int vq9), .val (.int (8 : Int32)), .val (.int vk11), .val (.ref vx12), .val (.int ex), .val (.int ex), .val (.int (0 : Int32))]) rfl) ?_
    show Goes _ _ _ _ _ _ _ (T.setTop (mkF m 269 _ []))
    show Goes _ _ _ _ _ _ _ (T.setTop (mkF m 269 #[.val (.int p0), .val (.int p1), .val (.int p2), .val (.int p3), .val (.int p4), .val (.int vm5), .val (.int vn6), .val (.int vs7), .val (.ref vx8), .val (.int vq9), .val (.int (8 : Int32)), .val (.int vk11), .val (.ref vx12), .val (.int ex), .val (.int ex), .val (.int (0 : Int32))] []))
    exact J269 _ _ _ X eT NL (by rw [own_zadd]; exact hc0)
  show Goes _ _ _ _ _ _ _ (s₁.setTop (mkF m 0 #[.val (.int p0), .val (.int p1), .val (.int p2), .val (.int p3), .val (.int p4), .unset, .unset, .unset, .unset, .unset, .unset, .unset, .unset, .unset, .unset, .unset] []))
  refine G1 (fun _ => XS.iloadN X0.here hx rfl (hb hby at_0) rfl ) ?_
  refine G1 (fun _ => XS.iconst X0.here hx rfl (hb hby at_1)) ?_
  refine G1 (fun _ => XS.iand X0.here hx rfl (hb hby at_2) rfl) ?_
  show Goes _ _ _ _ _ _ _ (s₁.setTop (mkF m 3 _ [(.int (p0 &&& (3 : Int32)))]))
  refine G1 (fun _ => XS.iconst X0.here hx rfl (hb hby at_3)) ?_
  refine G1 (fun _ => XS.iadd X0.here hx rfl (hb hby at_4) rfl) ?_
  show Goes _ _ _ _ _ _ _ (s₁.setTop (mkF m 5 _ [(.int ((p0 &&& (3 : Int32)) + (1 : Int32)))]))
  refine G1 (fun _ => XS.istore X0.here hx rfl (hb hby at_5) rfl (l' := #[.val (.int p0), .val (.int p1), .val (.int p2), .val (.int p3), .val (.int p4), .val (.int ((p0 &&& (3 : Int32)) + (1 : Int32))), .unset, .unset, .unset, .unset, .unset, .unset, .unset, .unset, .unset, .unset]) rfl) ?_
  show Goes _ _ _ _ _ _ _ (s₁.setTop (mkF m 7 _ []))
  refine G1 (fun _ => XS.iloadN X0.here hx rfl (hb hby at_7) rfl ) ?_
  refine G1 (fun _ => XS.iconst X0.here hx rfl (hb hby at_8)) ?_
  refine G1 (fun _ => XS.iushr X0.here hx rfl (hb hby at_9) rfl) ?_
  show Goes _ _ _ _ _ _ _ (s₁.setTop (mkF m 10 _ [(.int ((p0.toUInt32 >>> ((2 : Int32) &&& 31).toUInt32).toInt32))]))
  refine G1 (fun _ => XS.iconst X0.here hx rfl (hb hby at_10)) ?_
  refine G1 (fun _ => XS.iand X0.here hx rfl (hb hby at_11) rfl) ?_
  show Goes _ _ _ _ _ _ _ (s₁.setTop (mkF m 12 _ [(.int (((p0.toUInt32 >>> ((2 : Int32) &&& 31).toUInt32).toInt32) &&& (3 : Int32)))]))
  refine G1 (fun _ => XS.istore X0.here hx rfl (hb hby at_12) rfl (l' := #[.val (.int p0), .val (.int p1), .val (.int p2), .val (.int p3), .val (.int p4), .val (.int ((p0 &&& (3 : Int32)) + (1 : Int32))), .val (.int (((p0.toUInt32 >>> ((2 : Int32) &&& 31).toUInt32).toInt32) &&& (3 : Int32))), .unset, .unset, .unset, .unset, .unset, .unset, .unset, .unset, .unset]) rfl) ?_
  show Goes _ _ _ _ _ _ _ (s₁.setTop (mkF m 14 _ []))
  refine G1 (fun _ => XS.iloadN X0.here hx rfl (hb hby at_14) rfl ) ?_
  refine G1 (fun _ => XS.iconst X0.here hx rfl (hb hby at_15)) ?_
  refine G1 (fun _ => XS.iushr X0.here hx rfl (hb hby at_16) rfl) ?_
  show Goes _ _ _ _ _ _ _ (s₁.setTop (mkF m 17 _ [(.int ((p0.toUInt32 >>> ((4 : Int32) &&& 31).toUInt32).toInt32))]))
  refine G1 (fun _ => XS.iconst X0.here hx rfl (hb hby at_17)) ?_
  refine G1 (fun _ => XS.iand X0.here hx rfl (hb hby at_18) rfl) ?_
  show Goes _ _ _ _ _ _ _ (s₁.setTop (mkF m 19 _ [(.int (((p0.toUInt32 >>> ((4 : Int32) &&& 31).toUInt32).toInt32) &&& (3 : Int32)))]))
  refine G1 (fun _ => XS.istore X0.here hx rfl (hb hby at_19) rfl (l' := #[.val (.int p0), .val (.int p1), .val (.int p2), .val (.int p3), .val (.int p4), .val (.int ((p0 &&& (3 : Int32)) + (1 : Int32))), .val (.int (((p0.toUInt32 >>> ((2 : Int32) &&& 31).toUInt32).toInt32) &&& (3 : Int32))), .val (.int (((p0.toUInt32 >>> ((4 : Int32) &&& 31).toUInt32).toInt32) &&& (3 : Int32))), .unset, .unset, .unset, .unset, .unset, .unset, .unset, .unset]) rfl) ?_
  show Goes _ _ _ _ _ _ _ (s₁.setTop (mkF m 21 _ []))
  refine G1 (fun _ => XS.iconst X0.here hx rfl (hb hby at_21)) ?_
  obtain ⟨T29, h29, k29, X29, e29, E29, A29, XA29, st29⟩ := newPE X0 hx hZ (own_at hw 0 rfl) e0 (g := (mkF m 22 #[.val (.int p0), .val (.int p1), .val (.int p2), .val (.int p3), .val (.int p4), .val (.int ((p0 &&& (3 : Int32)) + (1 : Int32))), .val (.int (((p0.toUInt32 >>> ((2 : Int32) &&& 31).toUInt32).toInt32) &&& (3 : Int32))), .val (.int (((p0.toUInt32 >>> ((4 : Int32) &&& 31).toUInt32).toInt32) &&& (3 : Int32))), .unset, .unset, .unset, .unset, .unset, .unset, .unset, .unset] [(.int (3 : Int32))])) rfl (hb hby at_22) rfl (by decide) (cap := 3) (by decide) (by decide) (by decide) (by decide) (ad := "[I") (by decide)
  obtain ⟨b29, g29⟩ : ∃ z, z = h0.size := ⟨_, rfl⟩
  rw [← g29] at A29 st29 XA29
  refine G1 st29 ?_
  have g_b29 : n0 ≤ b29 := Nat.le_trans Z0 (Nat.le_of_eq g29.symm)
  have sz_b29 : h0.size ≤ b29 := Nat.le_trans K0.1 (Nat.le_of_eq g29.symm)
  have XO30 : Old Z n0 h29 := X00.ext E29
  have K31 : Keep h0 h29 [] := K0.ext E29
  have Z31 : n0 ≤ h29.size := Nat.le_trans Z0 E29.1
  have E_b29 := XA29
  have V_b29 : Arv Z h29 b29 k29 .int (3 : Int32) [(.int (0 : Int32)), (.int (0 : Int32)), (.int (0 : Int32))] (.int (0 : Int32)) := (Arv.new A29 (by decide)).pad (pad_rep [] (.int (0 : Int32)) 3)
  show Goes _ _ _ _ _ _ _ (T29.setTop (mkF m 24 _ [(.ref b29)]))
  refine G1 (fun _ => XS.dup X29.here hx rfl (hb hby at_24) rfl rfl) ?_
  refine G1 (fun _ => XS.iconst X29.here hx rfl (hb hby at_25)) ?_
  refine G1 (fun _ => XS.iloadN X29.here hx rfl (hb hby at_26) rfl ) ?_
  obtain ⟨cl32, Ar32, q32, S32, P32, H32, G32⟩ := id V_b29
  have hin32 : ¬ ((0 : Int32) < 0 ∨ cl32.slots.size ≤ ((0 : Int32)).toNatClampNeg) := inb_of S32 ⟨by decide, by decide⟩
  obtain ⟨T33, h33, X33, e33, W33, st33⟩ := stI X29 hx hZ e29 Ar32 (j := (0 : Int32)) hin32 (g := (mkF m 27 #[.val (.int p0), .val (.int p1), .val (.int p2), .val (.int p3), .val (.int p4), .val (.int ((p0 &&& (3 : Int32)) + (1 : Int32))), .val (.int (((p0.toUInt32 >>> ((2 : Int32) &&& 31).toUInt32).toInt32) &&& (3 : Int32))), .val (.int (((p0.toUInt32 >>> ((4 : Int32) &&& 31).toUInt32).toInt32) &&& (3 : Int32))), .unset, .unset, .unset, .unset, .unset, .unset, .unset, .unset] [(.int p1), (.int (0 : Int32)), (.ref b29), (.ref b29)])) rfl rfl (hb hby at_27)
  refine G1 st33 ?_
  have V33 := Arv.set Ar32 q32 S32 P32 H32 G32 rfl W33 0 rfl (Nat.le_of_ble_eq_true rfl)
  have XO34 : Old Z n0 h33 := XO30.wr W33 g_b29
  have f35 := E_b29.wr W33
  have f36 := V33
  have K37 : Keep h0 h33 [] := K31.wr W33 (Or.inr sz_b29)
  have Z37 : n0 ≤ h33.size := by rw [Wr.size W33]; exact Z31
  have N37 := Fr.snoc X33 N0 g_b29
  show Goes _ _ _ _ _ _ _ (T33.setTop (mkF m 28 _ [(.ref b29)]))
  refine G1 (fun _ => XS.dup X33.here hx rfl (hb hby at_28) rfl rfl) ?_
  refine G1 (fun _ => XS.iconst X33.here hx rfl (hb hby at_29)) ?_
  refine G1 (fun _ => XS.iloadN X33.here hx rfl (hb hby at_30) rfl ) ?_
  obtain ⟨cl38, Ar38, q38, S38, P38, H38, G38⟩ := id f36
  have hin38 : ¬ ((1 : Int32) < 0 ∨ cl38.slots.size ≤ ((1 : Int32)).toNatClampNeg) := inb_of S38 ⟨by decide, by decide⟩
  obtain ⟨T39, h39, X39, e39, W39, st39⟩ := stI X33 hx hZ e33 Ar38 (j := (1 : Int32)) hin38 (g := (mkF m 31 #[.val (.int p0), .val (.int p1), .val (.int p2), .val (.int p3), .val (.int p4), .val (.int ((p0 &&& (3 : Int32)) + (1 : Int32))), .val (.int (((p0.toUInt32 >>> ((2 : Int32) &&& 31).toUInt32).toInt32) &&& (3 : Int32))), .val (.int (((p0.toUInt32 >>> ((4 : Int32) &&& 31).toUInt32).toInt32) &&& (3 : Int32))), .unset, .unset, .unset, .unset, .unset, .unset, .unset, .unset] [(.int p2), (.int (1 : Int32)), (.ref b29), (.ref b29)])) rfl rfl (hb hby at_31)
  refine G1 st39 ?_
  have V39 := Arv.set Ar38 q38 S38 P38 H38 G38 rfl W39 1 rfl (Nat.le_of_ble_eq_true rfl)
  have XO40 : Old Z n0 h39 := XO34.wr W39 g_b29
  have f41 := f35.wr W39
  have f42 := V39
  have K43 : Keep h0 h39 [] := K37.wr W39 (Or.inr sz_b29)
  have Z43 : n0 ≤ h39.size := by rw [Wr.size W39]; exact Z37
  have N43 := Fr.snoc X39 N37 g_b29
  show Goes _ _ _ _ _ _ _ (T39.setTop (mkF m 32 _ [(.ref b29)]))
  refine G1 (fun _ => XS.dup X39.here hx rfl (hb hby at_32) rfl rfl) ?_
  refine G1 (fun _ => XS.iconst X39.here hx rfl (hb hby at_33)) ?_
  refine G1 (fun _ => XS.iloadN X39.here hx rfl (hb hby at_34) rfl ) ?_
  obtain ⟨cl44, Ar44, q44, S44, P44, H44, G44⟩ := id f42
  have hin44 : ¬ ((2 : Int32) < 0 ∨ cl44.slots.size ≤ ((2 : Int32)).toNatClampNeg) := inb_of S44 ⟨by decide, by decide⟩
  obtain ⟨T45, h45, X45, e45, W45, st45⟩ := stI X39 hx hZ e39 Ar44 (j := (2 : Int32)) hin44 (g := (mkF m 35 #[.val (.int p0), .val (.int p1), .val (.int p2), .val (.int p3), .val (.int p4), .val (.int ((p0 &&& (3 : Int32)) + (1 : Int32))), .val (.int (((p0.toUInt32 >>> ((2 : Int32) &&& 31).toUInt32).toInt32) &&& (3 : Int32))), .val (.int (((p0.toUInt32 >>> ((4 : Int32) &&& 31).toUInt32).toInt32) &&& (3 : Int32))), .unset, .unset, .unset, .unset, .unset, .unset, .unset, .unset] [(.int p3), (.int (2 : Int32)), (.ref b29), (.ref b29)])) rfl rfl (hb hby at_35)
  refine G1 st45 ?_
  have V45 := Arv.set Ar44 q44 S44 P44 H44 G44 rfl W45 2 rfl (Nat.le_of_ble_eq_true rfl)
  have XO46 : Old Z n0 h45 := XO40.wr W45 g_b29
  have f47 := f41.wr W45
  have f48 := V45
  have K49 : Keep h0 h45 [] := K43.wr W45 (Or.inr sz_b29)
  have Z49 : n0 ≤ h45.size := by rw [Wr.size W45]; exact Z43
  have N49 := Fr.snoc X45 N43 g_b29
  show Goes _ _ _ _ _ _ _ (T45.setTop (mkF m 36 #[.val (.int p0), .val (.int p1), .val (.int p2), .val (.int p3), .val (.int p4), .val (.int ((p0 &&& (3 : Int32)) + (1 : Int32))), .val (.int (((p0.toUInt32 >>> ((2 : Int32) &&& 31).toUInt32).toInt32) &&& (3 : Int32))), .val (.int (((p0.toUInt32 >>> ((4 : Int32) &&& 31).toUInt32).toInt32) &&& (3 : Int32))), .unset, .unset, .unset, .unset, .unset, .unset, .unset, .unset] [(.ref b29)]))
  refine G1 (fun _ => XS.astore X45.here hx rfl (hb hby at_36) rfl rfl (l' := #[.val (.int p0), .val (.int p1), .val (.int p2), .val (.int p3), .val (.int p4), .val (.int ((p0 &&& (3 : Int32)) + (1 : Int32))), .val (.int (((p0.toUInt32 >>> ((2 : Int32) &&& 31).toUInt32).toInt32) &&& (3 : Int32))), .val (.int (((p0.toUInt32 >>> ((4 : Int32) &&& 31).toUInt32).toInt32) &&& (3 : Int32))), .val (.ref b29), .unset, .unset, .unset, .unset, .unset, .unset, .unset]) rfl) ?_
  show Goes _ _ _ _ _ _ _ (T45.setTop (mkF m 38 _ []))
  show Goes _ _ _ _ _ _ _ (T45.setTop (mkF m 38 #[.val (.int p0), .val (.int p1), .val (.int p2), .val (.int p3), .val (.int p4), .val (.int ((p0 &&& (3 : Int32)) + (1 : Int32))), .val (.int (((p0.toUInt32 >>> ((2 : Int32) &&& 31).toUInt32).toInt32) &&& (3 : Int32))), .val (.int (((p0.toUInt32 >>> ((4 : Int32) &&& 31).toUInt32).toInt32) &&& (3 : Int32))), .val (.ref b29), .unset, .unset, .unset, .unset, .unset, .unset, .unset] []))
  have J56 : ∀ (vm5 vn6 vs7 vq9 : Int32), (vm5 = 1 ∨ vm5 = 2 ∨ vm5 = 3 ∨ vm5 = 4) → (vn6 = 0 ∨ vn6 = 1 ∨ vn6 = 2 ∨ vn6 = 3) → Goes p e below s room_1.cells room_1.slots (fun v h L => Q0 Z p0 p1 p2 p3 p4 ca cc h0 n0 v h L) (T45.setTop (mkF m 56 #[.val (.int p0), .val (.int p1), .val (.int p2), .val (.int p3), .val (.int p4), .val (.int vm5), .val (.int vn6), .val (.int vs7), .val (.ref b29), .val (.int vq9), .unset, .unset, .unset, .unset, .unset, .unset] [])) := by
    intro vm5 vn6 vs7 vq9 hmo hn
    rcases hmo with rfl | rfl | rfl | rfl
    · rcases hn with rfl | hnA
      · show Goes _ _ _ _ _ _ _ (T45.setTop (mkF m 56 #[.val (.int p0), .val (.int p1), .val (.int p2), .val (.int p3), .val (.int p4), .val (.int (1 : Int32)), .val (.int (0 : Int32)), .val (.int vs7), .val (.ref b29), .val (.int vq9), .unset, .unset, .unset, .unset, .unset, .unset] []))
        refine G1 (fun _ => XS.iload X45.here hx rfl (hb hby at_56) rfl ) ?_
        refine G1 (fun _ => XS.iconst X45.here hx rfl (hb hby at_58)) ?_
        refine G1 (fun _ => XS.icmpNo X45.here hx rfl (hb hby at_59) rfl (teq (by decide : (1 : Int32) = (1 : Int32))).2) ?_
        show Goes _ _ _ _ _ _ _ (T45.setTop (mkF m 62 _ []))
        refine G1 (fun _ => XS.iconst X45.here hx rfl (hb hby at_62)) ?_
        refine G1 (fun _ => XS.goto X45.here hx rfl (pc0 := 63) (pc' := 78) rfl (hb hby at_63) (by decide) (by decide)) ?_
        show Goes _ _ _ _ _ _ _ (T45.setTop (mkF m 78 _ [(.int (2 : Int32))]))
        refine G1 (fun _ => XS.istore X45.here hx rfl (hb hby at_78) rfl (l' := #[.val (.int p0), .val (.int p1), .val (.int p2), .val (.int p3), .val (.int p4), .val (.int (1 : Int32)), .val (.int (0 : Int32)), .val (.int vs7), .val (.ref b29), .val (.int vq9), .val (.int (2 : Int32)), .unset, .unset, .unset, .unset, .unset]) rfl) ?_
        show Goes _ _ _ _ _ _ _ (T45.setTop (mkF m 80 _ []))
        refine G1 (fun _ => XS.iload X45.here hx rfl (hb hby at_80) rfl ) ?_
        refine G1 (fun _ => XS.ifNo X45.here hx rfl (hb hby at_82) rfl ((if0 _ _).trans (teq (by decide : (0 : Int32) = (0 : Int32))).2)) ?_
        show Goes _ _ _ _ _ _ _ (T45.setTop (mkF m 85 _ []))
        refine G1 (fun _ => XS.iconst X45.here hx rfl (hb hby at_85)) ?_
        refine G1 (fun _ => XS.goto X45.here hx rfl (pc0 := 86) (pc' := 98) rfl (hb hby at_86) (by decide) (by decide)) ?_
        show Goes _ _ _ _ _ _ _ (T45.setTop (mkF m 98 _ [(.int (0 : Int32))]))
        refine G1 (fun _ => XS.istore X45.here hx rfl (hb hby at_98) rfl (l' := #[.val (.int p0), .val (.int p1), .val (.int p2), .val (.int p3), .val (.int p4), .val (.int (1 : Int32)), .val (.int (0 : Int32)), .val (.int vs7), .val (.ref b29), .val (.int vq9), .val (.int (2 : Int32)), .val (.int (0 : Int32)), .unset, .unset, .unset, .unset]) rfl) ?_
        show Goes _ _ _ _ _ _ _ (T45.setTop (mkF m 100 _ []))
        obtain ⟨T50, h50, X50, e50, E50, A50, D50, -, st50⟩ := newO X45 hx hZ hown w_1 w_2 w_3 e45 (g := (mkF m 100 #[.val (.int p0), .val (.int p1), .val (.int p2), .val (.int p3), .val (.int p4), .val (.int (1 : Int32)), .val (.int (0 : Int32)), .val (.int vs7), .val (.ref b29), .val (.int vq9), .val (.int (2 : Int32)), .val (.int (0 : Int32)), .unset, .unset, .unset, .unset] [])) rfl (hb hby at_100) (by decide) (by decide)
        obtain ⟨b50, g50⟩ : ∃ z, z = h45.size := ⟨_, rfl⟩
        rw [← g50] at A50 D50 st50
        refine G1 st50 ?_
        have g_b50 : n0 ≤ b50 := Nat.le_trans Z49 (Nat.le_of_eq g50.symm)
        have sz_b50 : h0.size ≤ b50 := Nat.le_trans K49.1 (Nat.le_of_eq g50.symm)
        have ne51 : b29 ≠ b50 := Nat.ne_of_lt (Nat.lt_of_lt_of_le f47.lt (Nat.le_of_eq g50.symm))
        have XO52 : Old Z n0 h50 := XO46.ext E50
        have f53 := f47.ext E50
        have f54 := f48.ext E50
        have K55 : Keep h0 h50 [] := K49.ext E50
        have Z55 : n0 ≤ h50.size := Nat.le_trans Z49 E50.1
        have E_b50 := A50
        have F_most_b50 : Fld Z h50 b50 "com/example/nehaba/nehaba/input/KeptValues" "most" "I" (.int (0 : Int32)) := D50 (Or.inr w_12) (ty := .int) (by decide)
        have F_keys_b50 : Fld Z h50 b50 "com/example/nehaba/nehaba/input/KeptValues" "keys" "[Ljava/lang/Object;" .null := D50 (Or.inr w_25) (ty := (.array (.object "java/lang/Object"))) (by decide)
        have F_hashes_b50 : Fld Z h50 b50 "com/example/nehaba/nehaba/input/KeptValues" "hashes" "[I" .null := D50 (Or.inr w_27) (ty := (.array .int)) (by decide)
        have F_values_b50 : Fld Z h50 b50 "com/example/nehaba/nehaba/input/KeptValues" "values" "[Ljava/lang/Object;" .null := D50 (Or.inr w_29) (ty := (.array (.object "java/lang/Object"))) (by decide)
        have F_shift_b50 : Fld Z h50 b50 "com/example/nehaba/nehaba/input/KeptValues" "shift" "I" (.int (0 : Int32)) := D50 (Or.inr w_32) (ty := .int) (by decide)
        have F_size_b50 : Fld Z h50 b50 "com/example/nehaba/nehaba/input/KeptValues" "size" "I" (.int (0 : Int32)) := D50 (Or.inl w_64) (ty := .int) (by decide)
        show Goes _ _ _ _ _ _ _ (T50.setTop (mkF m 103 _ [(.ref b50)]))
        refine G1 (fun _ => XS.dup X50.here hx rfl (hb hby at_103) rfl rfl) ?_
        refine G1 (fun _ => XS.iload X50.here hx rfl (hb hby at_104) rfl ) ?_
        obtain ⟨_, _, ⟨T56, L56, k56, n56⟩, -, X56, ⟨Lc56, hQ56, l56, y56, z56⟩, st56⟩ := X50.specialBack hx (y := mN7) rfl hown (mvT hZ w_4) (mvT hZ w_5) (mvT hZ w_6) (by decide) (backOf (W := 1) (rm1_1 l Z a0 hw [] b50 h50 n0 Z55 F_most_b50 F_keys_b50 F_hashes_b50 F_values_b50 F_shift_b50 F_size_b50 E_b50 g_b50) hZ w_6 w_3 (by decide) (by decide)) (g := (mkF m 106 #[.val (.int p0), .val (.int p1), .val (.int p2), .val (.int p3), .val (.int p4), .val (.int (1 : Int32)), .val (.int (0 : Int32)), .val (.int vs7), .val (.ref b29), .val (.int vq9), .val (.int (2 : Int32)), .val (.int (0 : Int32)), .unset, .unset, .unset, .unset] [(.int (1 : Int32)), (.ref b50), (.ref b50)])) rfl (by rw [hml]; rfl) (Steps.refl _) (a := b50) (argsL := [(.int (1 : Int32))]) (rest := [(.ref b50)]) (lenOf pd_0 rfl) rfl (by show 2 * 0 + _ ≤ _; exact Nat.le_of_eq rfl) (hb hby at_106) (fun _ _ => ⟨rfl, e50, (by decide : 2 + 3 ≤ _), (by decide : 9 + 6 ≤ _)⟩)
        dsimp only [Pt.U, Pt.locs, Pt.cells, Pt.slots] at X56 l56 y56 z56 st56 hQ56
        rw [l56, y56, z56] at X56
        obtain ⟨N56, KK56, hR56⟩ := hQ56
        have NA56 := Fr.app N49 N56
        have XO57 : Old Z n0 T56.heap := XO52.keep KK56 (allS g_b50 all0)
        have f58 := f53.keep KK56
        have f59 := f54.keep KK56 (ninS ne51 nin0)
        have f60 := E_b50.keep KK56
        have K67 : Keep h0 T56.heap [] := K55.trans KK56 (allS (Or.inr sz_b50) all0)
        have Z67 : n0 ≤ T56.heap.size := Nat.le_trans Z55 KK56.1
        obtain ⟨r56_0_0, r56_0_1, r56_0_2, kk56_0_0, kk56_0_1, kk56_0_2, rfl, g_r56_0_0, le_r56_0_0, g_r56_0_1, le_r56_0_1, g_r56_0_2, le_r56_0_2, nn56_0_0, nn56_0_1, nn56_0_2, v56_0_0, v56_0_1, v56_0_2, v56_0_3, v56_0_4, v56_0_5, v56_0_6, v56_0_7, v56_0_8, v56_0_9, oo56_0_0, oo56_0_1⟩ := hR56
        have ne68 : b29 ≠ r56_0_0 := Nat.ne_of_lt (Nat.lt_of_lt_of_le f53.lt le_r56_0_0)
        have ne69 : b50 ≠ r56_0_0 := Nat.ne_of_lt (Nat.lt_of_lt_of_le E_b50.lt le_r56_0_0)
        have sz_r56_0_0 : h0.size ≤ r56_0_0 := Nat.le_trans K55.1 le_r56_0_0
        have ne70 : b29 ≠ r56_0_1 := Nat.ne_of_lt (Nat.lt_of_lt_of_le f53.lt le_r56_0_1)
        have ne71 : b50 ≠ r56_0_1 := Nat.ne_of_lt (Nat.lt_of_lt_of_le E_b50.lt le_r56_0_1)
        have sz_r56_0_1 : h0.size ≤ r56_0_1 := Nat.le_trans K55.1 le_r56_0_1
        have ne72 : b29 ≠ r56_0_2 := Nat.ne_of_lt (Nat.lt_of_lt_of_le f53.lt le_r56_0_2)
        have ne73 : b50 ≠ r56_0_2 := Nat.ne_of_lt (Nat.lt_of_lt_of_le E_b50.lt le_r56_0_2)
        have sz_r56_0_2 : h0.size ≤ r56_0_2 := Nat.le_trans K55.1 le_r56_0_2
        refine G2 st56 ?_
        show Goes _ _ _ _ _ _ _ (T56.setTop (mkF m 109 _ [(.ref b50)]))
        show Goes _ _ _ _ _ _ _ (T56.setTop (mkF m 109 #[.val (.int p0), .val (.int p1), .val (.int p2), .val (.int p3), .val (.int p4), .val (.int (1 : Int32)), .val (.int (0 : Int32)), .val (.int vs7), .val (.ref b29), .val (.int vq9), .val (.int (2 : Int32)), .val (.int (0 : Int32)), .unset, .unset, .unset, .unset] [(.ref b50)]))
        have hN : 2 = 2 ∨ 2 = 4 ∨ 2 = 8 := (Or.inl rfl)
        have hS : (2 = 2 ∧ (31 : Int32) = 31) ∨ (2 = 4 ∧ (31 : Int32) = 30) ∨ (2 = 8 ∧ (31 : Int32) = 29) := (Or.inl ⟨rfl, rfl⟩)
        obtain ⟨f1, hf1⟩ : ∃ z : Fin 2, z.val = (own_f p1 (31 : Int32)).toNatClampNeg := ⟨⟨_, (own_first (N := 2) p1 hS).2⟩, rfl⟩
        obtain ⟨f2, hf2⟩ : ∃ z : Fin 2, z.val = (own_f p2 (31 : Int32)).toNatClampNeg := ⟨⟨_, (own_first (N := 2) p2 hS).2⟩, rfl⟩
        obtain ⟨f3, hf3⟩ : ∃ z : Fin 2, z.val = (own_f p3 (31 : Int32)).toNatClampNeg := ⟨⟨_, (own_first (N := 2) p3 hS).2⟩, rfl⟩
        obtain ⟨f4, hf4⟩ : ∃ z : Fin 2, z.val = (own_f vq9 (31 : Int32)).toNatClampNeg := ⟨⟨_, (own_first (N := 2) vq9 hS).2⟩, rfl⟩
        have ee1 : decide (p1 = vq9) = true → f1 = f4 := fun z => Fin.ext (by rw [hf1, hf4, of_decide_eq_true z])
        have ee2 : decide (p2 = vq9) = true → f2 = f4 := fun z => Fin.ext (by rw [hf2, hf4, of_decide_eq_true z])
        have ee3 : decide (p3 = vq9) = true → f3 = f4 := fun z => Fin.ext (by rw [hf3, hf4, of_decide_eq_true z])
        show Goes _ _ _ _ _ _ _ (T56.setTop (mkF m 109 #[.val (.int p0), .val (.int p1), .val (.int p2), .val (.int p3), .val (.int p4), .val (.int (1 : Int32)), .val (.int (0 : Int32)), .val (.int vs7), .val (.ref b29), .val (.int vq9), .val (.int (2 : Int32)), .val (.int (0 : Int32)), .unset, .unset, .unset, .unset] [(.ref b50)]))
        refine G1 (fun _ => XS.astore X56.here hx rfl (hb hby at_109) rfl rfl (l' := #[.val (.int p0), .val (.int p1), .val (.int p2), .val (.int p3), .val (.int p4), .val (.int (1 : Int32)), .val (.int (0 : Int32)), .val (.int vs7), .val (.ref b29), .val (.int vq9), .val (.int (2 : Int32)), .val (.int (0 : Int32)), .val (.ref b50), .unset, .unset, .unset]) rfl) ?_
        show Goes _ _ _ _ _ _ _ (T56.setTop (mkF m 111 _ []))
        refine G1 (fun _ => XS.iload X56.here hx rfl (hb hby at_111) rfl ) ?_
        refine G1 (fun _ => XS.iconst X56.here hx rfl (hb hby at_113)) ?_
        refine G1 (fun _ => XS.icmpYes X56.here hx rfl (pc0 := 114) (pc' := 136) rfl (hb hby at_114) rfl (tlt (by decide : (0 : Int32) < (1 : Int32))).1 (by decide) (by decide)) ?_
        show Goes _ _ _ _ _ _ _ (T56.setTop (mkF m 136 _ []))
        show Goes _ _ _ _ _ _ _ (T56.setTop (mkF m 136 #[.val (.int p0), .val (.int p1), .val (.int p2), .val (.int p3), .val (.int p4), .val (.int (1 : Int32)), .val (.int (0 : Int32)), .val (.int vs7), .val (.ref b29), .val (.int vq9), .val (.int (2 : Int32)), .val (.int (0 : Int32)), .val (.ref b50), .unset, .unset, .unset] []))
        refine G1 (fun _ => XS.iload X56.here hx rfl (hb hby at_136) rfl ) ?_
        refine G1 (fun _ => XS.iconst X56.here hx rfl (hb hby at_138)) ?_
        refine G1 (fun _ => XS.icmpYes X56.here hx rfl (pc0 := 139) (pc' := 161) rfl (hb hby at_139) rfl (tlt (by decide : (0 : Int32) < (2 : Int32))).1 (by decide) (by decide)) ?_
        show Goes _ _ _ _ _ _ _ (T56.setTop (mkF m 161 _ []))
        show Goes _ _ _ _ _ _ _ (T56.setTop (mkF m 161 #[.val (.int p0), .val (.int p1), .val (.int p2), .val (.int p3), .val (.int p4), .val (.int (1 : Int32)), .val (.int (0 : Int32)), .val (.int vs7), .val (.ref b29), .val (.int vq9), .val (.int (2 : Int32)), .val (.int (0 : Int32)), .val (.ref b50), .unset, .unset, .unset] []))
        refine G1 (fun _ => XS.iload X56.here hx rfl (hb hby at_161) rfl ) ?_
        refine G1 (fun _ => XS.iconst X56.here hx rfl (hb hby at_163)) ?_
        refine G1 (fun _ => XS.icmpYes X56.here hx rfl (pc0 := 164) (pc' := 186) rfl (hb hby at_164) rfl (tlt (by decide : (0 : Int32) < (3 : Int32))).1 (by decide) (by decide)) ?_
        show Goes _ _ _ _ _ _ _ (T56.setTop (mkF m 186 _ []))
        refine G1 (fun _ => XS.iconst X56.here hx rfl (hb hby at_186)) ?_
        refine G1 (fun _ => XS.istore X56.here hx rfl (hb hby at_187) rfl (l' := #[.val (.int p0), .val (.int p1), .val (.int p2), .val (.int p3), .val (.int p4), .val (.int (1 : Int32)), .val (.int (0 : Int32)), .val (.int vs7), .val (.ref b29), .val (.int vq9), .val (.int (2 : Int32)), .val (.int (0 : Int32)), .val (.ref b50), .val (.int (0 : Int32)), .unset, .unset]) rfl) ?_
        show Goes _ _ _ _ _ _ _ (T56.setTop (mkF m 189 _ []))
        show Goes _ _ _ _ _ _ _ (T56.setTop (mkF m 189 #[.val (.int p0), .val (.int p1), .val (.int p2), .val (.int p3), .val (.int p4), .val (.int (1 : Int32)), .val (.int (0 : Int32)), .val (.int vs7), .val (.ref b29), .val (.int vq9), .val (.int (2 : Int32)), .val (.int (0 : Int32)), .val (.ref b50), .val (.int (0 : Int32)), .unset, .unset] []))
        have hsk0 : seekP own_t0 (own_e3 (decide (p1 = vq9)) (decide (p2 = vq9)) (decide (p3 = vq9))) 2 9 f4.val = some f4.val := rfl
        have hpb : own_b (own_t0 f4.val) = own_i false := rfl
        have hcn : own_b (own_t0 ((0 : Int32)).toNatClampNeg) + own_b (own_t0 ((1 : Int32)).toNatClampNeg) = (0 : Int32) := rfl
        have hsk : seekP own_t0 (fun j => decide (own_H p1 p2 p3 j = vq9)) 2 9 (own_f vq9 (31 : Int32)).toNatClampNeg = some f4.val := by rw [own_e3H, ← hf4]; exact hsk0
        have hH : ∀ p j, own_t0 p = some j → (fun _ => (0 : Int32)) p = own_H p1 p2 p3 j := own_hH0
        have J252 : ∀ ex : Int32, own_i false = ex → Goes p e below s room_1.cells room_1.slots (fun v h L => Q0 Z p0 p1 p2 p3 p4 ca cc h0 n0 v h L) (T56.setTop (mkF m 252 #[.val (.int p0), .val (.int p1), .val (.int p2), .val (.int p3), .val (.int p4), .val (.int (1 : Int32)), .val (.int (0 : Int32)), .val (.int vs7), .val (.ref b29), .val (.int vq9), .val (.int (2 : Int32)), .val (.int (0 : Int32)), .val (.ref b50), .val (.int ex), .unset, .unset] [])) := by
          intro ex hex
          refine G1 (fun _ => XS.aload X56.here hx rfl (hb hby at_252) rfl rfl) ?_
          refine G1 (fun _ => XS.aload X56.here hx rfl (hb hby at_254) rfl rfl) ?_
          refine G1 (fun _ => XS.iload X56.here hx rfl (hb hby at_256) rfl ) ?_
          obtain ⟨cq74, kq74, q74a, q74b, q74c⟩ := isOf hZ rfl v56_0_6
          obtain ⟨_, _, ⟨T74, L74, k74, n74⟩, -, X74, ⟨Lc74, hQ74, l74, y74, z74⟩, st74⟩ := X56.virtualBack hx (y := mN8) (z := mN8) hown (mvT hZ w_33) (mvT hZ w_34) (notFace_of_selects (args := #[]) (mvT hZ w_36)) (mvT hZ w_36) (mvT hZ w_35) (by decide) (backOf (W := 1) (rm5 l Z a0 hw [] b50 vq9 r56_0_0 r56_0_1 r56_0_2 kk56_0_0 kk56_0_1 kk56_0_2 2 own_t0 (fun _ => (0 : Int32)) (fun _ => r56_0_0) (fun _ => r56_0_0) (31 : Int32) (1 : Int32) (0 : Int32) (own_H p1 p2 p3) 9 f4.val T56.heap n0 Z67 v56_0_6 v56_0_1 v56_0_2 v56_0_3 v56_0_0 v56_0_5 v56_0_4 v56_0_7 v56_0_8 v56_0_9 hN hH hS hsk) hZ w_37 w_3 (by decide) (by decide)) q74a q74c (g := (mkF m 258 #[.val (.int p0), .val (.int p1), .val (.int p2), .val (.int p3), .val (.int p4), .val (.int (1 : Int32)), .val (.int (0 : Int32)), .val (.int vs7), .val (.ref b29), .val (.int vq9), .val (.int (2 : Int32)), .val (.int (0 : Int32)), .val (.ref b50), .val (.int ex), .unset, .unset] [(.int vq9), (.ref b50), (.ref b50)])) rfl (by rw [hml]; rfl) (Steps.refl _) (argsL := [(.int vq9)]) (rest := [(.ref b50)]) (lenOf pd_2 rfl) rfl (by show 2 * 0 + _ ≤ _; exact Nat.le_of_eq rfl) (hb hby at_258) (fun _ _ => ⟨rfl, rfl, (by decide : 5 + 0 ≤ _), (by decide : 15 + 0 ≤ _)⟩)
          dsimp only [Pt.U, Pt.locs, Pt.cells, Pt.slots] at X74 l74 y74 z74 st74 hQ74
          rw [l74, y74, z74] at X74
          obtain ⟨N74, eh74, r74, rfl, r1_74, r2_74, r3_74⟩ := hQ74
          have NA74 := Fr.app NA56 N74
          refine G2 st74 ?_
          show Goes _ _ _ _ _ _ _ (T74.setTop (mkF m 261 _ [(.int r74), (.ref b50)]))
          obtain ⟨cq75, kq75, q75a, q75b, q75c⟩ := isOf hZ eh74 v56_0_6
          obtain ⟨_, _, ⟨T75, L75, k75, n75⟩, -, X75, ⟨Lc75, hQ75, l75, y75, z75⟩, st75⟩ := X74.virtualBack hx (y := mN6) (z := mN6) hown (mvT hZ w_47) (mvT hZ w_48) (notFace_of_selects (args := #[]) (mvT hZ w_50)) (mvT hZ w_50) (mvT hZ w_49) (by decide) (backOf (W := 0) (rm8 l Z a0 hw [] b50 r74 r56_0_0 r56_0_1 r56_0_2 kk56_0_0 kk56_0_1 kk56_0_2 2 own_t0 (fun _ => (0 : Int32)) (fun _ => r56_0_0) (fun _ => r56_0_0) (31 : Int32) (1 : Int32) (0 : Int32) T56.heap n0 Z67 v56_0_6 v56_0_1 v56_0_2 v56_0_3 v56_0_0 v56_0_5 v56_0_4 v56_0_7 v56_0_8 v56_0_9 r1_74 r3_74) hZ w_51 w_3 (by decide) (by decide)) q75a q75c (g := (mkF m 261 #[.val (.int p0), .val (.int p1), .val (.int p2), .val (.int p3), .val (.int p4), .val (.int (1 : Int32)), .val (.int (0 : Int32)), .val (.int vs7), .val (.ref b29), .val (.int vq9), .val (.int (2 : Int32)), .val (.int (0 : Int32)), .val (.ref b50), .val (.int ex), .unset, .unset] [(.int r74), (.ref b50)])) rfl (by rw [hml]; rfl) (Steps.refl _) (argsL := [(.int r74)]) (rest := []) (lenOf pd_4 rfl) rfl (by show 2 * 0 + _ ≤ _; exact Nat.le_of_eq rfl) (hb hby at_261) (fun _ _ => ⟨rfl, eh74, (by decide : 5 + 0 ≤ _), (by decide : 15 + 0 ≤ _)⟩)
          dsimp only [Pt.U, Pt.locs, Pt.cells, Pt.slots] at X75 l75 y75 z75 st75 hQ75
          rw [l75, y75, z75] at X75
          obtain ⟨N75, eh75, hv75⟩ := hQ75
          have NA75 := Fr.app NA74 N75
          subst hv75
          refine G2 st75 ?_
          show Goes _ _ _ _ _ _ _ (T75.setTop (mkF m 264 _ [(.int (own_b (own_t0 (r74).toNatClampNeg)))]))
          refine G1 (fun _ => XS.istore X75.here hx rfl (hb hby at_264) rfl (l' := #[.val (.int p0), .val (.int p1), .val (.int p2), .val (.int p3), .val (.int p4), .val (.int (1 : Int32)), .val (.int (0 : Int32)), .val (.int vs7), .val (.ref b29), .val (.int vq9), .val (.int (2 : Int32)), .val (.int (0 : Int32)), .val (.ref b50), .val (.int ex), .val (.int (own_b (own_t0 (r74).toNatClampNeg))), .unset]) rfl) ?_
          show Goes _ _ _ _ _ _ _ (T75.setTop (mkF m 266 _ []))
          show Goes _ _ _ _ _ _ _ (T75.setTop (mkF m 266 #[.val (.int p0), .val (.int p1), .val (.int p2), .val (.int p3), .val (.int p4), .val (.int (1 : Int32)), .val (.int (0 : Int32)), .val (.int vs7), .val (.ref b29), .val (.int vq9), .val (.int (2 : Int32)), .val (.int (0 : Int32)), .val (.ref b50), .val (.int ex), .val (.int (own_b (own_t0 (r74).toNatClampNeg))), .unset] []))
          have hfx : (own_b (own_t0 (r74).toNatClampNeg)) = ex := by rw [r2_74]; exact hpb.trans hex
          rw [hfx]
          exact J266_2 _ _ _ _ _ ex _ _ r56_0_0 r56_0_1 r56_0_2 kk56_0_0 kk56_0_1 kk56_0_2 own_t0 (fun _ => (0 : Int32)) (fun _ => r56_0_0) (fun _ => r56_0_0) (0 : Int32) T56.heap _ _ X75 eh75 NA75 Z67 v56_0_6 v56_0_1 v56_0_2 v56_0_3 v56_0_0 v56_0_5 v56_0_4 v56_0_7 v56_0_8 v56_0_9 hcn
        show Goes _ _ _ _ _ _ _ (T56.setTop (mkF m 189 #[.val (.int p0), .val (.int p1), .val (.int p2), .val (.int p3), .val (.int p4), .val (.int (1 : Int32)), .val (.int (0 : Int32)), .val (.int vs7), .val (.ref b29), .val (.int vq9), .val (.int (2 : Int32)), .val (.int (0 : Int32)), .val (.ref b50), .val (.int (0 : Int32)), .unset, .unset] []))
        refine G1 (fun _ => XS.iload X56.here hx rfl (hb hby at_189) rfl ) ?_
        refine G1 (fun _ => XS.iconst X56.here hx rfl (hb hby at_191)) ?_
        refine G1 (fun _ => XS.icmpYes X56.here hx rfl (pc0 := 192) (pc' := 210) rfl (hb hby at_192) rfl (tlt (by decide : (0 : Int32) < (1 : Int32))).1 (by decide) (by decide)) ?_
        show Goes _ _ _ _ _ _ _ (T56.setTop (mkF m 210 _ []))
        refine G1 (fun _ => XS.iload X56.here hx rfl (hb hby at_210) rfl ) ?_
        refine G1 (fun _ => XS.iconst X56.here hx rfl (hb hby at_212)) ?_
        refine G1 (fun _ => XS.icmpYes X56.here hx rfl (pc0 := 213) (pc' := 231) rfl (hb hby at_213) rfl (tlt (by decide : (0 : Int32) < (2 : Int32))).1 (by decide) (by decide)) ?_
        show Goes _ _ _ _ _ _ _ (T56.setTop (mkF m 231 _ []))
        refine G1 (fun _ => XS.iload X56.here hx rfl (hb hby at_231) rfl ) ?_
        refine G1 (fun _ => XS.iconst X56.here hx rfl (hb hby at_233)) ?_
        refine G1 (fun _ => XS.icmpYes X56.here hx rfl (pc0 := 234) (pc' := 252) rfl (hb hby at_234) rfl (tlt (by decide : (0 : Int32) < (3 : Int32))).1 (by decide) (by decide)) ?_
        show Goes _ _ _ _ _ _ _ (T56.setTop (mkF m 252 _ []))
        show Goes _ _ _ _ _ _ _ (T56.setTop (mkF m 252 #[.val (.int p0), .val (.int p1), .val (.int p2), .val (.int p3), .val (.int p4), .val (.int (1 : Int32)), .val (.int (0 : Int32)), .val (.int vs7), .val (.ref b29), .val (.int vq9), .val (.int (2 : Int32)), .val (.int (0 : Int32)), .val (.ref b50), .val (.int (0 : Int32)), .unset, .unset] []))
        exact J252 _ rfl
      · show Goes _ _ _ _ _ _ _ (T45.setTop (mkF m 56 #[.val (.int p0), .val (.int p1), .val (.int p2), .val (.int p3), .val (.int p4), .val (.int (1 : Int32)), .val (.int vn6), .val (.int vs7), .val (.ref b29), .val (.int vq9), .unset, .unset, .unset, .unset, .unset, .unset] []))
        refine G1 (fun _ => XS.iload X45.here hx rfl (hb hby at_56) rfl ) ?_
        refine G1 (fun _ => XS.iconst X45.here hx rfl (hb hby at_58)) ?_
        refine G1 (fun _ => XS.icmpNo X45.here hx rfl (hb hby at_59) rfl (teq (by decide : (1 : Int32) = (1 : Int32))).2) ?_
        show Goes _ _ _ _ _ _ _ (T45.setTop (mkF m 62 _ []))
        refine G1 (fun _ => XS.iconst X45.here hx rfl (hb hby at_62)) ?_
        refine G1 (fun _ => XS.goto X45.here hx rfl (pc0 := 63) (pc' := 78) rfl (hb hby at_63) (by decide) (by decide)) ?_
        show Goes _ _ _ _ _ _ _ (T45.setTop (mkF m 78 _ [(.int (2 : Int32))]))
        refine G1 (fun _ => XS.istore X45.here hx rfl (hb hby at_78) rfl (l' := #[.val (.int p0), .val (.int p1), .val (.int p2), .val (.int p3), .val (.int p4), .val (.int (1 : Int32)), .val (.int vn6), .val (.int vs7), .val (.ref b29), .val (.int vq9), .val (.int (2 : Int32)), .unset, .unset, .unset, .unset, .unset]) rfl) ?_
        show Goes _ _ _ _ _ _ _ (T45.setTop (mkF m 80 _ []))
        refine G1 (fun _ => XS.iload X45.here hx rfl (hb hby at_80) rfl ) ?_
        refine G1 (fun _ => XS.ifYes X45.here hx rfl (pc0 := 82) (pc' := 89) rfl (hb hby at_82) rfl ((if0 _ _).trans (feq (own_nA hnA).1).2) (by decide) (by decide)) ?_
        show Goes _ _ _ _ _ _ _ (T45.setTop (mkF m 89 _ []))
        refine G1 (fun _ => XS.iload X45.here hx rfl (hb hby at_89) rfl ) ?_
        refine G1 (fun _ => XS.iconst X45.here hx rfl (hb hby at_91)) ?_
        refine G1 (fun _ => XS.isub X45.here hx rfl (hb hby at_92) rfl) ?_
        show Goes _ _ _ _ _ _ _ (T45.setTop (mkF m 93 _ [(.int (vn6 - (1 : Int32)))]))
        refine G1 (fun _ => XS.iload X45.here hx rfl (hb hby at_93) rfl ) ?_
        refine G1 (fun _ => iremM X45 hx rfl (hb hby at_95) rfl (by decide)) ?_
        show Goes _ _ _ _ _ _ _ (T45.setTop (mkF m 96 _ [(.int ((vn6 - (1 : Int32)) % (1 : Int32)))]))
        refine G1 (fun _ => XS.iconst X45.here hx rfl (hb hby at_96)) ?_
        refine G1 (fun _ => XS.iadd X45.here hx rfl (hb hby at_97) rfl) ?_
        show Goes _ _ _ _ _ _ _ (T45.setTop (mkF m 98 _ [(.int (((vn6 - (1 : Int32)) % (1 : Int32)) + (1 : Int32)))]))
        refine G1 (fun _ => XS.istore X45.here hx rfl (hb hby at_98) rfl (l' := #[.val (.int p0), .val (.int p1), .val (.int p2), .val (.int p3), .val (.int p4), .val (.int (1 : Int32)), .val (.int vn6), .val (.int vs7), .val (.ref b29), .val (.int vq9), .val (.int (2 : Int32)), .val (.int (((vn6 - (1 : Int32)) % (1 : Int32)) + (1 : Int32))), .unset, .unset, .unset, .unset]) rfl) ?_
        show Goes _ _ _ _ _ _ _ (T45.setTop (mkF m 100 _ []))
        obtain ⟨T76, h76, X76, e76, E76, A76, D76, -, st76⟩ := newO X45 hx hZ hown w_1 w_2 w_3 e45 (g := (mkF m 100 #[.val (.int p0), .val (.int p1), .val (.int p2), .val (.int p3), .val (.int p4), .val (.int (1 : Int32)), .val (.int vn6), .val (.int vs7), .val (.ref b29), .val (.int vq9), .val (.int (2 : Int32)), .val (.int (((vn6 - (1 : Int32)) % (1 : Int32)) + (1 : Int32))), .unset, .unset, .unset, .unset] [])) rfl (hb hby at_100) (by decide) (by decide)
        obtain ⟨b76, g76⟩ : ∃ z, z = h45.size := ⟨_, rfl⟩
        rw [← g76] at A76 D76 st76
        refine G1 st76 ?_
        have g_b76 : n0 ≤ b76 := Nat.le_trans Z49 (Nat.le_of_eq g76.symm)
        have sz_b76 : h0.size ≤ b76 := Nat.le_trans K49.1 (Nat.le_of_eq g76.symm)
        have ne77 : b29 ≠ b76 := Nat.ne_of_lt (Nat.lt_of_lt_of_le f47.lt (Nat.le_of_eq g76.symm))
        have XO78 : Old Z n0 h76 := XO46.ext E76
        have f79 := f47.ext E76
        have f80 := f48.ext E76
        have K81 : Keep h0 h76 [] := K49.ext E76
        have Z81 : n0 ≤ h76.size := Nat.le_trans Z49 E76.1
        have E_b76 := A76
        have F_most_b76 : Fld Z h76 b76 "com/example/nehaba/nehaba/input/KeptValues" "most" "I" (.int (0 : Int32)) := D76 (Or.inr w_12) (ty := .int) (by decide)
        have F_keys_b76 : Fld Z h76 b76 "com/example/nehaba/nehaba/input/KeptValues" "keys" "[Ljava/lang/Object;" .null := D76 (Or.inr w_25) (ty := (.array (.object "java/lang/Object"))) (by decide)
        have F_hashes_b76 : Fld Z h76 b76 "com/example/nehaba/nehaba/input/KeptValues" "hashes" "[I" .null := D76 (Or.inr w_27) (ty := (.array .int)) (by decide)
        have F_values_b76 : Fld Z h76 b76 "com/example/nehaba/nehaba/input/KeptValues" "values" "[Ljava/lang/Object;" .null := D76 (Or.inr w_29) (ty := (.array (.object "java/lang/Object"))) (by decide)
        have F_shift_b76 : Fld Z h76 b76 "com/example/nehaba/nehaba/input/KeptValues" "shift" "I" (.int (0 : Int32)) := D76 (Or.inr w_32) (ty := .int) (by decide)
        have F_size_b76 : Fld Z h76 b76 "com/example/nehaba/nehaba/input/KeptValues" "size" "I" (.int (0 : Int32)) := D76 (Or.inl w_64) (ty := .int) (by decide)
        show Goes _ _ _ _ _ _ _ (T76.setTop (mkF m 103 _ [(.ref b76)]))
        refine G1 (fun _ => XS.dup X76.here hx rfl (hb hby at_103) rfl rfl) ?_
        refine G1 (fun _ => XS.iload X76.here hx rfl (hb hby at_104) rfl ) ?_
        obtain ⟨_, _, ⟨T82, L82, k82, n82⟩, -, X82, ⟨Lc82, hQ82, l82, y82, z82⟩, st82⟩ := X76.specialBack hx (y := mN7) rfl hown (mvT hZ w_4) (mvT hZ w_5) (mvT hZ w_6) (by decide) (backOf (W := 1) (rm1_1 l Z a0 hw [] b76 h76 n0 Z81 F_most_b76 F_keys_b76 F_hashes_b76 F_values_b76 F_shift_b76 F_size_b76 E_b76 g_b76) hZ w_6 w_3 (by decide) (by decide)) (g := (mkF m 106 #[.val (.int p0), .val (.int p1), .val (.int p2), .val (.int p3), .val (.int p4), .val (.int (1 : Int32)), .val (.int vn6), .val (.int vs7), .val (.ref b29), .val (.int vq9), .val (.int (2 : Int32)), .val (.int (((vn6 - (1 : Int32)) % (1 : Int32)) + (1 : Int32))), .unset, .unset, .unset, .unset] [(.int (1 : Int32)), (.ref b76), (.ref b76)])) rfl (by rw [hml]; rfl) (Steps.refl _) (a := b76) (argsL := [(.int (1 : Int32))]) (rest := [(.ref b76)]) (lenOf pd_0 rfl) rfl (by show 2 * 0 + _ ≤ _; exact Nat.le_of_eq rfl) (hb hby at_106) (fun _ _ => ⟨rfl, e76, (by decide : 2 + 3 ≤ _), (by decide : 9 + 6 ≤ _)⟩)
        dsimp only [Pt.U, Pt.locs, Pt.cells, Pt.slots] at X82 l82 y82 z82 st82 hQ82
        rw [l82, y82, z82] at X82
        obtain ⟨N82, KK82, hR82⟩ := hQ82
        have NA82 := Fr.app N49 N82
        have XO83 : Old Z n0 T82.heap := XO78.keep KK82 (allS g_b76 all0)
        have f84 := f79.keep KK82
        have f85 := f80.keep KK82 (ninS ne77 nin0)
        have f86 := E_b76.keep KK82
        have K93 : Keep h0 T82.heap [] := K81.trans KK82 (allS (Or.inr sz_b76) all0)
        have Z93 : n0 ≤ T82.heap.size := Nat.le_trans Z81 KK82.1
        obtain ⟨r82_0_0, r82_0_1, r82_0_2, kk82_0_0, kk82_0_1, kk82_0_2, rfl, g_r82_0_0, le_r82_0_0, g_r82_0_1, le_r82_0_1, g_r82_0_2, le_r82_0_2, nn82_0_0, nn82_0_1, nn82_0_2, v82_0_0, v82_0_1, v82_0_2, v82_0_3, v82_0_4, v82_0_5, v82_0_6, v82_0_7, v82_0_8, v82_0_9, oo82_0_0, oo82_0_1⟩ := hR82
        have ne94 : b29 ≠ r82_0_0 := Nat.ne_of_lt (Nat.lt_of_lt_of_le f79.lt le_r82_0_0)
        have ne95 : b76 ≠ r82_0_0 := Nat.ne_of_lt (Nat.lt_of_lt_of_le E_b76.lt le_r82_0_0)
        have sz_r82_0_0 : h0.size ≤ r82_0_0 := Nat.le_trans K81.1 le_r82_0_0
        have ne96 : b29 ≠ r82_0_1 := Nat.ne_of_lt (Nat.lt_of_lt_of_le f79.lt le_r82_0_1)
        have ne97 : b76 ≠ r82_0_1 := Nat.ne_of_lt (Nat.lt_of_lt_of_le E_b76.lt le_r82_0_1)
        have sz_r82_0_1 : h0.size ≤ r82_0_1 := Nat.le_trans K81.1 le_r82_0_1
        have ne98 : b29 ≠ r82_0_2 := Nat.ne_of_lt (Nat.lt_of_lt_of_le f79.lt le_r82_0_2)
        have ne99 : b76 ≠ r82_0_2 := Nat.ne_of_lt (Nat.lt_of_lt_of_le E_b76.lt le_r82_0_2)
        have sz_r82_0_2 : h0.size ≤ r82_0_2 := Nat.le_trans K81.1 le_r82_0_2
        refine G2 st82 ?_
        show Goes _ _ _ _ _ _ _ (T82.setTop (mkF m 109 _ [(.ref b76)]))
        show Goes _ _ _ _ _ _ _ (T82.setTop (mkF m 109 #[.val (.int p0), .val (.int p1), .val (.int p2), .val (.int p3), .val (.int p4), .val (.int (1 : Int32)), .val (.int vn6), .val (.int vs7), .val (.ref b29), .val (.int vq9), .val (.int (2 : Int32)), .val (.int (((vn6 - (1 : Int32)) % (1 : Int32)) + (1 : Int32))), .unset, .unset, .unset, .unset] [(.ref b76)]))
        have hN : 2 = 2 ∨ 2 = 4 ∨ 2 = 8 := (Or.inl rfl)
        have hS : (2 = 2 ∧ (31 : Int32) = 31) ∨ (2 = 4 ∧ (31 : Int32) = 30) ∨ (2 = 8 ∧ (31 : Int32) = 29) := (Or.inl ⟨rfl, rfl⟩)
        obtain ⟨f1, hf1⟩ : ∃ z : Fin 2, z.val = (own_f p1 (31 : Int32)).toNatClampNeg := ⟨⟨_, (own_first (N := 2) p1 hS).2⟩, rfl⟩
        obtain ⟨f2, hf2⟩ : ∃ z : Fin 2, z.val = (own_f p2 (31 : Int32)).toNatClampNeg := ⟨⟨_, (own_first (N := 2) p2 hS).2⟩, rfl⟩
        obtain ⟨f3, hf3⟩ : ∃ z : Fin 2, z.val = (own_f p3 (31 : Int32)).toNatClampNeg := ⟨⟨_, (own_first (N := 2) p3 hS).2⟩, rfl⟩
        obtain ⟨f4, hf4⟩ : ∃ z : Fin 2, z.val = (own_f vq9 (31 : Int32)).toNatClampNeg := ⟨⟨_, (own_first (N := 2) vq9 hS).2⟩, rfl⟩
        have ee1 : decide (p1 = vq9) = true → f1 = f4 := fun z => Fin.ext (by rw [hf1, hf4, of_decide_eq_true z])
        have ee2 : decide (p2 = vq9) = true → f2 = f4 := fun z => Fin.ext (by rw [hf2, hf4, of_decide_eq_true z])
        have ee3 : decide (p3 = vq9) = true → f3 = f4 := fun z => Fin.ext (by rw [hf3, hf4, of_decide_eq_true z])
        show Goes _ _ _ _ _ _ _ (T82.setTop (mkF m 109 #[.val (.int p0), .val (.int p1), .val (.int p2), .val (.int p3), .val (.int p4), .val (.int (1 : Int32)), .val (.int vn6), .val (.int vs7), .val (.ref b29), .val (.int vq9), .val (.int (2 : Int32)), .val (.int (((vn6 - (1 : Int32)) % (1 : Int32)) + (1 : Int32))), .unset, .unset, .unset, .unset] [(.ref b76)]))
        refine G1 (fun _ => XS.astore X82.here hx rfl (hb hby at_109) rfl rfl (l' := #[.val (.int p0), .val (.int p1), .val (.int p2), .val (.int p3), .val (.int p4), .val (.int (1 : Int32)), .val (.int vn6), .val (.int vs7), .val (.ref b29), .val (.int vq9), .val (.int (2 : Int32)), .val (.int (((vn6 - (1 : Int32)) % (1 : Int32)) + (1 : Int32))), .val (.ref b76), .unset, .unset, .unset]) rfl) ?_
        show Goes _ _ _ _ _ _ _ (T82.setTop (mkF m 111 _ []))
        refine G1 (fun _ => XS.iload X82.here hx rfl (hb hby at_111) rfl ) ?_
        refine G1 (fun _ => XS.iconst X82.here hx rfl (hb hby at_113)) ?_
        refine G1 (fun _ => XS.icmpNo X82.here hx rfl (hb hby at_114) rfl (flt (own_nA hnA).2).1) ?_
        show Goes _ _ _ _ _ _ _ (T82.setTop (mkF m 117 _ []))
        refine G1 (fun _ => XS.aload X82.here hx rfl (hb hby at_117) rfl rfl) ?_
        refine G1 (fun _ => XS.aload X82.here hx rfl (hb hby at_119) rfl rfl) ?_
        refine G1 (fun _ => XS.iconst X82.here hx rfl (hb hby at_121)) ?_
        obtain ⟨cl100, Ar100, q100, S100, P100, H100, G100⟩ := id f85
        have hin100 : ¬ ((0 : Int32) < 0 ∨ cl100.slots.size ≤ ((0 : Int32)).toNatClampNeg) := inb_of S100 ⟨by decide, by decide⟩
        have hat100 : cl100.slots[((0 : Int32)).toNatClampNeg]? = some (.int p1) := H100 _ (by rw [S100]; decide)
        refine G1 (fun _ => X82.iaload hx (j := (0 : Int32)) (v := (.int p1)) (by exact Ar100.1) (State.isArrayOf_alike hZ.alike Ar100.2.1) Ar100.2.2 hin100 hat100 (g := (mkF m 122 #[.val (.int p0), .val (.int p1), .val (.int p2), .val (.int p3), .val (.int p4), .val (.int (1 : Int32)), .val (.int vn6), .val (.int vs7), .val (.ref b29), .val (.int vq9), .val (.int (2 : Int32)), .val (.int (((vn6 - (1 : Int32)) % (1 : Int32)) + (1 : Int32))), .val (.ref b76), .unset, .unset, .unset] [(.int (0 : Int32)), (.ref b29), (.ref b76)])) rfl rfl (hb hby at_122) _) ?_
        show Goes _ _ _ _ _ _ _ (T82.setTop (mkF m 123 _ [(.int p1), (.ref b76)]))
        refine G1 (fun _ => XS.iconst X82.here hx rfl (hb hby at_123)) ?_
        obtain ⟨_, _, ⟨T101, L101, k101, n101⟩, -, X101, ⟨Lc101, hQ101, l101, y101, z101⟩, st101⟩ := Jvm.LawKit.callS X82 hx (y := mN9) hown (mvT hZ w_52) (mvT hZ w_53) (mvT hZ w_15) (mvT hZ w_54) (by decide) (backOf (W := 2) (rm9 l Z a0 hw [] (0 : Int32) ca cc T82.heap n0 Z93 (S_high.ext XO83.2) (S_cache.ext XO83.2) BX XO83 (by decide) (by decide)) hZ w_54 w_15 (by decide) (by decide)) (g := (mkF m 124 #[.val (.int p0), .val (.int p1), .val (.int p2), .val (.int p3), .val (.int p4), .val (.int (1 : Int32)), .val (.int vn6), .val (.int vs7), .val (.ref b29), .val (.int vq9), .val (.int (2 : Int32)), .val (.int (((vn6 - (1 : Int32)) % (1 : Int32)) + (1 : Int32))), .val (.ref b76), .unset, .unset, .unset] [(.int (0 : Int32)), (.int p1), (.ref b76)])) rfl (by rw [hml]; rfl) (argsL := [(.int (0 : Int32))]) (rest := [(.int p1), (.ref b76)]) (lenOf pd_5 rfl) rfl (by show 2 * 0 + _ ≤ _; exact Nat.le_of_eq rfl) (hb hby at_124) (fun _ _ => ⟨rfl, rfl, (by decide : 5 + 0 ≤ _), (by decide : 15 + 0 ≤ _)⟩)
        dsimp only [Pt.U, Pt.locs, Pt.cells, Pt.slots] at X101 l101 y101 z101 st101 hQ101
        rw [l101, y101, z101] at X101
        obtain ⟨N101, KK101, r101, rfl, ex101⟩ := hQ101
        have NA101 := Fr.app NA82 N101
        have XO102 : Old Z n0 T101.heap := XO83.keep KK101 all0
        have f103 := f84.keep KK101
        have f104 := f85.keep KK101 nin0
        have f105 := v82_0_6.keep KK101
        have f106 := v82_0_0.keep KK101 nin0
        have f107 := v82_0_1.keep KK101 nin0
        have f108 := v82_0_2.keep KK101 nin0
        have f109 := v82_0_3.keep KK101 nin0
        have f110 := v82_0_4.keep KK101 nin0
        have f111 := v82_0_5.keep KK101 nin0
        have f112 := v82_0_7.keep KK101 nin0
        have f113 := v82_0_8.keep KK101 nin0
        have f114 := v82_0_9.keep KK101 nin0
        have K115 : Keep h0 T101.heap [] := K93.trans KK101 all0
        have Z115 : n0 ≤ T101.heap.size := Nat.le_trans Z93 KK101.1
        refine G1 st101 ?_
        show Goes _ _ _ _ _ _ _ (T101.setTop (mkF m 127 _ [(.ref r101), (.int p1), (.ref b76)]))
        refine G1 (fun _ => XS.bipush X101.here hx rfl (hb hby at_127)) ?_
        obtain ⟨_, _, ⟨T116, L116, k116, n116⟩, -, X116, ⟨Lc116, hQ116, l116, y116, z116⟩, st116⟩ := Jvm.LawKit.callS X101 hx (y := mN9) hown (mvT hZ w_52) (mvT hZ w_53) (mvT hZ w_15) (mvT hZ w_54) (by decide) (backOf (W := 3) (rm9 l Z a0 hw [] (10 : Int32) ca cc T101.heap n0 Z115 (S_high.ext XO102.2) (S_cache.ext XO102.2) BX XO102 (by decide) (by decide)) hZ w_54 w_15 (by decide) (by decide)) (g := (mkF m 129 #[.val (.int p0), .val (.int p1), .val (.int p2), .val (.int p3), .val (.int p4), .val (.int (1 : Int32)), .val (.int vn6), .val (.int vs7), .val (.ref b29), .val (.int vq9), .val (.int (2 : Int32)), .val (.int (((vn6 - (1 : Int32)) % (1 : Int32)) + (1 : Int32))), .val (.ref b76), .unset, .unset, .unset] [(.int (10 : Int32)), (.ref r101), (.int p1), (.ref b76)])) rfl (by rw [hml]; rfl) (argsL := [(.int (10 : Int32))]) (rest := [(.ref r101), (.int p1), (.ref b76)]) (lenOf pd_5 rfl) rfl (by show 2 * 0 + _ ≤ _; exact Nat.le_of_eq rfl) (hb hby at_129) (fun _ _ => ⟨rfl, rfl, (by decide : 5 + 0 ≤ _), (by decide : 15 + 0 ≤ _)⟩)
        dsimp only [Pt.U, Pt.locs, Pt.cells, Pt.slots] at X116 l116 y116 z116 st116 hQ116
        rw [l116, y116, z116] at X116
        obtain ⟨N116, KK116, r116, rfl, ex116⟩ := hQ116
        have NA116 := Fr.app NA101 N116
        have XO117 : Old Z n0 T116.heap := XO102.keep KK116 all0
        have f118 := f103.keep KK116
        have f119 := f104.keep KK116 nin0
        have f120 := f105.keep KK116
        have f121 := f106.keep KK116 nin0
        have f122 := f107.keep KK116 nin0
        have f123 := f108.keep KK116 nin0
        have f124 := f109.keep KK116 nin0
        have f125 := f110.keep KK116 nin0
        have f126 := f111.keep KK116 nin0
        have f127 := f112.keep KK116 nin0
        have f128 := f113.keep KK116 nin0
        have f129 := f114.keep KK116 nin0
        have f130 := ex101.keep KK116
        have K131 : Keep h0 T116.heap [] := K115.trans KK116 all0
        have Z131 : n0 ≤ T116.heap.size := Nat.le_trans Z115 KK116.1
        refine G1 st116 ?_
        show Goes _ _ _ _ _ _ _ (T116.setTop (mkF m 132 _ [(.ref r116), (.ref r101), (.int p1), (.ref b76)]))
        have rc132 : ArF Z T116.heap r82_0_0 kk82_0_0 (.object "java/lang/Object") 2 (fun j => rfv (own_K r101 r101 r101) (own_t0 j)) := f127.congr (fun _ _ => rfl)
        have rc133 : ArF Z T116.heap r82_0_2 kk82_0_2 (.object "java/lang/Object") 2 (fun j => rfv (own_K r116 r116 r116) (own_t0 j)) := f129.congr (fun _ _ => rfl)
        obtain ⟨cq134, kq134, q134a, q134b, q134c⟩ := isOf hZ rfl f120
        obtain ⟨_, _, ⟨T134, L134, k134, n134⟩, -, X134, ⟨Lc134, hQ134, l134, y134, z134⟩, st134⟩ := X116.virtualBack hx (y := mN10) (z := mN10) hown (mvT hZ w_58) (mvT hZ w_59) (notFace_of_selects (args := #[]) (mvT hZ w_61)) (mvT hZ w_61) (mvT hZ w_60) (by decide) (backOf (W := 0) (rm10_n l Z a0 hw [] b76 p1 r101 r116 r82_0_0 r82_0_1 r82_0_2 kk82_0_0 kk82_0_1 kk82_0_2 2 own_t0 (fun _ => (0 : Int32)) (own_K r101 r101 r101) (own_K r116 r116 r116) (31 : Int32) (1 : Int32) (0 : Int32) 0 9 f1.val T116.heap n0 Z131 f120 f122 f123 f124 f121 f126 f125 rc132 f128 rc133 oo82_0_0 oo82_0_1 (Ins.of_exa f130 w_65) (Ins.of_exa ex116 w_65) rfl rfl g_b76 g_r82_0_0 g_r82_0_1 g_r82_0_2 (Ne.symm ne95) (Ne.symm ne97) nn82_0_0 (Ne.symm ne99) nn82_0_1 nn82_0_2 (by decide) hN hS (by rw [← hf1]; exact rfl)) hZ w_62 w_3 (by decide) (by decide)) q134a q134c (g := (mkF m 132 #[.val (.int p0), .val (.int p1), .val (.int p2), .val (.int p3), .val (.int p4), .val (.int (1 : Int32)), .val (.int vn6), .val (.int vs7), .val (.ref b29), .val (.int vq9), .val (.int (2 : Int32)), .val (.int (((vn6 - (1 : Int32)) % (1 : Int32)) + (1 : Int32))), .val (.ref b76), .unset, .unset, .unset] [(.ref r116), (.ref r101), (.int p1), (.ref b76)])) rfl (by rw [hml]; rfl) (Steps.refl _) (argsL := [(.int p1), (.ref r101), (.ref r116)]) (rest := []) (lenOf pd_6 rfl) rfl (by show 2 * 0 + _ ≤ _; exact Nat.le_of_eq rfl) (hb hby at_132) (fun _ _ => ⟨rfl, rfl, (by decide : 5 + 0 ≤ _), (by decide : 15 + 0 ≤ _)⟩)
        dsimp only [Pt.U, Pt.locs, Pt.cells, Pt.slots] at X134 l134 y134 z134 st134 hQ134
        rw [l134, y134, z134] at X134
        obtain ⟨N134, KK134, rfl, pf134_0, pf134_1, pf134_2, pf134_3, pf134_4, pf134_5, pf134_6, pf134_7, pf134_8, pf134_9⟩ := hQ134
        have NA134 := Fr.app NA116 N134
        have XO135 : Old Z n0 T134.heap := XO117.keep KK134 (allS g_b76 (allS g_r82_0_0 (allS g_r82_0_1 (allS g_r82_0_2 all0))))
        have f136 := f118.keep KK134
        have f137 := f119.keep KK134 (ninS ne77 (ninS ne94 (ninS ne96 (ninS ne98 nin0))))
        have f138 := f120.keep KK134
        have f148 := f130.keep KK134
        have f149 := ex116.keep KK134
        have K150 : Keep h0 T134.heap [] := K131.trans KK134 (allS (Or.inr sz_b76) (allS (Or.inr sz_r82_0_0) (allS (Or.inr sz_r82_0_1) (allS (Or.inr sz_r82_0_2) all0))))
        have Z150 : n0 ≤ T134.heap.size := Nat.le_trans Z131 KK134.1
        refine G2 st134 ?_
        show Goes _ _ _ _ _ _ _ (T134.setTop (mkF m 135 _ [(.ref r116)]))
        refine G1 (fun _ => XS.pop X134.here hx rfl (hb hby at_135) rfl rfl) ?_
        show Goes _ _ _ _ _ _ _ (T134.setTop (mkF m 136 _ []))
        show Goes _ _ _ _ _ _ _ (T134.setTop (mkF m 136 #[.val (.int p0), .val (.int p1), .val (.int p2), .val (.int p3), .val (.int p4), .val (.int (1 : Int32)), .val (.int vn6), .val (.int vs7), .val (.ref b29), .val (.int vq9), .val (.int (2 : Int32)), .val (.int (((vn6 - (1 : Int32)) % (1 : Int32)) + (1 : Int32))), .val (.ref b76), .unset, .unset, .unset] []))
        rcases hnA with rfl | hnB
        · show Goes _ _ _ _ _ _ _ (T134.setTop (mkF m 136 #[.val (.int p0), .val (.int p1), .val (.int p2), .val (.int p3), .val (.int p4), .val (.int (1 : Int32)), .val (.int (1 : Int32)), .val (.int vs7), .val (.ref b29), .val (.int vq9), .val (.int (2 : Int32)), .val (.int (1 : Int32)), .val (.ref b76), .unset, .unset, .unset] []))
          refine G1 (fun _ => XS.iload X134.here hx rfl (hb hby at_136) rfl ) ?_
          refine G1 (fun _ => XS.iconst X134.here hx rfl (hb hby at_138)) ?_
          refine G1 (fun _ => XS.icmpYes X134.here hx rfl (pc0 := 139) (pc' := 161) rfl (hb hby at_139) rfl (tlt (by decide : (1 : Int32) < (2 : Int32))).1 (by decide) (by decide)) ?_
          show Goes _ _ _ _ _ _ _ (T134.setTop (mkF m 161 _ []))
          show Goes _ _ _ _ _ _ _ (T134.setTop (mkF m 161 #[.val (.int p0), .val (.int p1), .val (.int p2), .val (.int p3), .val (.int p4), .val (.int (1 : Int32)), .val (.int (1 : Int32)), .val (.int vs7), .val (.ref b29), .val (.int vq9), .val (.int (2 : Int32)), .val (.int (1 : Int32)), .val (.ref b76), .unset, .unset, .unset] []))
          refine G1 (fun _ => XS.iload X134.here hx rfl (hb hby at_161) rfl ) ?_
          refine G1 (fun _ => XS.iconst X134.here hx rfl (hb hby at_163)) ?_
          refine G1 (fun _ => XS.icmpYes X134.here hx rfl (pc0 := 164) (pc' := 186) rfl (hb hby at_164) rfl (tlt (by decide : (1 : Int32) < (3 : Int32))).1 (by decide) (by decide)) ?_
          show Goes _ _ _ _ _ _ _ (T134.setTop (mkF m 186 _ []))
          refine G1 (fun _ => XS.iconst X134.here hx rfl (hb hby at_186)) ?_
          refine G1 (fun _ => XS.istore X134.here hx rfl (hb hby at_187) rfl (l' := #[.val (.int p0), .val (.int p1), .val (.int p2), .val (.int p3), .val (.int p4), .val (.int (1 : Int32)), .val (.int (1 : Int32)), .val (.int vs7), .val (.ref b29), .val (.int vq9), .val (.int (2 : Int32)), .val (.int (1 : Int32)), .val (.ref b76), .val (.int (0 : Int32)), .unset, .unset]) rfl) ?_
          show Goes _ _ _ _ _ _ _ (T134.setTop (mkF m 189 _ []))
          show Goes _ _ _ _ _ _ _ (T134.setTop (mkF m 189 #[.val (.int p0), .val (.int p1), .val (.int p2), .val (.int p3), .val (.int p4), .val (.int (1 : Int32)), .val (.int (1 : Int32)), .val (.int vs7), .val (.ref b29), .val (.int vq9), .val (.int (2 : Int32)), .val (.int (1 : Int32)), .val (.ref b76), .val (.int (0 : Int32)), .unset, .unset] []))
          have lw := own_s2 f1 f4 0 (decide (p1 = vq9)) (decide (p2 = vq9)) (decide (p3 = vq9)) ee1
          rw [Bool.and_eq_true] at lw
          obtain ⟨pp, hsk0, hpb0⟩ := own_satE lw.1
          have hpb : own_b ((own_put own_t0 f1.val 0) pp) = own_i (decide (p1 = vq9)) := own_beq hpb0
          have hcn : own_b ((own_put own_t0 f1.val 0) ((0 : Int32)).toNatClampNeg) + own_b ((own_put own_t0 f1.val 0) ((1 : Int32)).toNatClampNeg) = (1 : Int32) := own_beq lw.2
          have hsk : seekP (own_put own_t0 f1.val 0) (fun j => decide (own_H p1 p2 p3 j = vq9)) 2 9 (own_f vq9 (31 : Int32)).toNatClampNeg = some pp := by rw [own_e3H, ← hf4]; exact hsk0
          have hH : ∀ p j, (own_put own_t0 f1.val 0) p = some j → (own_hp (fun _ => (0 : Int32)) f1.val p1) p = own_H p1 p2 p3 j := (own_hH own_hH0 (by rfl))
          have J252 : ∀ ex : Int32, own_i (decide (p1 = vq9)) = ex → Goes p e below s room_1.cells room_1.slots (fun v h L => Q0 Z p0 p1 p2 p3 p4 ca cc h0 n0 v h L) (T134.setTop (mkF m 252 #[.val (.int p0), .val (.int p1), .val (.int p2), .val (.int p3), .val (.int p4), .val (.int (1 : Int32)), .val (.int (1 : Int32)), .val (.int vs7), .val (.ref b29), .val (.int vq9), .val (.int (2 : Int32)), .val (.int (1 : Int32)), .val (.ref b76), .val (.int ex), .unset, .unset] [])) := by
            intro ex hex
            refine G1 (fun _ => XS.aload X134.here hx rfl (hb hby at_252) rfl rfl) ?_
            refine G1 (fun _ => XS.aload X134.here hx rfl (hb hby at_254) rfl rfl) ?_
            refine G1 (fun _ => XS.iload X134.here hx rfl (hb hby at_256) rfl ) ?_
            obtain ⟨cq151, kq151, q151a, q151b, q151c⟩ := isOf hZ rfl pf134_0
            obtain ⟨_, _, ⟨T151, L151, k151, n151⟩, -, X151, ⟨Lc151, hQ151, l151, y151, z151⟩, st151⟩ := X134.virtualBack hx (y := mN8) (z := mN8) hown (mvT hZ w_33) (mvT hZ w_34) (notFace_of_selects (args := #[]) (mvT hZ w_36)) (mvT hZ w_36) (mvT hZ w_35) (by decide) (backOf (W := 1) (rm5 l Z a0 hw [] b76 vq9 r82_0_0 r82_0_1 r82_0_2 kk82_0_0 kk82_0_1 kk82_0_2 2 (own_put own_t0 f1.val 0) (own_hp (fun _ => (0 : Int32)) f1.val p1) (own_K r101 r101 r101) (own_K r116 r116 r116) (31 : Int32) (1 : Int32) (1 : Int32) (own_H p1 p2 p3) 9 pp T134.heap n0 Z150 pf134_0 pf134_1 pf134_2 pf134_3 pf134_4 pf134_5 pf134_6 pf134_7 pf134_8 pf134_9 hN hH hS hsk) hZ w_37 w_3 (by decide) (by decide)) q151a q151c (g := (mkF m 258 #[.val (.int p0), .val (.int p1), .val (.int p2), .val (.int p3), .val (.int p4), .val (.int (1 : Int32)), .val (.int (1 : Int32)), .val (.int vs7), .val (.ref b29), .val (.int vq9), .val (.int (2 : Int32)), .val (.int (1 : Int32)), .val (.ref b76), .val (.int ex), .unset, .unset] [(.int vq9), (.ref b76), (.ref b76)])) rfl (by rw [hml]; rfl) (Steps.refl _) (argsL := [(.int vq9)]) (rest := [(.ref b76)]) (lenOf pd_2 rfl) rfl (by show 2 * 0 + _ ≤ _; exact Nat.le_of_eq rfl) (hb hby at_258) (fun _ _ => ⟨rfl, rfl, (by decide : 5 + 0 ≤ _), (by decide : 15 + 0 ≤ _)⟩)
            dsimp only [Pt.U, Pt.locs, Pt.cells, Pt.slots] at X151 l151 y151 z151 st151 hQ151
            rw [l151, y151, z151] at X151
            obtain ⟨N151, eh151, r151, rfl, r1_151, r2_151, r3_151⟩ := hQ151
            have NA151 := Fr.app NA134 N151
            refine G2 st151 ?_
            show Goes _ _ _ _ _ _ _ (T151.setTop (mkF m 261 _ [(.int r151), (.ref b76)]))
            obtain ⟨cq152, kq152, q152a, q152b, q152c⟩ := isOf hZ eh151 pf134_0
            obtain ⟨_, _, ⟨T152, L152, k152, n152⟩, -, X152, ⟨Lc152, hQ152, l152, y152, z152⟩, st152⟩ := X151.virtualBack hx (y := mN6) (z := mN6) hown (mvT hZ w_47) (mvT hZ w_48) (notFace_of_selects (args := #[]) (mvT hZ w_50)) (mvT hZ w_50) (mvT hZ w_49) (by decide) (backOf (W := 0) (rm8 l Z a0 hw [] b76 r151 r82_0_0 r82_0_1 r82_0_2 kk82_0_0 kk82_0_1 kk82_0_2 2 (own_put own_t0 f1.val 0) (own_hp (fun _ => (0 : Int32)) f1.val p1) (own_K r101 r101 r101) (own_K r116 r116 r116) (31 : Int32) (1 : Int32) (1 : Int32) T134.heap n0 Z150 pf134_0 pf134_1 pf134_2 pf134_3 pf134_4 pf134_5 pf134_6 pf134_7 pf134_8 pf134_9 r1_151 r3_151) hZ w_51 w_3 (by decide) (by decide)) q152a q152c (g := (mkF m 261 #[.val (.int p0), .val (.int p1), .val (.int p2), .val (.int p3), .val (.int p4), .val (.int (1 : Int32)), .val (.int (1 : Int32)), .val (.int vs7), .val (.ref b29), .val (.int vq9), .val (.int (2 : Int32)), .val (.int (1 : Int32)), .val (.ref b76), .val (.int ex), .unset, .unset] [(.int r151), (.ref b76)])) rfl (by rw [hml]; rfl) (Steps.refl _) (argsL := [(.int r151)]) (rest := []) (lenOf pd_4 rfl) rfl (by show 2 * 0 + _ ≤ _; exact Nat.le_of_eq rfl) (hb hby at_261) (fun _ _ => ⟨rfl, eh151, (by decide : 5 + 0 ≤ _), (by decide : 15 + 0 ≤ _)⟩)
            dsimp only [Pt.U, Pt.locs, Pt.cells, Pt.slots] at X152 l152 y152 z152 st152 hQ152
            rw [l152, y152, z152] at X152
            obtain ⟨N152, eh152, hv152⟩ := hQ152
            have NA152 := Fr.app NA151 N152
            subst hv152
            refine G2 st152 ?_
            show Goes _ _ _ _ _ _ _ (T152.setTop (mkF m 264 _ [(.int (own_b ((own_put own_t0 f1.val 0) (r151).toNatClampNeg)))]))
            refine G1 (fun _ => XS.istore X152.here hx rfl (hb hby at_264) rfl (l' := #[.val (.int p0), .val (.int p1), .val (.int p2), .val (.int p3), .val (.int p4), .val (.int (1 : Int32)), .val (.int (1 : Int32)), .val (.int vs7), .val (.ref b29), .val (.int vq9), .val (.int (2 : Int32)), .val (.int (1 : Int32)), .val (.ref b76), .val (.int ex), .val (.int (own_b ((own_put own_t0 f1.val 0) (r151).toNatClampNeg))), .unset]) rfl) ?_
            show Goes _ _ _ _ _ _ _ (T152.setTop (mkF m 266 _ []))
            show Goes _ _ _ _ _ _ _ (T152.setTop (mkF m 266 #[.val (.int p0), .val (.int p1), .val (.int p2), .val (.int p3), .val (.int p4), .val (.int (1 : Int32)), .val (.int (1 : Int32)), .val (.int vs7), .val (.ref b29), .val (.int vq9), .val (.int (2 : Int32)), .val (.int (1 : Int32)), .val (.ref b76), .val (.int ex), .val (.int (own_b ((own_put own_t0 f1.val 0) (r151).toNatClampNeg))), .unset] []))
            have hfx : (own_b ((own_put own_t0 f1.val 0) (r151).toNatClampNeg)) = ex := by rw [r2_151]; exact hpb.trans hex
            rw [hfx]
            exact J266_2 _ _ _ _ _ ex _ _ r82_0_0 r82_0_1 r82_0_2 kk82_0_0 kk82_0_1 kk82_0_2 (own_put own_t0 f1.val 0) (own_hp (fun _ => (0 : Int32)) f1.val p1) (own_K r101 r101 r101) (own_K r116 r116 r116) (1 : Int32) T134.heap _ _ X152 eh152 NA152 Z150 pf134_0 pf134_1 pf134_2 pf134_3 pf134_4 pf134_5 pf134_6 pf134_7 pf134_8 pf134_9 hcn
          show Goes _ _ _ _ _ _ _ (T134.setTop (mkF m 189 #[.val (.int p0), .val (.int p1), .val (.int p2), .val (.int p3), .val (.int p4), .val (.int (1 : Int32)), .val (.int (1 : Int32)), .val (.int vs7), .val (.ref b29), .val (.int vq9), .val (.int (2 : Int32)), .val (.int (1 : Int32)), .val (.ref b76), .val (.int (0 : Int32)), .unset, .unset] []))
          refine G1 (fun _ => XS.iload X134.here hx rfl (hb hby at_189) rfl ) ?_
          refine G1 (fun _ => XS.iconst X134.here hx rfl (hb hby at_191)) ?_
          refine G1 (fun _ => XS.icmpNo X134.here hx rfl (hb hby at_192) rfl (flt (by decide : ¬ ((1 : Int32) < (1 : Int32)))).1) ?_
          show Goes _ _ _ _ _ _ _ (T134.setTop (mkF m 195 _ []))
          refine G1 (fun _ => XS.aload X134.here hx rfl (hb hby at_195) rfl rfl) ?_
          refine G1 (fun _ => XS.iload X134.here hx rfl (hb hby at_197) rfl ) ?_
          refine G1 (fun _ => XS.iconst X134.here hx rfl (hb hby at_199)) ?_
          refine G1 (fun _ => XS.isub X134.here hx rfl (hb hby at_200) rfl) ?_
          show Goes _ _ _ _ _ _ _ (T134.setTop (mkF m 201 _ [(.int (0 : Int32)), (.ref b29)]))
          obtain ⟨cl153, Ar153, q153, S153, P153, H153, G153⟩ := id f137
          have hin153 : ¬ ((0 : Int32) < 0 ∨ cl153.slots.size ≤ ((0 : Int32)).toNatClampNeg) := inb_of S153 ⟨by decide, by decide⟩
          have hat153 : cl153.slots[((0 : Int32)).toNatClampNeg]? = some (.int p1) := H153 _ (by rw [S153]; decide)
          refine G1 (fun _ => X134.iaload hx (j := (0 : Int32)) (v := (.int p1)) (by exact Ar153.1) (State.isArrayOf_alike hZ.alike Ar153.2.1) Ar153.2.2 hin153 hat153 (g := (mkF m 201 #[.val (.int p0), .val (.int p1), .val (.int p2), .val (.int p3), .val (.int p4), .val (.int (1 : Int32)), .val (.int (1 : Int32)), .val (.int vs7), .val (.ref b29), .val (.int vq9), .val (.int (2 : Int32)), .val (.int (1 : Int32)), .val (.ref b76), .val (.int (0 : Int32)), .unset, .unset] [(.int (0 : Int32)), (.ref b29)])) rfl rfl (hb hby at_201) _) ?_
          show Goes _ _ _ _ _ _ _ (T134.setTop (mkF m 202 _ [(.int p1)]))
          refine G1 (fun _ => XS.iload X134.here hx rfl (hb hby at_202) rfl ) ?_
          by_cases c204_154 : p1 = vq9
          · refine G1 (fun _ => XS.icmpNo X134.here hx rfl (hb hby at_204) rfl (teq c204_154).2) ?_
            show Goes _ _ _ _ _ _ _ (T134.setTop (mkF m 207 _ []))
            refine G1 (fun _ => XS.iconst X134.here hx rfl (hb hby at_207)) ?_
            refine G1 (fun _ => XS.istore X134.here hx rfl (hb hby at_208) rfl (l' := #[.val (.int p0), .val (.int p1), .val (.int p2), .val (.int p3), .val (.int p4), .val (.int (1 : Int32)), .val (.int (1 : Int32)), .val (.int vs7), .val (.ref b29), .val (.int vq9), .val (.int (2 : Int32)), .val (.int (1 : Int32)), .val (.ref b76), .val (.int (1 : Int32)), .unset, .unset]) rfl) ?_
            show Goes _ _ _ _ _ _ _ (T134.setTop (mkF m 210 _ []))
            refine G1 (fun _ => XS.iload X134.here hx rfl (hb hby at_210) rfl ) ?_
            refine G1 (fun _ => XS.iconst X134.here hx rfl (hb hby at_212)) ?_
            refine G1 (fun _ => XS.icmpYes X134.here hx rfl (pc0 := 213) (pc' := 231) rfl (hb hby at_213) rfl (tlt (by decide : (1 : Int32) < (2 : Int32))).1 (by decide) (by decide)) ?_
            show Goes _ _ _ _ _ _ _ (T134.setTop (mkF m 231 _ []))
            refine G1 (fun _ => XS.iload X134.here hx rfl (hb hby at_231) rfl ) ?_
            refine G1 (fun _ => XS.iconst X134.here hx rfl (hb hby at_233)) ?_
            refine G1 (fun _ => XS.icmpYes X134.here hx rfl (pc0 := 234) (pc' := 252) rfl (hb hby at_234) rfl (tlt (by decide : (1 : Int32) < (3 : Int32))).1 (by decide) (by decide)) ?_
            show Goes _ _ _ _ _ _ _ (T134.setTop (mkF m 252 _ []))
            show Goes _ _ _ _ _ _ _ (T134.setTop (mkF m 252 #[.val (.int p0), .val (.int p1), .val (.int p2), .val (.int p3), .val (.int p4), .val (.int (1 : Int32)), .val (.int (1 : Int32)), .val (.int vs7), .val (.ref b29), .val (.int vq9), .val (.int (2 : Int32)), .val (.int (1 : Int32)), .val (.ref b76), .val (.int (1 : Int32)), .unset, .unset] []))
            exact J252 _ (by simp only [decide_eq_true c204_154]; rfl)
          · refine G1 (fun _ => XS.icmpYes X134.here hx rfl (pc0 := 204) (pc' := 210) rfl (hb hby at_204) rfl (feq c204_154).2 (by decide) (by decide)) ?_
            show Goes _ _ _ _ _ _ _ (T134.setTop (mkF m 210 _ []))
            refine G1 (fun _ => XS.iload X134.here hx rfl (hb hby at_210) rfl ) ?_
            refine G1 (fun _ => XS.iconst X134.here hx rfl (hb hby at_212)) ?_
            refine G1 (fun _ => XS.icmpYes X134.here hx rfl (pc0 := 213) (pc' := 231) rfl (hb hby at_213) rfl (tlt (by decide : (1 : Int32) < (2 : Int32))).1 (by decide) (by decide)) ?_
            show Goes _ _ _ _ _ _ _ (T134.setTop (mkF m 231 _ []))
            refine G1 (fun _ => XS.iload X134.here hx rfl (hb hby at_231) rfl ) ?_
            refine G1 (fun _ => XS.iconst X134.here hx rfl (hb hby at_233)) ?_
            refine G1 (fun _ => XS.icmpYes X134.here hx rfl (pc0 := 234) (pc' := 252) rfl (hb hby at_234) rfl (tlt (by decide : (1 : Int32) < (3 : Int32))).1 (by decide) (by decide)) ?_
            show Goes _ _ _ _ _ _ _ (T134.setTop (mkF m 252 _ []))
            show Goes _ _ _ _ _ _ _ (T134.setTop (mkF m 252 #[.val (.int p0), .val (.int p1), .val (.int p2), .val (.int p3), .val (.int p4), .val (.int (1 : Int32)), .val (.int (1 : Int32)), .val (.int vs7), .val (.ref b29), .val (.int vq9), .val (.int (2 : Int32)), .val (.int (1 : Int32)), .val (.ref b76), .val (.int (0 : Int32)), .unset, .unset] []))
            exact J252 _ (by simp only [decide_eq_false c204_154]; rfl)
        · show Goes _ _ _ _ _ _ _ (T134.setTop (mkF m 136 #[.val (.int p0), .val (.int p1), .val (.int p2), .val (.int p3), .val (.int p4), .val (.int (1 : Int32)), .val (.int vn6), .val (.int vs7), .val (.ref b29), .val (.int vq9), .val (.int (2 : Int32)), .val (.int (((vn6 - (1 : Int32)) % (1 : Int32)) + (1 : Int32))), .val (.ref b76), .unset, .unset, .unset] []))
          refine G1 (fun _ => XS.iload X134.here hx rfl (hb hby at_136) rfl ) ?_
          refine G1 (fun _ => XS.iconst X134.here hx rfl (hb hby at_138)) ?_
          refine G1 (fun _ => XS.icmpNo X134.here hx rfl (hb hby at_139) rfl (flt (own_nB hnB)).1) ?_
          show Goes _ _ _ _ _ _ _ (T134.setTop (mkF m 142 _ []))
          refine G1 (fun _ => XS.aload X134.here hx rfl (hb hby at_142) rfl rfl) ?_
          refine G1 (fun _ => XS.aload X134.here hx rfl (hb hby at_144) rfl rfl) ?_
          refine G1 (fun _ => XS.iconst X134.here hx rfl (hb hby at_146)) ?_
          obtain ⟨cl155, Ar155, q155, S155, P155, H155, G155⟩ := id f137
          have hin155 : ¬ ((1 : Int32) < 0 ∨ cl155.slots.size ≤ ((1 : Int32)).toNatClampNeg) := inb_of S155 ⟨by decide, by decide⟩
          have hat155 : cl155.slots[((1 : Int32)).toNatClampNeg]? = some (.int p2) := H155 _ (by rw [S155]; decide)
          refine G1 (fun _ => X134.iaload hx (j := (1 : Int32)) (v := (.int p2)) (by exact Ar155.1) (State.isArrayOf_alike hZ.alike Ar155.2.1) Ar155.2.2 hin155 hat155 (g := (mkF m 147 #[.val (.int p0), .val (.int p1), .val (.int p2), .val (.int p3), .val (.int p4), .val (.int (1 : Int32)), .val (.int vn6), .val (.int vs7), .val (.ref b29), .val (.int vq9), .val (.int (2 : Int32)), .val (.int (((vn6 - (1 : Int32)) % (1 : Int32)) + (1 : Int32))), .val (.ref b76), .unset, .unset, .unset] [(.int (1 : Int32)), (.ref b29), (.ref b76)])) rfl rfl (hb hby at_147) _) ?_
          show Goes _ _ _ _ _ _ _ (T134.setTop (mkF m 148 _ [(.int p2), (.ref b76)]))
          refine G1 (fun _ => XS.iconst X134.here hx rfl (hb hby at_148)) ?_
          obtain ⟨_, _, ⟨T156, L156, k156, n156⟩, -, X156, ⟨Lc156, hQ156, l156, y156, z156⟩, st156⟩ := Jvm.LawKit.callS X134 hx (y := mN9) hown (mvT hZ w_52) (mvT hZ w_53) (mvT hZ w_15) (mvT hZ w_54) (by decide) (backOf (W := 2) (rm9 l Z a0 hw [] (1 : Int32) ca cc T134.heap n0 Z150 (S_high.ext XO135.2) (S_cache.ext XO135.2) BX XO135 (by decide) (by decide)) hZ w_54 w_15 (by decide) (by decide)) (g := (mkF m 149 #[.val (.int p0), .val (.int p1), .val (.int p2), .val (.int p3), .val (.int p4), .val (.int (1 : Int32)), .val (.int vn6), .val (.int vs7), .val (.ref b29), .val (.int vq9), .val (.int (2 : Int32)), .val (.int (((vn6 - (1 : Int32)) % (1 : Int32)) + (1 : Int32))), .val (.ref b76), .unset, .unset, .unset] [(.int (1 : Int32)), (.int p2), (.ref b76)])) rfl (by rw [hml]; rfl) (argsL := [(.int (1 : Int32))]) (rest := [(.int p2), (.ref b76)]) (lenOf pd_5 rfl) rfl (by show 2 * 0 + _ ≤ _; exact Nat.le_of_eq rfl) (hb hby at_149) (fun _ _ => ⟨rfl, rfl, (by decide : 5 + 0 ≤ _), (by decide : 15 + 0 ≤ _)⟩)
          dsimp only [Pt.U, Pt.locs, Pt.cells, Pt.slots] at X156 l156 y156 z156 st156 hQ156
          rw [l156, y156, z156] at X156
          obtain ⟨N156, KK156, r156, rfl, ex156⟩ := hQ156
          have NA156 := Fr.app NA134 N156
          have XO157 : Old Z n0 T156.heap := XO135.keep KK156 all0
          have f158 := f136.keep KK156
          have f159 := f137.keep KK156 nin0
          have f160 := pf134_0.keep KK156
          have f161 := f148.keep KK156
          have f162 := f149.keep KK156
          have f163 := pf134_1.keep KK156 nin0
          have f164 := pf134_2.keep KK156 nin0
          have f165 := pf134_3.keep KK156 nin0
          have f166 := pf134_4.keep KK156 nin0
          have f167 := pf134_5.keep KK156 nin0
          have f168 := pf134_6.keep KK156 nin0
          have f169 := pf134_7.keep KK156 nin0
          have f170 := pf134_8.keep KK156 nin0
          have f171 := pf134_9.keep KK156 nin0
          have K172 : Keep h0 T156.heap [] := K150.trans KK156 all0
          have Z172 : n0 ≤ T156.heap.size := Nat.le_trans Z150 KK156.1
          refine G1 st156 ?_
          show Goes _ _ _ _ _ _ _ (T156.setTop (mkF m 152 _ [(.ref r156), (.int p2), (.ref b76)]))
          refine G1 (fun _ => XS.bipush X156.here hx rfl (hb hby at_152)) ?_
          obtain ⟨_, _, ⟨T173, L173, k173, n173⟩, -, X173, ⟨Lc173, hQ173, l173, y173, z173⟩, st173⟩ := Jvm.LawKit.callS X156 hx (y := mN9) hown (mvT hZ w_52) (mvT hZ w_53) (mvT hZ w_15) (mvT hZ w_54) (by decide) (backOf (W := 3) (rm9 l Z a0 hw [] (11 : Int32) ca cc T156.heap n0 Z172 (S_high.ext XO157.2) (S_cache.ext XO157.2) BX XO157 (by decide) (by decide)) hZ w_54 w_15 (by decide) (by decide)) (g := (mkF m 154 #[.val (.int p0), .val (.int p1), .val (.int p2), .val (.int p3), .val (.int p4), .val (.int (1 : Int32)), .val (.int vn6), .val (.int vs7), .val (.ref b29), .val (.int vq9), .val (.int (2 : Int32)), .val (.int (((vn6 - (1 : Int32)) % (1 : Int32)) + (1 : Int32))), .val (.ref b76), .unset, .unset, .unset] [(.int (11 : Int32)), (.ref r156), (.int p2), (.ref b76)])) rfl (by rw [hml]; rfl) (argsL := [(.int (11 : Int32))]) (rest := [(.ref r156), (.int p2), (.ref b76)]) (lenOf pd_5 rfl) rfl (by show 2 * 0 + _ ≤ _; exact Nat.le_of_eq rfl) (hb hby at_154) (fun _ _ => ⟨rfl, rfl, (by decide : 5 + 0 ≤ _), (by decide : 15 + 0 ≤ _)⟩)
          dsimp only [Pt.U, Pt.locs, Pt.cells, Pt.slots] at X173 l173 y173 z173 st173 hQ173
          rw [l173, y173, z173] at X173
          obtain ⟨N173, KK173, r173, rfl, ex173⟩ := hQ173
          have NA173 := Fr.app NA156 N173
          have XO174 : Old Z n0 T173.heap := XO157.keep KK173 all0
          have f175 := f158.keep KK173
          have f176 := f159.keep KK173 nin0
          have f177 := f160.keep KK173
          have f178 := f161.keep KK173
          have f179 := f162.keep KK173
          have f180 := f163.keep KK173 nin0
          have f181 := f164.keep KK173 nin0
          have f182 := f165.keep KK173 nin0
          have f183 := f166.keep KK173 nin0
          have f184 := f167.keep KK173 nin0
          have f185 := f168.keep KK173 nin0
          have f186 := f169.keep KK173 nin0
          have f187 := f170.keep KK173 nin0
          have f188 := f171.keep KK173 nin0
          have f189 := ex156.keep KK173
          have K190 : Keep h0 T173.heap [] := K172.trans KK173 all0
          have Z190 : n0 ≤ T173.heap.size := Nat.le_trans Z172 KK173.1
          refine G1 st173 ?_
          show Goes _ _ _ _ _ _ _ (T173.setTop (mkF m 157 _ [(.ref r173), (.ref r156), (.int p2), (.ref b76)]))
          have rc191 : ArF Z T173.heap r82_0_0 kk82_0_0 (.object "java/lang/Object") 2 (fun j => rfv (own_K r101 r156 r156) ((own_put own_t0 f1.val 0) j)) := f186.congr (own_recast (own_cP own_c0 (by rfl)))
          have rc192 : ArF Z T173.heap r82_0_2 kk82_0_2 (.object "java/lang/Object") 2 (fun j => rfv (own_K r116 r173 r173) ((own_put own_t0 f1.val 0) j)) := f188.congr (own_recast (own_cP own_c0 (by rfl)))
          obtain ⟨cq193, kq193, q193a, q193b, q193c⟩ := isOf hZ rfl f177
          obtain ⟨_, _, ⟨T193, L193, k193, n193⟩, -, X193, ⟨Lc193, hQ193, l193, y193, z193⟩, st193⟩ := X173.virtualBack hx (y := mN10) (z := mN10) hown (mvT hZ w_58) (mvT hZ w_59) (notFace_of_selects (args := #[]) (mvT hZ w_61)) (mvT hZ w_61) (mvT hZ w_60) (by decide) (backOf (W := 0) (rm10_f2 l Z a0 hw [] b76 p2 r156 r173 r82_0_0 r82_0_1 r82_0_2 kk82_0_0 kk82_0_1 kk82_0_2 (own_put own_t0 f1.val 0) (own_hp (fun _ => (0 : Int32)) f1.val p1) (own_K r101 r156 r156) (own_K r116 r173 r173) (31 : Int32) (1 : Int32) (1 : Int32) 1 9 f2.val T173.heap n0 Z190 f177 f180 f181 f182 f183 f184 f185 rc191 f187 rc192 oo82_0_0 oo82_0_1 (Ins.of_exa f189 w_65) (Ins.of_exa ex173 w_65) rfl rfl g_b76 g_r82_0_0 g_r82_0_1 g_r82_0_2 (Ne.symm ne95) (Ne.symm ne97) nn82_0_0 (Ne.symm ne99) nn82_0_1 nn82_0_2 rfl hS hf2.symm) hZ w_62 w_3 (by decide) (by decide)) q193a q193c (g := (mkF m 157 #[.val (.int p0), .val (.int p1), .val (.int p2), .val (.int p3), .val (.int p4), .val (.int (1 : Int32)), .val (.int vn6), .val (.int vs7), .val (.ref b29), .val (.int vq9), .val (.int (2 : Int32)), .val (.int (((vn6 - (1 : Int32)) % (1 : Int32)) + (1 : Int32))), .val (.ref b76), .unset, .unset, .unset] [(.ref r173), (.ref r156), (.int p2), (.ref b76)])) rfl (by rw [hml]; rfl) (Steps.refl _) (argsL := [(.int p2), (.ref r156), (.ref r173)]) (rest := []) (lenOf pd_6 rfl) rfl (by show 2 * 0 + _ ≤ _; exact Nat.le_of_eq rfl) (hb hby at_157) (fun _ _ => ⟨rfl, rfl, (by decide : 5 + 0 ≤ _), (by decide : 15 + 0 ≤ _)⟩)
          dsimp only [Pt.U, Pt.locs, Pt.cells, Pt.slots] at X193 l193 y193 z193 st193 hQ193
          rw [l193, y193, z193] at X193
          obtain ⟨N193, KK193, rfl, pf193_0, pf193_1, pf193_2, pf193_3, pf193_4, pf193_5, pf193_6, pf193_7, pf193_8, pf193_9⟩ := hQ193
          have NA193 := Fr.app NA173 N193
          have XO194 : Old Z n0 T193.heap := XO174.keep KK193 (allS g_b76 (allS g_r82_0_0 (allS g_r82_0_1 (allS g_r82_0_2 all0))))
          have f195 := f175.keep KK193
          have f196 := f176.keep KK193 (ninS ne77 (ninS ne94 (ninS ne96 (ninS ne98 nin0))))
          have f197 := f177.keep KK193
          have f198 := f178.keep KK193
          have f199 := f179.keep KK193
          have f209 := f189.keep KK193
          have f210 := ex173.keep KK193
          have K211 : Keep h0 T193.heap [] := K190.trans KK193 (allS (Or.inr sz_b76) (allS (Or.inr sz_r82_0_0) (allS (Or.inr sz_r82_0_1) (allS (Or.inr sz_r82_0_2) all0))))
          have Z211 : n0 ≤ T193.heap.size := Nat.le_trans Z190 KK193.1
          refine G2 st193 ?_
          show Goes _ _ _ _ _ _ _ (T193.setTop (mkF m 160 _ [(.ref r173)]))
          refine G1 (fun _ => XS.pop X193.here hx rfl (hb hby at_160) rfl rfl) ?_
          show Goes _ _ _ _ _ _ _ (T193.setTop (mkF m 161 _ []))
          show Goes _ _ _ _ _ _ _ (T193.setTop (mkF m 161 #[.val (.int p0), .val (.int p1), .val (.int p2), .val (.int p3), .val (.int p4), .val (.int (1 : Int32)), .val (.int vn6), .val (.int vs7), .val (.ref b29), .val (.int vq9), .val (.int (2 : Int32)), .val (.int (((vn6 - (1 : Int32)) % (1 : Int32)) + (1 : Int32))), .val (.ref b76), .unset, .unset, .unset] []))
          rcases hnB with rfl | rfl
          · show Goes _ _ _ _ _ _ _ (T193.setTop (mkF m 161 #[.val (.int p0), .val (.int p1), .val (.int p2), .val (.int p3), .val (.int p4), .val (.int (1 : Int32)), .val (.int (2 : Int32)), .val (.int vs7), .val (.ref b29), .val (.int vq9), .val (.int (2 : Int32)), .val (.int (1 : Int32)), .val (.ref b76), .unset, .unset, .unset] []))
            refine G1 (fun _ => XS.iload X193.here hx rfl (hb hby at_161) rfl ) ?_
            refine G1 (fun _ => XS.iconst X193.here hx rfl (hb hby at_163)) ?_
            refine G1 (fun _ => XS.icmpYes X193.here hx rfl (pc0 := 164) (pc' := 186) rfl (hb hby at_164) rfl (tlt (by decide : (2 : Int32) < (3 : Int32))).1 (by decide) (by decide)) ?_
            show Goes _ _ _ _ _ _ _ (T193.setTop (mkF m 186 _ []))
            refine G1 (fun _ => XS.iconst X193.here hx rfl (hb hby at_186)) ?_
            refine G1 (fun _ => XS.istore X193.here hx rfl (hb hby at_187) rfl (l' := #[.val (.int p0), .val (.int p1), .val (.int p2), .val (.int p3), .val (.int p4), .val (.int (1 : Int32)), .val (.int (2 : Int32)), .val (.int vs7), .val (.ref b29), .val (.int vq9), .val (.int (2 : Int32)), .val (.int (1 : Int32)), .val (.ref b76), .val (.int (0 : Int32)), .unset, .unset]) rfl) ?_
            show Goes _ _ _ _ _ _ _ (T193.setTop (mkF m 189 _ []))
            show Goes _ _ _ _ _ _ _ (T193.setTop (mkF m 189 #[.val (.int p0), .val (.int p1), .val (.int p2), .val (.int p3), .val (.int p4), .val (.int (1 : Int32)), .val (.int (2 : Int32)), .val (.int vs7), .val (.ref b29), .val (.int vq9), .val (.int (2 : Int32)), .val (.int (1 : Int32)), .val (.ref b76), .val (.int (0 : Int32)), .unset, .unset] []))
            have lw := own_s2 f2 f4 1 (decide (p1 = vq9)) (decide (p2 = vq9)) (decide (p3 = vq9)) ee2
            rw [Bool.and_eq_true] at lw
            obtain ⟨pp, hsk0, hpb0⟩ := own_satE lw.1
            have hpb : own_b ((own_put own_t0 f2.val 1) pp) = own_i (decide (p2 = vq9)) := own_beq hpb0
            have hcn : own_b ((own_put own_t0 f2.val 1) ((0 : Int32)).toNatClampNeg) + own_b ((own_put own_t0 f2.val 1) ((1 : Int32)).toNatClampNeg) = (1 : Int32) := own_beq lw.2
            have hsk : seekP (own_put own_t0 f2.val 1) (fun j => decide (own_H p1 p2 p3 j = vq9)) 2 9 (own_f vq9 (31 : Int32)).toNatClampNeg = some pp := by rw [own_e3H, ← hf4]; exact hsk0
            have hH : ∀ p j, (own_put own_t0 f2.val 1) p = some j → (own_hp (own_hp (fun _ => (0 : Int32)) f1.val p1) f2.val p2) p = own_H p1 p2 p3 j := (own_hH own_hH0 (by rfl))
            have J252 : ∀ ex : Int32, own_i (decide (p2 = vq9)) = ex → Goes p e below s room_1.cells room_1.slots (fun v h L => Q0 Z p0 p1 p2 p3 p4 ca cc h0 n0 v h L) (T193.setTop (mkF m 252 #[.val (.int p0), .val (.int p1), .val (.int p2), .val (.int p3), .val (.int p4), .val (.int (1 : Int32)), .val (.int (2 : Int32)), .val (.int vs7), .val (.ref b29), .val (.int vq9), .val (.int (2 : Int32)), .val (.int (1 : Int32)), .val (.ref b76), .val (.int ex), .unset, .unset] [])) := by
              intro ex hex
              refine G1 (fun _ => XS.aload X193.here hx rfl (hb hby at_252) rfl rfl) ?_
              refine G1 (fun _ => XS.aload X193.here hx rfl (hb hby at_254) rfl rfl) ?_
              refine G1 (fun _ => XS.iload X193.here hx rfl (hb hby at_256) rfl ) ?_
              obtain ⟨cq212, kq212, q212a, q212b, q212c⟩ := isOf hZ rfl pf193_0
              obtain ⟨_, _, ⟨T212, L212, k212, n212⟩, -, X212, ⟨Lc212, hQ212, l212, y212, z212⟩, st212⟩ := X193.virtualBack hx (y := mN8) (z := mN8) hown (mvT hZ w_33) (mvT hZ w_34) (notFace_of_selects (args := #[]) (mvT hZ w_36)) (mvT hZ w_36) (mvT hZ w_35) (by decide) (backOf (W := 1) (rm5 l Z a0 hw [] b76 vq9 r82_0_0 r82_0_1 r82_0_2 kk82_0_0 kk82_0_1 kk82_0_2 2 (own_put own_t0 f2.val 1) (own_hp (own_hp (fun _ => (0 : Int32)) f1.val p1) f2.val p2) (own_K r101 r156 r156) (own_K r116 r173 r173) (31 : Int32) (1 : Int32) (1 : Int32) (own_H p1 p2 p3) 9 pp T193.heap n0 Z211 pf193_0 pf193_1 pf193_2 pf193_3 pf193_4 pf193_5 pf193_6 pf193_7 pf193_8 pf193_9 hN hH hS hsk) hZ w_37 w_3 (by decide) (by decide)) q212a q212c (g := (mkF m 258 #[.val (.int p0), .val (.int p1), .val (.int p2), .val (.int p3), .val (.int p4), .val (.int (1 : Int32)), .val (.int (2 : Int32)), .val (.int vs7), .val (.ref b29), .val (.int vq9), .val (.int (2 : Int32)), .val (.int (1 : Int32)), .val (.ref b76), .val (.int ex), .unset, .unset] [(.int vq9), (.ref b76), (.ref b76)])) rfl (by rw [hml]; rfl) (Steps.refl _) (argsL := [(.int vq9)]) (rest := [(.ref b76)]) (lenOf pd_2 rfl) rfl (by show 2 * 0 + _ ≤ _; exact Nat.le_of_eq rfl) (hb hby at_258) (fun _ _ => ⟨rfl, rfl, (by decide : 5 + 0 ≤ _), (by decide : 15 + 0 ≤ _)⟩)
              dsimp only [Pt.U, Pt.locs, Pt.cells, Pt.slots] at X212 l212 y212 z212 st212 hQ212
              rw [l212, y212, z212] at X212
              obtain ⟨N212, eh212, r212, rfl, r1_212, r2_212, r3_212⟩ := hQ212
              have NA212 := Fr.app NA193 N212
              refine G2 st212 ?_
              show Goes _ _ _ _ _ _ _ (T212.setTop (mkF m 261 _ [(.int r212), (.ref b76)]))
              obtain ⟨cq213, kq213, q213a, q213b, q213c⟩ := isOf hZ eh212 pf193_0
              obtain ⟨_, _, ⟨T213, L213, k213, n213⟩, -, X213, ⟨Lc213, hQ213, l213, y213, z213⟩, st213⟩ := X212.virtualBack hx (y := mN6) (z := mN6) hown (mvT hZ w_47) (mvT hZ w_48) (notFace_of_selects (args := #[]) (mvT hZ w_50)) (mvT hZ w_50) (mvT hZ w_49) (by decide) (backOf (W := 0) (rm8 l Z a0 hw [] b76 r212 r82_0_0 r82_0_1 r82_0_2 kk82_0_0 kk82_0_1 kk82_0_2 2 (own_put own_t0 f2.val 1) (own_hp (own_hp (fun _ => (0 : Int32)) f1.val p1) f2.val p2) (own_K r101 r156 r156) (own_K r116 r173 r173) (31 : Int32) (1 : Int32) (1 : Int32) T193.heap n0 Z211 pf193_0 pf193_1 pf193_2 pf193_3 pf193_4 pf193_5 pf193_6 pf193_7 pf193_8 pf193_9 r1_212 r3_212) hZ w_51 w_3 (by decide) (by decide)) q213a q213c (g := (mkF m 261 #[.val (.int p0), .val (.int p1), .val (.int p2), .val (.int p3), .val (.int p4), .val (.int (1 : Int32)), .val (.int (2 : Int32)), .val (.int vs7), .val (.ref b29), .val (.int vq9), .val (.int (2 : Int32)), .val (.int (1 : Int32)), .val (.ref b76), .val (.int ex), .unset, .unset] [(.int r212), (.ref b76)])) rfl (by rw [hml]; rfl) (Steps.refl _) (argsL := [(.int r212)]) (rest := []) (lenOf pd_4 rfl) rfl (by show 2 * 0 + _ ≤ _; exact Nat.le_of_eq rfl) (hb hby at_261) (fun _ _ => ⟨rfl, eh212, (by decide : 5 + 0 ≤ _), (by decide : 15 + 0 ≤ _)⟩)
              dsimp only [Pt.U, Pt.locs, Pt.cells, Pt.slots] at X213 l213 y213 z213 st213 hQ213
              rw [l213, y213, z213] at X213
              obtain ⟨N213, eh213, hv213⟩ := hQ213
              have NA213 := Fr.app NA212 N213
              subst hv213
              refine G2 st213 ?_
              show Goes _ _ _ _ _ _ _ (T213.setTop (mkF m 264 _ [(.int (own_b ((own_put own_t0 f2.val 1) (r212).toNatClampNeg)))]))
              refine G1 (fun _ => XS.istore X213.here hx rfl (hb hby at_264) rfl (l' := #[.val (.int p0), .val (.int p1), .val (.int p2), .val (.int p3), .val (.int p4), .val (.int (1 : Int32)), .val (.int (2 : Int32)), .val (.int vs7), .val (.ref b29), .val (.int vq9), .val (.int (2 : Int32)), .val (.int (1 : Int32)), .val (.ref b76), .val (.int ex), .val (.int (own_b ((own_put own_t0 f2.val 1) (r212).toNatClampNeg))), .unset]) rfl) ?_
              show Goes _ _ _ _ _ _ _ (T213.setTop (mkF m 266 _ []))
              show Goes _ _ _ _ _ _ _ (T213.setTop (mkF m 266 #[.val (.int p0), .val (.int p1), .val (.int p2), .val (.int p3), .val (.int p4), .val (.int (1 : Int32)), .val (.int (2 : Int32)), .val (.int vs7), .val (.ref b29), .val (.int vq9), .val (.int (2 : Int32)), .val (.int (1 : Int32)), .val (.ref b76), .val (.int ex), .val (.int (own_b ((own_put own_t0 f2.val 1) (r212).toNatClampNeg))), .unset] []))
              have hfx : (own_b ((own_put own_t0 f2.val 1) (r212).toNatClampNeg)) = ex := by rw [r2_212]; exact hpb.trans hex
              rw [hfx]
              exact J266_2 _ _ _ _ _ ex _ _ r82_0_0 r82_0_1 r82_0_2 kk82_0_0 kk82_0_1 kk82_0_2 (own_put own_t0 f2.val 1) (own_hp (own_hp (fun _ => (0 : Int32)) f1.val p1) f2.val p2) (own_K r101 r156 r156) (own_K r116 r173 r173) (1 : Int32) T193.heap _ _ X213 eh213 NA213 Z211 pf193_0 pf193_1 pf193_2 pf193_3 pf193_4 pf193_5 pf193_6 pf193_7 pf193_8 pf193_9 hcn
            show Goes _ _ _ _ _ _ _ (T193.setTop (mkF m 189 #[.val (.int p0), .val (.int p1), .val (.int p2), .val (.int p3), .val (.int p4), .val (.int (1 : Int32)), .val (.int (2 : Int32)), .val (.int vs7), .val (.ref b29), .val (.int vq9), .val (.int (2 : Int32)), .val (.int (1 : Int32)), .val (.ref b76), .val (.int (0 : Int32)), .unset, .unset] []))
            refine G1 (fun _ => XS.iload X193.here hx rfl (hb hby at_189) rfl ) ?_
            refine G1 (fun _ => XS.iconst X193.here hx rfl (hb hby at_191)) ?_
            refine G1 (fun _ => XS.icmpNo X193.here hx rfl (hb hby at_192) rfl (flt (by decide : ¬ ((1 : Int32) < (1 : Int32)))).1) ?_
            show Goes _ _ _ _ _ _ _ (T193.setTop (mkF m 195 _ []))
            refine G1 (fun _ => XS.aload X193.here hx rfl (hb hby at_195) rfl rfl) ?_
            refine G1 (fun _ => XS.iload X193.here hx rfl (hb hby at_197) rfl ) ?_
            refine G1 (fun _ => XS.iconst X193.here hx rfl (hb hby at_199)) ?_
            refine G1 (fun _ => XS.isub X193.here hx rfl (hb hby at_200) rfl) ?_
            show Goes _ _ _ _ _ _ _ (T193.setTop (mkF m 201 _ [(.int (1 : Int32)), (.ref b29)]))
            obtain ⟨cl214, Ar214, q214, S214, P214, H214, G214⟩ := id f196
            have hin214 : ¬ ((1 : Int32) < 0 ∨ cl214.slots.size ≤ ((1 : Int32)).toNatClampNeg) := inb_of S214 ⟨by decide, by decide⟩
            have hat214 : cl214.slots[((1 : Int32)).toNatClampNeg]? = some (.int p2) := H214 _ (by rw [S214]; decide)
            refine G1 (fun _ => X193.iaload hx (j := (1 : Int32)) (v := (.int p2)) (by exact Ar214.1) (State.isArrayOf_alike hZ.alike Ar214.2.1) Ar214.2.2 hin214 hat214 (g := (mkF m 201 #[.val (.int p0), .val (.int p1), .val (.int p2), .val (.int p3), .val (.int p4), .val (.int (1 : Int32)), .val (.int (2 : Int32)), .val (.int vs7), .val (.ref b29), .val (.int vq9), .val (.int (2 : Int32)), .val (.int (1 : Int32)), .val (.ref b76), .val (.int (0 : Int32)), .unset, .unset] [(.int (1 : Int32)), (.ref b29)])) rfl rfl (hb hby at_201) _) ?_
            show Goes _ _ _ _ _ _ _ (T193.setTop (mkF m 202 _ [(.int p2)]))
            refine G1 (fun _ => XS.iload X193.here hx rfl (hb hby at_202) rfl ) ?_
            by_cases c204_215 : p2 = vq9
            · refine G1 (fun _ => XS.icmpNo X193.here hx rfl (hb hby at_204) rfl (teq c204_215).2) ?_
              show Goes _ _ _ _ _ _ _ (T193.setTop (mkF m 207 _ []))
              refine G1 (fun _ => XS.iconst X193.here hx rfl (hb hby at_207)) ?_
              refine G1 (fun _ => XS.istore X193.here hx rfl (hb hby at_208) rfl (l' := #[.val (.int p0), .val (.int p1), .val (.int p2), .val (.int p3), .val (.int p4), .val (.int (1 : Int32)), .val (.int (2 : Int32)), .val (.int vs7), .val (.ref b29), .val (.int vq9), .val (.int (2 : Int32)), .val (.int (1 : Int32)), .val (.ref b76), .val (.int (1 : Int32)), .unset, .unset]) rfl) ?_
              show Goes _ _ _ _ _ _ _ (T193.setTop (mkF m 210 _ []))
              refine G1 (fun _ => XS.iload X193.here hx rfl (hb hby at_210) rfl ) ?_
              refine G1 (fun _ => XS.iconst X193.here hx rfl (hb hby at_212)) ?_
              refine G1 (fun _ => XS.icmpYes X193.here hx rfl (pc0 := 213) (pc' := 231) rfl (hb hby at_213) rfl (tlt (by decide : (1 : Int32) < (2 : Int32))).1 (by decide) (by decide)) ?_
              show Goes _ _ _ _ _ _ _ (T193.setTop (mkF m 231 _ []))
              refine G1 (fun _ => XS.iload X193.here hx rfl (hb hby at_231) rfl ) ?_
              refine G1 (fun _ => XS.iconst X193.here hx rfl (hb hby at_233)) ?_
              refine G1 (fun _ => XS.icmpYes X193.here hx rfl (pc0 := 234) (pc' := 252) rfl (hb hby at_234) rfl (tlt (by decide : (1 : Int32) < (3 : Int32))).1 (by decide) (by decide)) ?_
              show Goes _ _ _ _ _ _ _ (T193.setTop (mkF m 252 _ []))
              show Goes _ _ _ _ _ _ _ (T193.setTop (mkF m 252 #[.val (.int p0), .val (.int p1), .val (.int p2), .val (.int p3), .val (.int p4), .val (.int (1 : Int32)), .val (.int (2 : Int32)), .val (.int vs7), .val (.ref b29), .val (.int vq9), .val (.int (2 : Int32)), .val (.int (1 : Int32)), .val (.ref b76), .val (.int (1 : Int32)), .unset, .unset] []))
              exact J252 _ (by simp only [decide_eq_true c204_215]; rfl)
            · refine G1 (fun _ => XS.icmpYes X193.here hx rfl (pc0 := 204) (pc' := 210) rfl (hb hby at_204) rfl (feq c204_215).2 (by decide) (by decide)) ?_
              show Goes _ _ _ _ _ _ _ (T193.setTop (mkF m 210 _ []))
              refine G1 (fun _ => XS.iload X193.here hx rfl (hb hby at_210) rfl ) ?_
              refine G1 (fun _ => XS.iconst X193.here hx rfl (hb hby at_212)) ?_
              refine G1 (fun _ => XS.icmpYes X193.here hx rfl (pc0 := 213) (pc' := 231) rfl (hb hby at_213) rfl (tlt (by decide : (1 : Int32) < (2 : Int32))).1 (by decide) (by decide)) ?_
              show Goes _ _ _ _ _ _ _ (T193.setTop (mkF m 231 _ []))
              refine G1 (fun _ => XS.iload X193.here hx rfl (hb hby at_231) rfl ) ?_
              refine G1 (fun _ => XS.iconst X193.here hx rfl (hb hby at_233)) ?_
              refine G1 (fun _ => XS.icmpYes X193.here hx rfl (pc0 := 234) (pc' := 252) rfl (hb hby at_234) rfl (tlt (by decide : (1 : Int32) < (3 : Int32))).1 (by decide) (by decide)) ?_
              show Goes _ _ _ _ _ _ _ (T193.setTop (mkF m 252 _ []))
              show Goes _ _ _ _ _ _ _ (T193.setTop (mkF m 252 #[.val (.int p0), .val (.int p1), .val (.int p2), .val (.int p3), .val (.int p4), .val (.int (1 : Int32)), .val (.int (2 : Int32)), .val (.int vs7), .val (.ref b29), .val (.int vq9), .val (.int (2 : Int32)), .val (.int (1 : Int32)), .val (.ref b76), .val (.int (0 : Int32)), .unset, .unset] []))
              exact J252 _ (by simp only [decide_eq_false c204_215]; rfl)
          · show Goes _ _ _ _ _ _ _ (T193.setTop (mkF m 161 #[.val (.int p0), .val (.int p1), .val (.int p2), .val (.int p3), .val (.int p4), .val (.int (1 : Int32)), .val (.int (3 : Int32)), .val (.int vs7), .val (.ref b29), .val (.int vq9), .val (.int (2 : Int32)), .val (.int (1 : Int32)), .val (.ref b76), .unset, .unset, .unset] []))
            refine G1 (fun _ => XS.iload X193.here hx rfl (hb hby at_161) rfl ) ?_
            refine G1 (fun _ => XS.iconst X193.here hx rfl (hb hby at_163)) ?_
            refine G1 (fun _ => XS.icmpNo X193.here hx rfl (hb hby at_164) rfl (flt (by decide : ¬ ((3 : Int32) < (3 : Int32)))).1) ?_
            show Goes _ _ _ _ _ _ _ (T193.setTop (mkF m 167 _ []))
            refine G1 (fun _ => XS.aload X193.here hx rfl (hb hby at_167) rfl rfl) ?_
            refine G1 (fun _ => XS.aload X193.here hx rfl (hb hby at_169) rfl rfl) ?_
            refine G1 (fun _ => XS.iconst X193.here hx rfl (hb hby at_171)) ?_
            obtain ⟨cl216, Ar216, q216, S216, P216, H216, G216⟩ := id f196
            have hin216 : ¬ ((2 : Int32) < 0 ∨ cl216.slots.size ≤ ((2 : Int32)).toNatClampNeg) := inb_of S216 ⟨by decide, by decide⟩
            have hat216 : cl216.slots[((2 : Int32)).toNatClampNeg]? = some (.int p3) := H216 _ (by rw [S216]; decide)
            refine G1 (fun _ => X193.iaload hx (j := (2 : Int32)) (v := (.int p3)) (by exact Ar216.1) (State.isArrayOf_alike hZ.alike Ar216.2.1) Ar216.2.2 hin216 hat216 (g := (mkF m 172 #[.val (.int p0), .val (.int p1), .val (.int p2), .val (.int p3), .val (.int p4), .val (.int (1 : Int32)), .val (.int (3 : Int32)), .val (.int vs7), .val (.ref b29), .val (.int vq9), .val (.int (2 : Int32)), .val (.int (1 : Int32)), .val (.ref b76), .unset, .unset, .unset] [(.int (2 : Int32)), (.ref b29), (.ref b76)])) rfl rfl (hb hby at_172) _) ?_
            show Goes _ _ _ _ _ _ _ (T193.setTop (mkF m 173 _ [(.int p3), (.ref b76)]))
            refine G1 (fun _ => XS.iconst X193.here hx rfl (hb hby at_173)) ?_
            obtain ⟨_, _, ⟨T217, L217, k217, n217⟩, -, X217, ⟨Lc217, hQ217, l217, y217, z217⟩, st217⟩ := Jvm.LawKit.callS X193 hx (y := mN9) hown (mvT hZ w_52) (mvT hZ w_53) (mvT hZ w_15) (mvT hZ w_54) (by decide) (backOf (W := 2) (rm9 l Z a0 hw [] (2 : Int32) ca cc T193.heap n0 Z211 (S_high.ext XO194.2) (S_cache.ext XO194.2) BX XO194 (by decide) (by decide)) hZ w_54 w_15 (by decide) (by decide)) (g := (mkF m 174 #[.val (.int p0), .val (.int p1), .val (.int p2), .val (.int p3), .val (.int p4), .val (.int (1 : Int32)), .val (.int (3 : Int32)), .val (.int vs7), .val (.ref b29), .val (.int vq9), .val (.int (2 : Int32)), .val (.int (1 : Int32)), .val (.ref b76), .unset, .unset, .unset] [(.int (2 : Int32)), (.int p3), (.ref b76)])) rfl (by rw [hml]; rfl) (argsL := [(.int (2 : Int32))]) (rest := [(.int p3), (.ref b76)]) (lenOf pd_5 rfl) rfl (by show 2 * 0 + _ ≤ _; exact Nat.le_of_eq rfl) (hb hby at_174) (fun _ _ => ⟨rfl, rfl, (by decide : 5 + 0 ≤ _), (by decide : 15 + 0 ≤ _)⟩)
            dsimp only [Pt.U, Pt.locs, Pt.cells, Pt.slots] at X217 l217 y217 z217 st217 hQ217
            rw [l217, y217, z217] at X217
            obtain ⟨N217, KK217, r217, rfl, ex217⟩ := hQ217
            have NA217 := Fr.app NA193 N217
            have XO218 : Old Z n0 T217.heap := XO194.keep KK217 all0
            have f219 := f195.keep KK217
            have f220 := f196.keep KK217 nin0
            have f221 := pf193_0.keep KK217
            have f222 := f198.keep KK217
            have f223 := f199.keep KK217
            have f224 := f209.keep KK217
            have f225 := f210.keep KK217
            have f226 := pf193_1.keep KK217 nin0
            have f227 := pf193_2.keep KK217 nin0
            have f228 := pf193_3.keep KK217 nin0
            have f229 := pf193_4.keep KK217 nin0
            have f230 := pf193_5.keep KK217 nin0
            have f231 := pf193_6.keep KK217 nin0
            have f232 := pf193_7.keep KK217 nin0
            have f233 := pf193_8.keep KK217 nin0
            have f234 := pf193_9.keep KK217 nin0
            have K235 : Keep h0 T217.heap [] := K211.trans KK217 all0
            have Z235 : n0 ≤ T217.heap.size := Nat.le_trans Z211 KK217.1
            refine G1 st217 ?_
            show Goes _ _ _ _ _ _ _ (T217.setTop (mkF m 177 _ [(.ref r217), (.int p3), (.ref b76)]))
            refine G1 (fun _ => XS.bipush X217.here hx rfl (hb hby at_177)) ?_
            obtain ⟨_, _, ⟨T236, L236, k236, n236⟩, -, X236, ⟨Lc236, hQ236, l236, y236, z236⟩, st236⟩ := Jvm.LawKit.callS X217 hx (y := mN9) hown (mvT hZ w_52) (mvT hZ w_53) (mvT hZ w_15) (mvT hZ w_54) (by decide) (backOf (W := 3) (rm9 l Z a0 hw [] (12 : Int32) ca cc T217.heap n0 Z235 (S_high.ext XO218.2) (S_cache.ext XO218.2) BX XO218 (by decide) (by decide)) hZ w_54 w_15 (by decide) (by decide)) (g := (mkF m 179 #[.val (.int p0), .val (.int p1), .val (.int p2), .val (.int p3), .val (.int p4), .val (.int (1 : Int32)), .val (.int (3 : Int32)), .val (.int vs7), .val (.ref b29), .val (.int vq9), .val (.int (2 : Int32)), .val (.int (1 : Int32)), .val (.ref b76), .unset, .unset, .unset] [(.int (12 : Int32)), (.ref r217), (.int p3), (.ref b76)])) rfl (by rw [hml]; rfl) (argsL := [(.int (12 : Int32))]) (rest := [(.ref r217), (.int p3), (.ref b76)]) (lenOf pd_5 rfl) rfl (by show 2 * 0 + _ ≤ _; exact Nat.le_of_eq rfl) (hb hby at_179) (fun _ _ => ⟨rfl, rfl, (by decide : 5 + 0 ≤ _), (by decide : 15 + 0 ≤ _)⟩)
            dsimp only [Pt.U, Pt.locs, Pt.cells, Pt.slots] at X236 l236 y236 z236 st236 hQ236
            rw [l236, y236, z236] at X236
            obtain ⟨N236, KK236, r236, rfl, ex236⟩ := hQ236
            have NA236 := Fr.app NA217 N236
            have XO237 : Old Z n0 T236.heap := XO218.keep KK236 all0
            have f238 := f219.keep KK236
            have f239 := f220.keep KK236 nin0
            have f240 := f221.keep KK236
            have f241 := f222.keep KK236
            have f242 := f223.keep KK236
            have f243 := f224.keep KK236
            have f244 := f225.keep KK236
            have f245 := f226.keep KK236 nin0
            have f246 := f227.keep KK236 nin0
            have f247 := f228.keep KK236 nin0
            have f248 := f229.keep KK236 nin0
            have f249 := f230.keep KK236 nin0
            have f250 := f231.keep KK236 nin0
            have f251 := f232.keep KK236 nin0
            have f252 := f233.keep KK236 nin0
            have f253 := f234.keep KK236 nin0
            have f254 := ex217.keep KK236
            have K255 : Keep h0 T236.heap [] := K235.trans KK236 all0
            have Z255 : n0 ≤ T236.heap.size := Nat.le_trans Z235 KK236.1
            refine G1 st236 ?_
            show Goes _ _ _ _ _ _ _ (T236.setTop (mkF m 182 _ [(.ref r236), (.ref r217), (.int p3), (.ref b76)]))
            have rc256 : ArF Z T236.heap r82_0_0 kk82_0_0 (.object "java/lang/Object") 2 (fun j => rfv (own_K r101 r156 r217) ((own_put own_t0 f2.val 1) j)) := f251.congr (own_recast (own_cP own_c0 (by rfl)))
            have rc257 : ArF Z T236.heap r82_0_2 kk82_0_2 (.object "java/lang/Object") 2 (fun j => rfv (own_K r116 r173 r236) ((own_put own_t0 f2.val 1) j)) := f253.congr (own_recast (own_cP own_c0 (by rfl)))
            obtain ⟨cq258, kq258, q258a, q258b, q258c⟩ := isOf hZ rfl f240
            obtain ⟨_, _, ⟨T258, L258, k258, n258⟩, -, X258, ⟨Lc258, hQ258, l258, y258, z258⟩, st258⟩ := X236.virtualBack hx (y := mN10) (z := mN10) hown (mvT hZ w_58) (mvT hZ w_59) (notFace_of_selects (args := #[]) (mvT hZ w_61)) (mvT hZ w_61) (mvT hZ w_60) (by decide) (backOf (W := 0) (rm10_f2 l Z a0 hw [] b76 p3 r217 r236 r82_0_0 r82_0_1 r82_0_2 kk82_0_0 kk82_0_1 kk82_0_2 (own_put own_t0 f2.val 1) (own_hp (own_hp (fun _ => (0 : Int32)) f1.val p1) f2.val p2) (own_K r101 r156 r217) (own_K r116 r173 r236) (31 : Int32) (1 : Int32) (1 : Int32) 2 9 f3.val T236.heap n0 Z255 f240 f245 f246 f247 f248 f249 f250 rc256 f252 rc257 oo82_0_0 oo82_0_1 (Ins.of_exa f254 w_65) (Ins.of_exa ex236 w_65) rfl rfl g_b76 g_r82_0_0 g_r82_0_1 g_r82_0_2 (Ne.symm ne95) (Ne.symm ne97) nn82_0_0 (Ne.symm ne99) nn82_0_1 nn82_0_2 rfl hS hf3.symm) hZ w_62 w_3 (by decide) (by decide)) q258a q258c (g := (mkF m 182 #[.val (.int p0), .val (.int p1), .val (.int p2), .val (.int p3), .val (.int p4), .val (.int (1 : Int32)), .val (.int (3 : Int32)), .val (.int vs7), .val (.ref b29), .val (.int vq9), .val (.int (2 : Int32)), .val (.int (1 : Int32)), .val (.ref b76), .unset, .unset, .unset] [(.ref r236), (.ref r217), (.int p3), (.ref b76)])) rfl (by rw [hml]; rfl) (Steps.refl _) (argsL := [(.int p3), (.ref r217), (.ref r236)]) (rest := []) (lenOf pd_6 rfl) rfl (by show 2 * 0 + _ ≤ _; exact Nat.le_of_eq rfl) (hb hby at_182) (fun _ _ => ⟨rfl, rfl, (by decide : 5 + 0 ≤ _), (by decide : 15 + 0 ≤ _)⟩)
            dsimp only [Pt.U, Pt.locs, Pt.cells, Pt.slots] at X258 l258 y258 z258 st258 hQ258
            rw [l258, y258, z258] at X258
            obtain ⟨N258, KK258, rfl, pf258_0, pf258_1, pf258_2, pf258_3, pf258_4, pf258_5, pf258_6, pf258_7, pf258_8, pf258_9⟩ := hQ258
            have NA258 := Fr.app NA236 N258
            have XO259 : Old Z n0 T258.heap := XO237.keep KK258 (allS g_b76 (allS g_r82_0_0 (allS g_r82_0_1 (allS g_r82_0_2 all0))))
            have f260 := f238.keep KK258
            have f261 := f239.keep KK258 (ninS ne77 (ninS ne94 (ninS ne96 (ninS ne98 nin0))))
            have f262 := f240.keep KK258
            have f263 := f241.keep KK258
            have f264 := f242.keep KK258
            have f265 := f243.keep KK258
            have f266 := f244.keep KK258
            have f276 := f254.keep KK258
            have f277 := ex236.keep KK258
            have K278 : Keep h0 T258.heap [] := K255.trans KK258 (allS (Or.inr sz_b76) (allS (Or.inr sz_r82_0_0) (allS (Or.inr sz_r82_0_1) (allS (Or.inr sz_r82_0_2) all0))))
            have Z278 : n0 ≤ T258.heap.size := Nat.le_trans Z255 KK258.1
            refine G2 st258 ?_
            show Goes _ _ _ _ _ _ _ (T258.setTop (mkF m 185 _ [(.ref r236)]))
            refine G1 (fun _ => XS.pop X258.here hx rfl (hb hby at_185) rfl rfl) ?_
            show Goes _ _ _ _ _ _ _ (T258.setTop (mkF m 186 _ []))
            refine G1 (fun _ => XS.iconst X258.here hx rfl (hb hby at_186)) ?_
            refine G1 (fun _ => XS.istore X258.here hx rfl (hb hby at_187) rfl (l' := #[.val (.int p0), .val (.int p1), .val (.int p2), .val (.int p3), .val (.int p4), .val (.int (1 : Int32)), .val (.int (3 : Int32)), .val (.int vs7), .val (.ref b29), .val (.int vq9), .val (.int (2 : Int32)), .val (.int (1 : Int32)), .val (.ref b76), .val (.int (0 : Int32)), .unset, .unset]) rfl) ?_
            show Goes _ _ _ _ _ _ _ (T258.setTop (mkF m 189 _ []))
            show Goes _ _ _ _ _ _ _ (T258.setTop (mkF m 189 #[.val (.int p0), .val (.int p1), .val (.int p2), .val (.int p3), .val (.int p4), .val (.int (1 : Int32)), .val (.int (3 : Int32)), .val (.int vs7), .val (.ref b29), .val (.int vq9), .val (.int (2 : Int32)), .val (.int (1 : Int32)), .val (.ref b76), .val (.int (0 : Int32)), .unset, .unset] []))
            have lw := own_s2 f3 f4 2 (decide (p1 = vq9)) (decide (p2 = vq9)) (decide (p3 = vq9)) ee3
            rw [Bool.and_eq_true] at lw
            obtain ⟨pp, hsk0, hpb0⟩ := own_satE lw.1
            have hpb : own_b ((own_put own_t0 f3.val 2) pp) = own_i (decide (p3 = vq9)) := own_beq hpb0
            have hcn : own_b ((own_put own_t0 f3.val 2) ((0 : Int32)).toNatClampNeg) + own_b ((own_put own_t0 f3.val 2) ((1 : Int32)).toNatClampNeg) = (1 : Int32) := own_beq lw.2
            have hsk : seekP (own_put own_t0 f3.val 2) (fun j => decide (own_H p1 p2 p3 j = vq9)) 2 9 (own_f vq9 (31 : Int32)).toNatClampNeg = some pp := by rw [own_e3H, ← hf4]; exact hsk0
            have hH : ∀ p j, (own_put own_t0 f3.val 2) p = some j → (own_hp (own_hp (own_hp (fun _ => (0 : Int32)) f1.val p1) f2.val p2) f3.val p3) p = own_H p1 p2 p3 j := (own_hH own_hH0 (by rfl))
            have J252 : ∀ ex : Int32, own_i (decide (p3 = vq9)) = ex → Goes p e below s room_1.cells room_1.slots (fun v h L => Q0 Z p0 p1 p2 p3 p4 ca cc h0 n0 v h L) (T258.setTop (mkF m 252 #[.val (.int p0), .val (.int p1), .val (.int p2), .val (.int p3), .val (.int p4), .val (.int (1 : Int32)), .val (.int (3 : Int32)), .val (.int vs7), .val (.ref b29), .val (.int vq9), .val (.int (2 : Int32)), .val (.int (1 : Int32)), .val (.ref b76), .val (.int ex), .unset, .unset] [])) := by
              intro ex hex
              refine G1 (fun _ => XS.aload X258.here hx rfl (hb hby at_252) rfl rfl) ?_
              refine G1 (fun _ => XS.aload X258.here hx rfl (hb hby at_254) rfl rfl) ?_
              refine G1 (fun _ => XS.iload X258.here hx rfl (hb hby at_256) rfl ) ?_
              obtain ⟨cq279, kq279, q279a, q279b, q279c⟩ := isOf hZ rfl pf258_0
              obtain ⟨_, _, ⟨T279, L279, k279, n279⟩, -, X279, ⟨Lc279, hQ279, l279, y279, z279⟩, st279⟩ := X258.virtualBack hx (y := mN8) (z := mN8) hown (mvT hZ w_33) (mvT hZ w_34) (notFace_of_selects (args := #[]) (mvT hZ w_36)) (mvT hZ w_36) (mvT hZ w_35) (by decide) (backOf (W := 1) (rm5 l Z a0 hw [] b76 vq9 r82_0_0 r82_0_1 r82_0_2 kk82_0_0 kk82_0_1 kk82_0_2 2 (own_put own_t0 f3.val 2) (own_hp (own_hp (own_hp (fun _ => (0 : Int32)) f1.val p1) f2.val p2) f3.val p3) (own_K r101 r156 r217) (own_K r116 r173 r236) (31 : Int32) (1 : Int32) (1 : Int32) (own_H p1 p2 p3) 9 pp T258.heap n0 Z278 pf258_0 pf258_1 pf258_2 pf258_3 pf258_4 pf258_5 pf258_6 pf258_7 pf258_8 pf258_9 hN hH hS hsk) hZ w_37 w_3 (by decide) (by decide)) q279a q279c (g := (mkF m 258 #[.val (.int p0), .val (.int p1), .val (.int p2), .val (.int p3), .val (.int p4), .val (.int (1 : Int32)), .val (.int (3 : Int32)), .val (.int vs7), .val (.ref b29), .val (.int vq9), .val (.int (2 : Int32)), .val (.int (1 : Int32)), .val (.ref b76), .val (.int ex), .unset, .unset] [(.int vq9), (.ref b76), (.ref b76)])) rfl (by rw [hml]; rfl) (Steps.refl _) (argsL := [(.int vq9)]) (rest := [(.ref b76)]) (lenOf pd_2 rfl) rfl (by show 2 * 0 + _ ≤ _; exact Nat.le_of_eq rfl) (hb hby at_258) (fun _ _ => ⟨rfl, rfl, (by decide : 5 + 0 ≤ _), (by decide : 15 + 0 ≤ _)⟩)
              dsimp only [Pt.U, Pt.locs, Pt.cells, Pt.slots] at X279 l279 y279 z279 st279 hQ279
              rw [l279, y279, z279] at X279
              obtain ⟨N279, eh279, r279, rfl, r1_279, r2_279, r3_279⟩ := hQ279
              have NA279 := Fr.app NA258 N279
              refine G2 st279 ?_
              show Goes _ _ _ _ _ _ _ (T279.setTop (mkF m 261 _ [(.int r279), (.ref b76)]))
              obtain ⟨cq280, kq280, q280a, q280b, q280c⟩ := isOf hZ eh279 pf258_0
              obtain ⟨_, _, ⟨T280, L280, k280, n280⟩, -, X280, ⟨Lc280, hQ280, l280, y280, z280⟩, st280⟩ := X279.virtualBack hx (y := mN6) (z := mN6) hown (mvT hZ w_47) (mvT hZ w_48) (notFace_of_selects (args := #[]) (mvT hZ w_50)) (mvT hZ w_50) (mvT hZ w_49) (by decide) (backOf (W := 0) (rm8 l Z a0 hw [] b76 r279 r82_0_0 r82_0_1 r82_0_2 kk82_0_0 kk82_0_1 kk82_0_2 2 (own_put own_t0 f3.val 2) (own_hp (own_hp (own_hp (fun _ => (0 : Int32)) f1.val p1) f2.val p2) f3.val p3) (own_K r101 r156 r217) (own_K r116 r173 r236) (31 : Int32) (1 : Int32) (1 : Int32) T258.heap n0 Z278 pf258_0 pf258_1 pf258_2 pf258_3 pf258_4 pf258_5 pf258_6 pf258_7 pf258_8 pf258_9 r1_279 r3_279) hZ w_51 w_3 (by decide) (by decide)) q280a q280c (g := (mkF m 261 #[.val (.int p0), .val (.int p1), .val (.int p2), .val (.int p3), .val (.int p4), .val (.int (1 : Int32)), .val (.int (3 : Int32)), .val (.int vs7), .val (.ref b29), .val (.int vq9), .val (.int (2 : Int32)), .val (.int (1 : Int32)), .val (.ref b76), .val (.int ex), .unset, .unset] [(.int r279), (.ref b76)])) rfl (by rw [hml]; rfl) (Steps.refl _) (argsL := [(.int r279)]) (rest := []) (lenOf pd_4 rfl) rfl (by show 2 * 0 + _ ≤ _; exact Nat.le_of_eq rfl) (hb hby at_261) (fun _ _ => ⟨rfl, eh279, (by decide : 5 + 0 ≤ _), (by decide : 15 + 0 ≤ _)⟩)
              dsimp only [Pt.U, Pt.locs, Pt.cells, Pt.slots] at X280 l280 y280 z280 st280 hQ280
              rw [l280, y280, z280] at X280
              obtain ⟨N280, eh280, hv280⟩ := hQ280
              have NA280 := Fr.app NA279 N280
              subst hv280
              refine G2 st280 ?_
              show Goes _ _ _ _ _ _ _ (T280.setTop (mkF m 264 _ [(.int (own_b ((own_put own_t0 f3.val 2) (r279).toNatClampNeg)))]))
              refine G1 (fun _ => XS.istore X280.here hx rfl (hb hby at_264) rfl (l' := #[.val (.int p0), .val (.int p1), .val (.int p2), .val (.int p3), .val (.int p4), .val (.int (1 : Int32)), .val (.int (3 : Int32)), .val (.int vs7), .val (.ref b29), .val (.int vq9), .val (.int (2 : Int32)), .val (.int (1 : Int32)), .val (.ref b76), .val (.int ex), .val (.int (own_b ((own_put own_t0 f3.val 2) (r279).toNatClampNeg))), .unset]) rfl) ?_
              show Goes _ _ _ _ _ _ _ (T280.setTop (mkF m 266 _ []))
              show Goes _ _ _ _ _ _ _ (T280.setTop (mkF m 266 #[.val (.int p0), .val (.int p1), .val (.int p2), .val (.int p3), .val (.int p4), .val (.int (1 : Int32)), .val (.int (3 : Int32)), .val (.int vs7), .val (.ref b29), .val (.int vq9), .val (.int (2 : Int32)), .val (.int (1 : Int32)), .val (.ref b76), .val (.int ex), .val (.int (own_b ((own_put own_t0 f3.val 2) (r279).toNatClampNeg))), .unset] []))
              have hfx : (own_b ((own_put own_t0 f3.val 2) (r279).toNatClampNeg)) = ex := by rw [r2_279]; exact hpb.trans hex
              rw [hfx]
              exact J266_2 _ _ _ _ _ ex _ _ r82_0_0 r82_0_1 r82_0_2 kk82_0_0 kk82_0_1 kk82_0_2 (own_put own_t0 f3.val 2) (own_hp (own_hp (own_hp (fun _ => (0 : Int32)) f1.val p1) f2.val p2) f3.val p3) (own_K r101 r156 r217) (own_K r116 r173 r236) (1 : Int32) T258.heap _ _ X280 eh280 NA280 Z278 pf258_0 pf258_1 pf258_2 pf258_3 pf258_4 pf258_5 pf258_6 pf258_7 pf258_8 pf258_9 hcn
            show Goes _ _ _ _ _ _ _ (T258.setTop (mkF m 189 #[.val (.int p0), .val (.int p1), .val (.int p2), .val (.int p3), .val (.int p4), .val (.int (1 : Int32)), .val (.int (3 : Int32)), .val (.int vs7), .val (.ref b29), .val (.int vq9), .val (.int (2 : Int32)), .val (.int (1 : Int32)), .val (.ref b76), .val (.int (0 : Int32)), .unset, .unset] []))
            refine G1 (fun _ => XS.iload X258.here hx rfl (hb hby at_189) rfl ) ?_
            refine G1 (fun _ => XS.iconst X258.here hx rfl (hb hby at_191)) ?_
            refine G1 (fun _ => XS.icmpNo X258.here hx rfl (hb hby at_192) rfl (flt (by decide : ¬ ((1 : Int32) < (1 : Int32)))).1) ?_
            show Goes _ _ _ _ _ _ _ (T258.setTop (mkF m 195 _ []))
            refine G1 (fun _ => XS.aload X258.here hx rfl (hb hby at_195) rfl rfl) ?_
            refine G1 (fun _ => XS.iload X258.here hx rfl (hb hby at_197) rfl ) ?_
            refine G1 (fun _ => XS.iconst X258.here hx rfl (hb hby at_199)) ?_
            refine G1 (fun _ => XS.isub X258.here hx rfl (hb hby at_200) rfl) ?_
            show Goes _ _ _ _ _ _ _ (T258.setTop (mkF m 201 _ [(.int (2 : Int32)), (.ref b29)]))
            obtain ⟨cl281, Ar281, q281, S281, P281, H281, G281⟩ := id f261
            have hin281 : ¬ ((2 : Int32) < 0 ∨ cl281.slots.size ≤ ((2 : Int32)).toNatClampNeg) := inb_of S281 ⟨by decide, by decide⟩
            have hat281 : cl281.slots[((2 : Int32)).toNatClampNeg]? = some (.int p3) := H281 _ (by rw [S281]; decide)
            refine G1 (fun _ => X258.iaload hx (j := (2 : Int32)) (v := (.int p3)) (by exact Ar281.1) (State.isArrayOf_alike hZ.alike Ar281.2.1) Ar281.2.2 hin281 hat281 (g := (mkF m 201 #[.val (.int p0), .val (.int p1), .val (.int p2), .val (.int p3), .val (.int p4), .val (.int (1 : Int32)), .val (.int (3 : Int32)), .val (.int vs7), .val (.ref b29), .val (.int vq9), .val (.int (2 : Int32)), .val (.int (1 : Int32)), .val (.ref b76), .val (.int (0 : Int32)), .unset, .unset] [(.int (2 : Int32)), (.ref b29)])) rfl rfl (hb hby at_201) _) ?_
            show Goes _ _ _ _ _ _ _ (T258.setTop (mkF m 202 _ [(.int p3)]))
            refine G1 (fun _ => XS.iload X258.here hx rfl (hb hby at_202) rfl ) ?_
            by_cases c204_282 : p3 = vq9
            · refine G1 (fun _ => XS.icmpNo X258.here hx rfl (hb hby at_204) rfl (teq c204_282).2) ?_
              show Goes _ _ _ _ _ _ _ (T258.setTop (mkF m 207 _ []))
              refine G1 (fun _ => XS.iconst X258.here hx rfl (hb hby at_207)) ?_
              refine G1 (fun _ => XS.istore X258.here hx rfl (hb hby at_208) rfl (l' := #[.val (.int p0), .val (.int p1), .val (.int p2), .val (.int p3), .val (.int p4), .val (.int (1 : Int32)), .val (.int (3 : Int32)), .val (.int vs7), .val (.ref b29), .val (.int vq9), .val (.int (2 : Int32)), .val (.int (1 : Int32)), .val (.ref b76), .val (.int (1 : Int32)), .unset, .unset]) rfl) ?_
              show Goes _ _ _ _ _ _ _ (T258.setTop (mkF m 210 _ []))
              refine G1 (fun _ => XS.iload X258.here hx rfl (hb hby at_210) rfl ) ?_
              refine G1 (fun _ => XS.iconst X258.here hx rfl (hb hby at_212)) ?_
              refine G1 (fun _ => XS.icmpYes X258.here hx rfl (pc0 := 213) (pc' := 231) rfl (hb hby at_213) rfl (tlt (by decide : (1 : Int32) < (2 : Int32))).1 (by decide) (by decide)) ?_
              show Goes _ _ _ _ _ _ _ (T258.setTop (mkF m 231 _ []))
              refine G1 (fun _ => XS.iload X258.here hx rfl (hb hby at_231) rfl ) ?_
              refine G1 (fun _ => XS.iconst X258.here hx rfl (hb hby at_233)) ?_
              refine G1 (fun _ => XS.icmpYes X258.here hx rfl (pc0 := 234) (pc' := 252) rfl (hb hby at_234) rfl (tlt (by decide : (1 : Int32) < (3 : Int32))).1 (by decide) (by decide)) ?_
              show Goes _ _ _ _ _ _ _ (T258.setTop (mkF m 252 _ []))
              show Goes _ _ _ _ _ _ _ (T258.setTop (mkF m 252 #[.val (.int p0), .val (.int p1), .val (.int p2), .val (.int p3), .val (.int p4), .val (.int (1 : Int32)), .val (.int (3 : Int32)), .val (.int vs7), .val (.ref b29), .val (.int vq9), .val (.int (2 : Int32)), .val (.int (1 : Int32)), .val (.ref b76), .val (.int (1 : Int32)), .unset, .unset] []))
              exact J252 _ (by simp only [decide_eq_true c204_282]; rfl)
            · refine G1 (fun _ => XS.icmpYes X258.here hx rfl (pc0 := 204) (pc' := 210) rfl (hb hby at_204) rfl (feq c204_282).2 (by decide) (by decide)) ?_
              show Goes _ _ _ _ _ _ _ (T258.setTop (mkF m 210 _ []))
              refine G1 (fun _ => XS.iload X258.here hx rfl (hb hby at_210) rfl ) ?_
              refine G1 (fun _ => XS.iconst X258.here hx rfl (hb hby at_212)) ?_
              refine G1 (fun _ => XS.icmpYes X258.here hx rfl (pc0 := 213) (pc' := 231) rfl (hb hby at_213) rfl (tlt (by decide : (1 : Int32) < (2 : Int32))).1 (by decide) (by decide)) ?_
              show Goes _ _ _ _ _ _ _ (T258.setTop (mkF m 231 _ []))
              refine G1 (fun _ => XS.iload X258.here hx rfl (hb hby at_231) rfl ) ?_
              refine G1 (fun _ => XS.iconst X258.here hx rfl (hb hby at_233)) ?_
              refine G1 (fun _ => XS.icmpYes X258.here hx rfl (pc0 := 234) (pc' := 252) rfl (hb hby at_234) rfl (tlt (by decide : (1 : Int32) < (3 : Int32))).1 (by decide) (by decide)) ?_
              show Goes _ _ _ _ _ _ _ (T258.setTop (mkF m 252 _ []))
              show Goes _ _ _ _ _ _ _ (T258.setTop (mkF m 252 #[.val (.int p0), .val (.int p1), .val (.int p2), .val (.int p3), .val (.int p4), .val (.int (1 : Int32)), .val (.int (3 : Int32)), .val (.int vs7), .val (.ref b29), .val (.int vq9), .val (.int (2 : Int32)), .val (.int (1 : Int32)), .val (.ref b76), .val (.int (0 : Int32)), .unset, .unset] []))
              exact J252 _ (by simp only [decide_eq_false c204_282]; rfl)
    · rcases hn with rfl | hnA
      · show Goes _ _ _ _ _ _ _ (T45.setTop (mkF m 56 #[.val (.int p0), .val (.int p1), .val (.int p2), .val (.int p3), .val (.int p4), .val (.int (2 : Int32)), .val (.int (0 : Int32)), .val (.int vs7), .val (.ref b29), .val (.int vq9), .unset, .unset, .unset, .unset, .unset, .unset] []))
        refine G1 (fun _ => XS.iload X45.here hx rfl (hb hby at_56) rfl ) ?_
        refine G1 (fun _ => XS.iconst X45.here hx rfl (hb hby at_58)) ?_
        refine G1 (fun _ => XS.icmpYes X45.here hx rfl (pc0 := 59) (pc' := 66) rfl (hb hby at_59) rfl (feq (by decide : ¬ ((2 : Int32) = (1 : Int32)))).2 (by decide) (by decide)) ?_
        show Goes _ _ _ _ _ _ _ (T45.setTop (mkF m 66 _ []))
        refine G1 (fun _ => XS.iload X45.here hx rfl (hb hby at_66) rfl ) ?_
        refine G1 (fun _ => XS.iconst X45.here hx rfl (hb hby at_68)) ?_
        refine G1 (fun _ => XS.icmpNo X45.here hx rfl (hb hby at_69) rfl (teq (by decide : (2 : Int32) = (2 : Int32))).2) ?_
        show Goes _ _ _ _ _ _ _ (T45.setTop (mkF m 72 _ []))
        refine G1 (fun _ => XS.iconst X45.here hx rfl (hb hby at_72)) ?_
        refine G1 (fun _ => XS.goto X45.here hx rfl (pc0 := 73) (pc' := 78) rfl (hb hby at_73) (by decide) (by decide)) ?_
        show Goes _ _ _ _ _ _ _ (T45.setTop (mkF m 78 _ [(.int (4 : Int32))]))
        refine G1 (fun _ => XS.istore X45.here hx rfl (hb hby at_78) rfl (l' := #[.val (.int p0), .val (.int p1), .val (.int p2), .val (.int p3), .val (.int p4), .val (.int (2 : Int32)), .val (.int (0 : Int32)), .val (.int vs7), .val (.ref b29), .val (.int vq9), .val (.int (4 : Int32)), .unset, .unset, .unset, .unset, .unset]) rfl) ?_
        show Goes _ _ _ _ _ _ _ (T45.setTop (mkF m 80 _ []))
        refine G1 (fun _ => XS.iload X45.here hx rfl (hb hby at_80) rfl ) ?_
        refine G1 (fun _ => XS.ifNo X45.here hx rfl (hb hby at_82) rfl ((if0 _ _).trans (teq (by decide : (0 : Int32) = (0 : Int32))).2)) ?_
        show Goes _ _ _ _ _ _ _ (T45.setTop (mkF m 85 _ []))
        refine G1 (fun _ => XS.iconst X45.here hx rfl (hb hby at_85)) ?_
        refine G1 (fun _ => XS.goto X45.here hx rfl (pc0 := 86) (pc' := 98) rfl (hb hby at_86) (by decide) (by decide)) ?_
        show Goes _ _ _ _ _ _ _ (T45.setTop (mkF m 98 _ [(.int (0 : Int32))]))
        refine G1 (fun _ => XS.istore X45.here hx rfl (hb hby at_98) rfl (l' := #[.val (.int p0), .val (.int p1), .val (.int p2), .val (.int p3), .val (.int p4), .val (.int (2 : Int32)), .val (.int (0 : Int32)), .val (.int vs7), .val (.ref b29), .val (.int vq9), .val (.int (4 : Int32)), .val (.int (0 : Int32)), .unset, .unset, .unset, .unset]) rfl) ?_
        show Goes _ _ _ _ _ _ _ (T45.setTop (mkF m 100 _ []))
        obtain ⟨T283, h283, X283, e283, E283, A283, D283, -, st283⟩ := newO X45 hx hZ hown w_1 w_2 w_3 e45 (g := (mkF m 100 #[.val (.int p0), .val (.int p1), .val (.int p2), .val (.int p3), .val (.int p4), .val (.int (2 : Int32)), .val (.int (0 : Int32)), .val (.int vs7), .val (.ref b29), .val (.int vq9), .val (.int (4 : Int32)), .val (.int (0 : Int32)), .unset, .unset, .unset, .unset] [])) rfl (hb hby at_100) (by decide) (by decide)
        obtain ⟨b283, g283⟩ : ∃ z, z = h45.size := ⟨_, rfl⟩
        rw [← g283] at A283 D283 st283
        refine G1 st283 ?_
        have g_b283 : n0 ≤ b283 := Nat.le_trans Z49 (Nat.le_of_eq g283.symm)
        have sz_b283 : h0.size ≤ b283 := Nat.le_trans K49.1 (Nat.le_of_eq g283.symm)
        have ne284 : b29 ≠ b283 := Nat.ne_of_lt (Nat.lt_of_lt_of_le f47.lt (Nat.le_of_eq g283.symm))
        have XO285 : Old Z n0 h283 := XO46.ext E283
        have f286 := f47.ext E283
        have f287 := f48.ext E283
        have K288 : Keep h0 h283 [] := K49.ext E283
        have Z288 : n0 ≤ h283.size := Nat.le_trans Z49 E283.1
        have E_b283 := A283
        have F_most_b283 : Fld Z h283 b283 "com/example/nehaba/nehaba/input/KeptValues" "most" "I" (.int (0 : Int32)) := D283 (Or.inr w_12) (ty := .int) (by decide)
        have F_keys_b283 : Fld Z h283 b283 "com/example/nehaba/nehaba/input/KeptValues" "keys" "[Ljava/lang/Object;" .null := D283 (Or.inr w_25) (ty := (.array (.object "java/lang/Object"))) (by decide)
        have F_hashes_b283 : Fld Z h283 b283 "com/example/nehaba/nehaba/input/KeptValues" "hashes" "[I" .null := D283 (Or.inr w_27) (ty := (.array .int)) (by decide)
        have F_values_b283 : Fld Z h283 b283 "com/example/nehaba/nehaba/input/KeptValues" "values" "[Ljava/lang/Object;" .null := D283 (Or.inr w_29) (ty := (.array (.object "java/lang/Object"))) (by decide)
        have F_shift_b283 : Fld Z h283 b283 "com/example/nehaba/nehaba/input/KeptValues" "shift" "I" (.int (0 : Int32)) := D283 (Or.inr w_32) (ty := .int) (by decide)
        have F_size_b283 : Fld Z h283 b283 "com/example/nehaba/nehaba/input/KeptValues" "size" "I" (.int (0 : Int32)) := D283 (Or.inl w_64) (ty := .int) (by decide)
        show Goes _ _ _ _ _ _ _ (T283.setTop (mkF m 103 _ [(.ref b283)]))
        refine G1 (fun _ => XS.dup X283.here hx rfl (hb hby at_103) rfl rfl) ?_
        refine G1 (fun _ => XS.iload X283.here hx rfl (hb hby at_104) rfl ) ?_
        obtain ⟨_, _, ⟨T289, L289, k289, n289⟩, -, X289, ⟨Lc289, hQ289, l289, y289, z289⟩, st289⟩ := X283.specialBack hx (y := mN7) rfl hown (mvT hZ w_4) (mvT hZ w_5) (mvT hZ w_6) (by decide) (backOf (W := 1) (rm1_2 l Z a0 hw [] b283 h283 n0 Z288 F_most_b283 F_keys_b283 F_hashes_b283 F_values_b283 F_shift_b283 F_size_b283 E_b283 g_b283) hZ w_6 w_3 (by decide) (by decide)) (g := (mkF m 106 #[.val (.int p0), .val (.int p1), .val (.int p2), .val (.int p3), .val (.int p4), .val (.int (2 : Int32)), .val (.int (0 : Int32)), .val (.int vs7), .val (.ref b29), .val (.int vq9), .val (.int (4 : Int32)), .val (.int (0 : Int32)), .unset, .unset, .unset, .unset] [(.int (2 : Int32)), (.ref b283), (.ref b283)])) rfl (by rw [hml]; rfl) (Steps.refl _) (a := b283) (argsL := [(.int (2 : Int32))]) (rest := [(.ref b283)]) (lenOf pd_0 rfl) rfl (by show 2 * 0 + _ ≤ _; exact Nat.le_of_eq rfl) (hb hby at_106) (fun _ _ => ⟨rfl, e283, (by decide : 2 + 3 ≤ _), (by decide : 9 + 12 ≤ _)⟩)
        dsimp only [Pt.U, Pt.locs, Pt.cells, Pt.slots] at X289 l289 y289 z289 st289 hQ289
        rw [l289, y289, z289] at X289
        obtain ⟨N289, KK289, hR289⟩ := hQ289
        have NA289 := Fr.app N49 N289
        have XO290 : Old Z n0 T289.heap := XO285.keep KK289 (allS g_b283 all0)
        have f291 := f286.keep KK289
        have f292 := f287.keep KK289 (ninS ne284 nin0)
        have f293 := E_b283.keep KK289
        have K300 : Keep h0 T289.heap [] := K288.trans KK289 (allS (Or.inr sz_b283) all0)
        have Z300 : n0 ≤ T289.heap.size := Nat.le_trans Z288 KK289.1
        obtain ⟨r289_0_0, r289_0_1, r289_0_2, kk289_0_0, kk289_0_1, kk289_0_2, rfl, g_r289_0_0, le_r289_0_0, g_r289_0_1, le_r289_0_1, g_r289_0_2, le_r289_0_2, nn289_0_0, nn289_0_1, nn289_0_2, v289_0_0, v289_0_1, v289_0_2, v289_0_3, v289_0_4, v289_0_5, v289_0_6, v289_0_7, v289_0_8, v289_0_9, oo289_0_0, oo289_0_1⟩ := hR289
        have ne301 : b29 ≠ r289_0_0 := Nat.ne_of_lt (Nat.lt_of_lt_of_le f286.lt le_r289_0_0)
        have ne302 : b283 ≠ r289_0_0 := Nat.ne_of_lt (Nat.lt_of_lt_of_le E_b283.lt le_r289_0_0)
        have sz_r289_0_0 : h0.size ≤ r289_0_0 := Nat.le_trans K288.1 le_r289_0_0
        have ne303 : b29 ≠ r289_0_1 := Nat.ne_of_lt (Nat.lt_of_lt_of_le f286.lt le_r289_0_1)
        have ne304 : b283 ≠ r289_0_1 := Nat.ne_of_lt (Nat.lt_of_lt_of_le E_b283.lt le_r289_0_1)
        have sz_r289_0_1 : h0.size ≤ r289_0_1 := Nat.le_trans K288.1 le_r289_0_1
        have ne305 : b29 ≠ r289_0_2 := Nat.ne_of_lt (Nat.lt_of_lt_of_le f286.lt le_r289_0_2)
        have ne306 : b283 ≠ r289_0_2 := Nat.ne_of_lt (Nat.lt_of_lt_of_le E_b283.lt le_r289_0_2)
        have sz_r289_0_2 : h0.size ≤ r289_0_2 := Nat.le_trans K288.1 le_r289_0_2
        refine G2 st289 ?_
        show Goes _ _ _ _ _ _ _ (T289.setTop (mkF m 109 _ [(.ref b283)]))
        show Goes _ _ _ _ _ _ _ (T289.setTop (mkF m 109 #[.val (.int p0), .val (.int p1), .val (.int p2), .val (.int p3), .val (.int p4), .val (.int (2 : Int32)), .val (.int (0 : Int32)), .val (.int vs7), .val (.ref b29), .val (.int vq9), .val (.int (4 : Int32)), .val (.int (0 : Int32)), .unset, .unset, .unset, .unset] [(.ref b283)]))
        have hN : 4 = 2 ∨ 4 = 4 ∨ 4 = 8 := (Or.inr (Or.inl rfl))
        have hS : (4 = 2 ∧ (30 : Int32) = 31) ∨ (4 = 4 ∧ (30 : Int32) = 30) ∨ (4 = 8 ∧ (30 : Int32) = 29) := (Or.inr (Or.inl ⟨rfl, rfl⟩))
        obtain ⟨f1, hf1⟩ : ∃ z : Fin 4, z.val = (own_f p1 (30 : Int32)).toNatClampNeg := ⟨⟨_, (own_first (N := 4) p1 hS).2⟩, rfl⟩
        obtain ⟨f2, hf2⟩ : ∃ z : Fin 4, z.val = (own_f p2 (30 : Int32)).toNatClampNeg := ⟨⟨_, (own_first (N := 4) p2 hS).2⟩, rfl⟩
        obtain ⟨f3, hf3⟩ : ∃ z : Fin 4, z.val = (own_f p3 (30 : Int32)).toNatClampNeg := ⟨⟨_, (own_first (N := 4) p3 hS).2⟩, rfl⟩
        obtain ⟨f4, hf4⟩ : ∃ z : Fin 4, z.val = (own_f vq9 (30 : Int32)).toNatClampNeg := ⟨⟨_, (own_first (N := 4) vq9 hS).2⟩, rfl⟩
        have ee1 : decide (p1 = vq9) = true → f1 = f4 := fun z => Fin.ext (by rw [hf1, hf4, of_decide_eq_true z])
        have ee2 : decide (p2 = vq9) = true → f2 = f4 := fun z => Fin.ext (by rw [hf2, hf4, of_decide_eq_true z])
        have ee3 : decide (p3 = vq9) = true → f3 = f4 := fun z => Fin.ext (by rw [hf3, hf4, of_decide_eq_true z])
        show Goes _ _ _ _ _ _ _ (T289.setTop (mkF m 109 #[.val (.int p0), .val (.int p1), .val (.int p2), .val (.int p3), .val (.int p4), .val (.int (2 : Int32)), .val (.int (0 : Int32)), .val (.int vs7), .val (.ref b29), .val (.int vq9), .val (.int (4 : Int32)), .val (.int (0 : Int32)), .unset, .unset, .unset, .unset] [(.ref b283)]))
        refine G1 (fun _ => XS.astore X289.here hx rfl (hb hby at_109) rfl rfl (l' := #[.val (.int p0), .val (.int p1), .val (.int p2), .val (.int p3), .val (.int p4), .val (.int (2 : Int32)), .val (.int (0 : Int32)), .val (.int vs7), .val (.ref b29), .val (.int vq9), .val (.int (4 : Int32)), .val (.int (0 : Int32)), .val (.ref b283), .unset, .unset, .unset]) rfl) ?_
        show Goes _ _ _ _ _ _ _ (T289.setTop (mkF m 111 _ []))
        refine G1 (fun _ => XS.iload X289.here hx rfl (hb hby at_111) rfl ) ?_
        refine G1 (fun _ => XS.iconst X289.here hx rfl (hb hby at_113)) ?_
        refine G1 (fun _ => XS.icmpYes X289.here hx rfl (pc0 := 114) (pc' := 136) rfl (hb hby at_114) rfl (tlt (by decide : (0 : Int32) < (1 : Int32))).1 (by decide) (by decide)) ?_
        show Goes _ _ _ _ _ _ _ (T289.setTop (mkF m 136 _ []))
        show Goes _ _ _ _ _ _ _ (T289.setTop (mkF m 136 #[.val (.int p0), .val (.int p1), .val (.int p2), .val (.int p3), .val (.int p4), .val (.int (2 : Int32)), .val (.int (0 : Int32)), .val (.int vs7), .val (.ref b29), .val (.int vq9), .val (.int (4 : Int32)), .val (.int (0 : Int32)), .val (.ref b283), .unset, .unset, .unset] []))
        refine G1 (fun _ => XS.iload X289.here hx rfl (hb hby at_136) rfl ) ?_
        refine G1 (fun _ => XS.iconst X289.here hx rfl (hb hby at_138)) ?_
        refine G1 (fun _ => XS.icmpYes X289.here hx rfl (pc0 := 139) (pc' := 161) rfl (hb hby at_139) rfl (tlt (by decide : (0 : Int32) < (2 : Int32))).1 (by decide) (by decide)) ?_
        show Goes _ _ _ _ _ _ _ (T289.setTop (mkF m 161 _ []))
        show Goes _ _ _ _ _ _ _ (T289.setTop (mkF m 161 #[.val (.int p0), .val (.int p1), .val (.int p2), .val (.int p3), .val (.int p4), .val (.int (2 : Int32)), .val (.int (0 : Int32)), .val (.int vs7), .val (.ref b29), .val (.int vq9), .val (.int (4 : Int32)), .val (.int (0 : Int32)), .val (.ref b283), .unset, .unset, .unset] []))
        refine G1 (fun _ => XS.iload X289.here hx rfl (hb hby at_161) rfl ) ?_
        refine G1 (fun _ => XS.iconst X289.here hx rfl (hb hby at_163)) ?_
        refine G1 (fun _ => XS.icmpYes X289.here hx rfl (pc0 := 164) (pc' := 186) rfl (hb hby at_164) rfl (tlt (by decide : (0 : Int32) < (3 : Int32))).1 (by decide) (by decide)) ?_
        show Goes _ _ _ _ _ _ _ (T289.setTop (mkF m 186 _ []))
        refine G1 (fun _ => XS.iconst X289.here hx rfl (hb hby at_186)) ?_
        refine G1 (fun _ => XS.istore X289.here hx rfl (hb hby at_187) rfl (l' := #[.val (.int p0), .val (.int p1), .val (.int p2), .val (.int p3), .val (.int p4), .val (.int (2 : Int32)), .val (.int (0 : Int32)), .val (.int vs7), .val (.ref b29), .val (.int vq9), .val (.int (4 : Int32)), .val (.int (0 : Int32)), .val (.ref b283), .val (.int (0 : Int32)), .unset, .unset]) rfl) ?_
        show Goes _ _ _ _ _ _ _ (T289.setTop (mkF m 189 _ []))
        show Goes _ _ _ _ _ _ _ (T289.setTop (mkF m 189 #[.val (.int p0), .val (.int p1), .val (.int p2), .val (.int p3), .val (.int p4), .val (.int (2 : Int32)), .val (.int (0 : Int32)), .val (.int vs7), .val (.ref b29), .val (.int vq9), .val (.int (4 : Int32)), .val (.int (0 : Int32)), .val (.ref b283), .val (.int (0 : Int32)), .unset, .unset] []))
        have hsk0 : seekP own_t0 (own_e3 (decide (p1 = vq9)) (decide (p2 = vq9)) (decide (p3 = vq9))) 4 9 f4.val = some f4.val := rfl
        have hpb : own_b (own_t0 f4.val) = own_i false := rfl
        have hcn : own_b (own_t0 ((0 : Int32)).toNatClampNeg) + own_b (own_t0 ((1 : Int32)).toNatClampNeg) + own_b (own_t0 ((2 : Int32)).toNatClampNeg) + own_b (own_t0 ((3 : Int32)).toNatClampNeg) = (0 : Int32) := rfl
        have hsk : seekP own_t0 (fun j => decide (own_H p1 p2 p3 j = vq9)) 4 9 (own_f vq9 (30 : Int32)).toNatClampNeg = some f4.val := by rw [own_e3H, ← hf4]; exact hsk0
        have hH : ∀ p j, own_t0 p = some j → (fun _ => (0 : Int32)) p = own_H p1 p2 p3 j := own_hH0
        have J252 : ∀ ex : Int32, own_i false = ex → Goes p e below s room_1.cells room_1.slots (fun v h L => Q0 Z p0 p1 p2 p3 p4 ca cc h0 n0 v h L) (T289.setTop (mkF m 252 #[.val (.int p0), .val (.int p1), .val (.int p2), .val (.int p3), .val (.int p4), .val (.int (2 : Int32)), .val (.int (0 : Int32)), .val (.int vs7), .val (.ref b29), .val (.int vq9), .val (.int (4 : Int32)), .val (.int (0 : Int32)), .val (.ref b283), .val (.int ex), .unset, .unset] [])) := by
          intro ex hex
          refine G1 (fun _ => XS.aload X289.here hx rfl (hb hby at_252) rfl rfl) ?_
          refine G1 (fun _ => XS.aload X289.here hx rfl (hb hby at_254) rfl rfl) ?_
          refine G1 (fun _ => XS.iload X289.here hx rfl (hb hby at_256) rfl ) ?_
          obtain ⟨cq307, kq307, q307a, q307b, q307c⟩ := isOf hZ rfl v289_0_6
          obtain ⟨_, _, ⟨T307, L307, k307, n307⟩, -, X307, ⟨Lc307, hQ307, l307, y307, z307⟩, st307⟩ := X289.virtualBack hx (y := mN8) (z := mN8) hown (mvT hZ w_33) (mvT hZ w_34) (notFace_of_selects (args := #[]) (mvT hZ w_36)) (mvT hZ w_36) (mvT hZ w_35) (by decide) (backOf (W := 1) (rm5 l Z a0 hw [] b283 vq9 r289_0_0 r289_0_1 r289_0_2 kk289_0_0 kk289_0_1 kk289_0_2 4 own_t0 (fun _ => (0 : Int32)) (fun _ => r289_0_0) (fun _ => r289_0_0) (30 : Int32) (2 : Int32) (0 : Int32) (own_H p1 p2 p3) 9 f4.val T289.heap n0 Z300 v289_0_6 v289_0_1 v289_0_2 v289_0_3 v289_0_0 v289_0_5 v289_0_4 v289_0_7 v289_0_8 v289_0_9 hN hH hS hsk) hZ w_37 w_3 (by decide) (by decide)) q307a q307c (g := (mkF m 258 #[.val (.int p0), .val (.int p1), .val (.int p2), .val (.int p3), .val (.int p4), .val (.int (2 : Int32)), .val (.int (0 : Int32)), .val (.int vs7), .val (.ref b29), .val (.int vq9), .val (.int (4 : Int32)), .val (.int (0 : Int32)), .val (.ref b283), .val (.int ex), .unset, .unset] [(.int vq9), (.ref b283), (.ref b283)])) rfl (by rw [hml]; rfl) (Steps.refl _) (argsL := [(.int vq9)]) (rest := [(.ref b283)]) (lenOf pd_2 rfl) rfl (by show 2 * 0 + _ ≤ _; exact Nat.le_of_eq rfl) (hb hby at_258) (fun _ _ => ⟨rfl, rfl, (by decide : 5 + 0 ≤ _), (by decide : 21 + 0 ≤ _)⟩)
          dsimp only [Pt.U, Pt.locs, Pt.cells, Pt.slots] at X307 l307 y307 z307 st307 hQ307
          rw [l307, y307, z307] at X307
          obtain ⟨N307, eh307, r307, rfl, r1_307, r2_307, r3_307⟩ := hQ307
          have NA307 := Fr.app NA289 N307
          refine G2 st307 ?_
          show Goes _ _ _ _ _ _ _ (T307.setTop (mkF m 261 _ [(.int r307), (.ref b283)]))
          obtain ⟨cq308, kq308, q308a, q308b, q308c⟩ := isOf hZ eh307 v289_0_6
          obtain ⟨_, _, ⟨T308, L308, k308, n308⟩, -, X308, ⟨Lc308, hQ308, l308, y308, z308⟩, st308⟩ := X307.virtualBack hx (y := mN6) (z := mN6) hown (mvT hZ w_47) (mvT hZ w_48) (notFace_of_selects (args := #[]) (mvT hZ w_50)) (mvT hZ w_50) (mvT hZ w_49) (by decide) (backOf (W := 0) (rm8 l Z a0 hw [] b283 r307 r289_0_0 r289_0_1 r289_0_2 kk289_0_0 kk289_0_1 kk289_0_2 4 own_t0 (fun _ => (0 : Int32)) (fun _ => r289_0_0) (fun _ => r289_0_0) (30 : Int32) (2 : Int32) (0 : Int32) T289.heap n0 Z300 v289_0_6 v289_0_1 v289_0_2 v289_0_3 v289_0_0 v289_0_5 v289_0_4 v289_0_7 v289_0_8 v289_0_9 r1_307 r3_307) hZ w_51 w_3 (by decide) (by decide)) q308a q308c (g := (mkF m 261 #[.val (.int p0), .val (.int p1), .val (.int p2), .val (.int p3), .val (.int p4), .val (.int (2 : Int32)), .val (.int (0 : Int32)), .val (.int vs7), .val (.ref b29), .val (.int vq9), .val (.int (4 : Int32)), .val (.int (0 : Int32)), .val (.ref b283), .val (.int ex), .unset, .unset] [(.int r307), (.ref b283)])) rfl (by rw [hml]; rfl) (Steps.refl _) (argsL := [(.int r307)]) (rest := []) (lenOf pd_4 rfl) rfl (by show 2 * 0 + _ ≤ _; exact Nat.le_of_eq rfl) (hb hby at_261) (fun _ _ => ⟨rfl, eh307, (by decide : 5 + 0 ≤ _), (by decide : 21 + 0 ≤ _)⟩)
          dsimp only [Pt.U, Pt.locs, Pt.cells, Pt.slots] at X308 l308 y308 z308 st308 hQ308
          rw [l308, y308, z308] at X308
          obtain ⟨N308, eh308, hv308⟩ := hQ308
          have NA308 := Fr.app NA307 N308
          subst hv308
          refine G2 st308 ?_
          show Goes _ _ _ _ _ _ _ (T308.setTop (mkF m 264 _ [(.int (own_b (own_t0 (r307).toNatClampNeg)))]))
          refine G1 (fun _ => XS.istore X308.here hx rfl (hb hby at_264) rfl (l' := #[.val (.int p0), .val (.int p1), .val (.int p2), .val (.int p3), .val (.int p4), .val (.int (2 : Int32)), .val (.int (0 : Int32)), .val (.int vs7), .val (.ref b29), .val (.int vq9), .val (.int (4 : Int32)), .val (.int (0 : Int32)), .val (.ref b283), .val (.int ex), .val (.int (own_b (own_t0 (r307).toNatClampNeg))), .unset]) rfl) ?_
          show Goes _ _ _ _ _ _ _ (T308.setTop (mkF m 266 _ []))
          show Goes _ _ _ _ _ _ _ (T308.setTop (mkF m 266 #[.val (.int p0), .val (.int p1), .val (.int p2), .val (.int p3), .val (.int p4), .val (.int (2 : Int32)), .val (.int (0 : Int32)), .val (.int vs7), .val (.ref b29), .val (.int vq9), .val (.int (4 : Int32)), .val (.int (0 : Int32)), .val (.ref b283), .val (.int ex), .val (.int (own_b (own_t0 (r307).toNatClampNeg))), .unset] []))
          have hfx : (own_b (own_t0 (r307).toNatClampNeg)) = ex := by rw [r2_307]; exact hpb.trans hex
          rw [hfx]
          exact J266_4 _ _ _ _ _ ex _ _ r289_0_0 r289_0_1 r289_0_2 kk289_0_0 kk289_0_1 kk289_0_2 own_t0 (fun _ => (0 : Int32)) (fun _ => r289_0_0) (fun _ => r289_0_0) (0 : Int32) T289.heap _ _ X308 eh308 NA308 Z300 v289_0_6 v289_0_1 v289_0_2 v289_0_3 v289_0_0 v289_0_5 v289_0_4 v289_0_7 v289_0_8 v289_0_9 hcn
        show Goes _ _ _ _ _ _ _ (T289.setTop (mkF m 189 #[.val (.int p0), .val (.int p1), .val (.int p2), .val (.int p3), .val (.int p4), .val (.int (2 : Int32)), .val (.int (0 : Int32)), .val (.int vs7), .val (.ref b29), .val (.int vq9), .val (.int (4 : Int32)), .val (.int (0 : Int32)), .val (.ref b283), .val (.int (0 : Int32)), .unset, .unset] []))
        refine G1 (fun _ => XS.iload X289.here hx rfl (hb hby at_189) rfl ) ?_
        refine G1 (fun _ => XS.iconst X289.here hx rfl (hb hby at_191)) ?_
        refine G1 (fun _ => XS.icmpYes X289.here hx rfl (pc0 := 192) (pc' := 210) rfl (hb hby at_192) rfl (tlt (by decide : (0 : Int32) < (1 : Int32))).1 (by decide) (by decide)) ?_
        show Goes _ _ _ _ _ _ _ (T289.setTop (mkF m 210 _ []))
        refine G1 (fun _ => XS.iload X289.here hx rfl (hb hby at_210) rfl ) ?_
        refine G1 (fun _ => XS.iconst X289.here hx rfl (hb hby at_212)) ?_
        refine G1 (fun _ => XS.icmpYes X289.here hx rfl (pc0 := 213) (pc' := 231) rfl (hb hby at_213) rfl (tlt (by decide : (0 : Int32) < (2 : Int32))).1 (by decide) (by decide)) ?_
        show Goes _ _ _ _ _ _ _ (T289.setTop (mkF m 231 _ []))
        refine G1 (fun _ => XS.iload X289.here hx rfl (hb hby at_231) rfl ) ?_
        refine G1 (fun _ => XS.iconst X289.here hx rfl (hb hby at_233)) ?_
        refine G1 (fun _ => XS.icmpYes X289.here hx rfl (pc0 := 234) (pc' := 252) rfl (hb hby at_234) rfl (tlt (by decide : (0 : Int32) < (3 : Int32))).1 (by decide) (by decide)) ?_
        show Goes _ _ _ _ _ _ _ (T289.setTop (mkF m 252 _ []))
        show Goes _ _ _ _ _ _ _ (T289.setTop (mkF m 252 #[.val (.int p0), .val (.int p1), .val (.int p2), .val (.int p3), .val (.int p4), .val (.int (2 : Int32)), .val (.int (0 : Int32)), .val (.int vs7), .val (.ref b29), .val (.int vq9), .val (.int (4 : Int32)), .val (.int (0 : Int32)), .val (.ref b283), .val (.int (0 : Int32)), .unset, .unset] []))
        exact J252 _ rfl
      · show Goes _ _ _ _ _ _ _ (T45.setTop (mkF m 56 #[.val (.int p0), .val (.int p1), .val (.int p2), .val (.int p3), .val (.int p4), .val (.int (2 : Int32)), .val (.int vn6), .val (.int vs7), .val (.ref b29), .val (.int vq9), .unset, .unset, .unset, .unset, .unset, .unset] []))
        refine G1 (fun _ => XS.iload X45.here hx rfl (hb hby at_56) rfl ) ?_
        refine G1 (fun _ => XS.iconst X45.here hx rfl (hb hby at_58)) ?_
        refine G1 (fun _ => XS.icmpYes X45.here hx rfl (pc0 := 59) (pc' := 66) rfl (hb hby at_59) rfl (feq (by decide : ¬ ((2 : Int32) = (1 : Int32)))).2 (by decide) (by decide)) ?_
        show Goes _ _ _ _ _ _ _ (T45.setTop (mkF m 66 _ []))
        refine G1 (fun _ => XS.iload X45.here hx rfl (hb hby at_66) rfl ) ?_
        refine G1 (fun _ => XS.iconst X45.here hx rfl (hb hby at_68)) ?_
        refine G1 (fun _ => XS.icmpNo X45.here hx rfl (hb hby at_69) rfl (teq (by decide : (2 : Int32) = (2 : Int32))).2) ?_
        show Goes _ _ _ _ _ _ _ (T45.setTop (mkF m 72 _ []))
        refine G1 (fun _ => XS.iconst X45.here hx rfl (hb hby at_72)) ?_
        refine G1 (fun _ => XS.goto X45.here hx rfl (pc0 := 73) (pc' := 78) rfl (hb hby at_73) (by decide) (by decide)) ?_
        show Goes _ _ _ _ _ _ _ (T45.setTop (mkF m 78 _ [(.int (4 : Int32))]))
        refine G1 (fun _ => XS.istore X45.here hx rfl (hb hby at_78) rfl (l' := #[.val (.int p0), .val (.int p1), .val (.int p2), .val (.int p3), .val (.int p4), .val (.int (2 : Int32)), .val (.int vn6), .val (.int vs7), .val (.ref b29), .val (.int vq9), .val (.int (4 : Int32)), .unset, .unset, .unset, .unset, .unset]) rfl) ?_
        show Goes _ _ _ _ _ _ _ (T45.setTop (mkF m 80 _ []))
        refine G1 (fun _ => XS.iload X45.here hx rfl (hb hby at_80) rfl ) ?_
        refine G1 (fun _ => XS.ifYes X45.here hx rfl (pc0 := 82) (pc' := 89) rfl (hb hby at_82) rfl ((if0 _ _).trans (feq (own_nA hnA).1).2) (by decide) (by decide)) ?_
        show Goes _ _ _ _ _ _ _ (T45.setTop (mkF m 89 _ []))
        refine G1 (fun _ => XS.iload X45.here hx rfl (hb hby at_89) rfl ) ?_
        refine G1 (fun _ => XS.iconst X45.here hx rfl (hb hby at_91)) ?_
        refine G1 (fun _ => XS.isub X45.here hx rfl (hb hby at_92) rfl) ?_
        show Goes _ _ _ _ _ _ _ (T45.setTop (mkF m 93 _ [(.int (vn6 - (1 : Int32)))]))
        refine G1 (fun _ => XS.iload X45.here hx rfl (hb hby at_93) rfl ) ?_
        refine G1 (fun _ => iremM X45 hx rfl (hb hby at_95) rfl (by decide)) ?_
        show Goes _ _ _ _ _ _ _ (T45.setTop (mkF m 96 _ [(.int ((vn6 - (1 : Int32)) % (2 : Int32)))]))
        refine G1 (fun _ => XS.iconst X45.here hx rfl (hb hby at_96)) ?_
        refine G1 (fun _ => XS.iadd X45.here hx rfl (hb hby at_97) rfl) ?_
        show Goes _ _ _ _ _ _ _ (T45.setTop (mkF m 98 _ [(.int (((vn6 - (1 : Int32)) % (2 : Int32)) + (1 : Int32)))]))
        refine G1 (fun _ => XS.istore X45.here hx rfl (hb hby at_98) rfl (l' := #[.val (.int p0), .val (.int p1), .val (.int p2), .val (.int p3), .val (.int p4), .val (.int (2 : Int32)), .val (.int vn6), .val (.int vs7), .val (.ref b29), .val (.int vq9), .val (.int (4 : Int32)), .val (.int (((vn6 - (1 : Int32)) % (2 : Int32)) + (1 : Int32))), .unset, .unset, .unset, .unset]) rfl) ?_
        show Goes _ _ _ _ _ _ _ (T45.setTop (mkF m 100 _ []))
        obtain ⟨T309, h309, X309, e309, E309, A309, D309, -, st309⟩ := newO X45 hx hZ hown w_1 w_2 w_3 e45 (g := (mkF m 100 #[.val (.int p0), .val (.int p1), .val (.int p2), .val (.int p3), .val (.int p4), .val (.int (2 : Int32)), .val (.int vn6), .val (.int vs7), .val (.ref b29), .val (.int vq9), .val (.int (4 : Int32)), .val (.int (((vn6 - (1 : Int32)) % (2 : Int32)) + (1 : Int32))), .unset, .unset, .unset, .unset] [])) rfl (hb hby at_100) (by decide) (by decide)
        obtain ⟨b309, g309⟩ : ∃ z, z = h45.size := ⟨_, rfl⟩
        rw [← g309] at A309 D309 st309
        refine G1 st309 ?_
        have g_b309 : n0 ≤ b309 := Nat.le_trans Z49 (Nat.le_of_eq g309.symm)
        have sz_b309 : h0.size ≤ b309 := Nat.le_trans K49.1 (Nat.le_of_eq g309.symm)
        have ne310 : b29 ≠ b309 := Nat.ne_of_lt (Nat.lt_of_lt_of_le f47.lt (Nat.le_of_eq g309.symm))
        have XO311 : Old Z n0 h309 := XO46.ext E309
        have f312 := f47.ext E309
        have f313 := f48.ext E309
        have K314 : Keep h0 h309 [] := K49.ext E309
        have Z314 : n0 ≤ h309.size := Nat.le_trans Z49 E309.1
        have E_b309 := A309
        have F_most_b309 : Fld Z h309 b309 "com/example/nehaba/nehaba/input/KeptValues" "most" "I" (.int (0 : Int32)) := D309 (Or.inr w_12) (ty := .int) (by decide)
        have F_keys_b309 : Fld Z h309 b309 "com/example/nehaba/nehaba/input/KeptValues" "keys" "[Ljava/lang/Object;" .null := D309 (Or.inr w_25) (ty := (.array (.object "java/lang/Object"))) (by decide)
        have F_hashes_b309 : Fld Z h309 b309 "com/example/nehaba/nehaba/input/KeptValues" "hashes" "[I" .null := D309 (Or.inr w_27) (ty := (.array .int)) (by decide)
        have F_values_b309 : Fld Z h309 b309 "com/example/nehaba/nehaba/input/KeptValues" "values" "[Ljava/lang/Object;" .null := D309 (Or.inr w_29) (ty := (.array (.object "java/lang/Object"))) (by decide)
        have F_shift_b309 : Fld Z h309 b309 "com/example/nehaba/nehaba/input/KeptValues" "shift" "I" (.int (0 : Int32)) := D309 (Or.inr w_32) (ty := .int) (by decide)
        have F_size_b309 : Fld Z h309 b309 "com/example/nehaba/nehaba/input/KeptValues" "size" "I" (.int (0 : Int32)) := D309 (Or.inl w_64) (ty := .int) (by decide)
        show Goes _ _ _ _ _ _ _ (T309.setTop (mkF m 103 _ [(.ref b309)]))
        refine G1 (fun _ => XS.dup X309.here hx rfl (hb hby at_103) rfl rfl) ?_
        refine G1 (fun _ => XS.iload X309.here hx rfl (hb hby at_104) rfl ) ?_
        obtain ⟨_, _, ⟨T315, L315, k315, n315⟩, -, X315, ⟨Lc315, hQ315, l315, y315, z315⟩, st315⟩ := X309.specialBack hx (y := mN7) rfl hown (mvT hZ w_4) (mvT hZ w_5) (mvT hZ w_6) (by decide) (backOf (W := 1) (rm1_2 l Z a0 hw [] b309 h309 n0 Z314 F_most_b309 F_keys_b309 F_hashes_b309 F_values_b309 F_shift_b309 F_size_b309 E_b309 g_b309) hZ w_6 w_3 (by decide) (by decide)) (g := (mkF m 106 #[.val (.int p0), .val (.int p1), .val (.int p2), .val (.int p3), .val (.int p4), .val (.int (2 : Int32)), .val (.int vn6), .val (.int vs7), .val (.ref b29), .val (.int vq9), .val (.int (4 : Int32)), .val (.int (((vn6 - (1 : Int32)) % (2 : Int32)) + (1 : Int32))), .unset, .unset, .unset, .unset] [(.int (2 : Int32)), (.ref b309), (.ref b309)])) rfl (by rw [hml]; rfl) (Steps.refl _) (a := b309) (argsL := [(.int (2 : Int32))]) (rest := [(.ref b309)]) (lenOf pd_0 rfl) rfl (by show 2 * 0 + _ ≤ _; exact Nat.le_of_eq rfl) (hb hby at_106) (fun _ _ => ⟨rfl, e309, (by decide : 2 + 3 ≤ _), (by decide : 9 + 12 ≤ _)⟩)
        dsimp only [Pt.U, Pt.locs, Pt.cells, Pt.slots] at X315 l315 y315 z315 st315 hQ315
        rw [l315, y315, z315] at X315
        obtain ⟨N315, KK315, hR315⟩ := hQ315
        have NA315 := Fr.app N49 N315
        have XO316 : Old Z n0 T315.heap := XO311.keep KK315 (allS g_b309 all0)
        have f317 := f312.keep KK315
        have f318 := f313.keep KK315 (ninS ne310 nin0)
        have f319 := E_b309.keep KK315
        have K326 : Keep h0 T315.heap [] := K314.trans KK315 (allS (Or.inr sz_b309) all0)
        have Z326 : n0 ≤ T315.heap.size := Nat.le_trans Z314 KK315.1
        obtain ⟨r315_0_0, r315_0_1, r315_0_2, kk315_0_0, kk315_0_1, kk315_0_2, rfl, g_r315_0_0, le_r315_0_0, g_r315_0_1, le_r315_0_1, g_r315_0_2, le_r315_0_2, nn315_0_0, nn315_0_1, nn315_0_2, v315_0_0, v315_0_1, v315_0_2, v315_0_3, v315_0_4, v315_0_5, v315_0_6, v315_0_7, v315_0_8, v315_0_9, oo315_0_0, oo315_0_1⟩ := hR315
        have ne327 : b29 ≠ r315_0_0 := Nat.ne_of_lt (Nat.lt_of_lt_of_le f312.lt le_r315_0_0)
        have ne328 : b309 ≠ r315_0_0 := Nat.ne_of_lt (Nat.lt_of_lt_of_le E_b309.lt le_r315_0_0)
        have sz_r315_0_0 : h0.size ≤ r315_0_0 := Nat.le_trans K314.1 le_r315_0_0
        have ne329 : b29 ≠ r315_0_1 := Nat.ne_of_lt (Nat.lt_of_lt_of_le f312.lt le_r315_0_1)
        have ne330 : b309 ≠ r315_0_1 := Nat.ne_of_lt (Nat.lt_of_lt_of_le E_b309.lt le_r315_0_1)
        have sz_r315_0_1 : h0.size ≤ r315_0_1 := Nat.le_trans K314.1 le_r315_0_1
        have ne331 : b29 ≠ r315_0_2 := Nat.ne_of_lt (Nat.lt_of_lt_of_le f312.lt le_r315_0_2)
        have ne332 : b309 ≠ r315_0_2 := Nat.ne_of_lt (Nat.lt_of_lt_of_le E_b309.lt le_r315_0_2)
        have sz_r315_0_2 : h0.size ≤ r315_0_2 := Nat.le_trans K314.1 le_r315_0_2
        refine G2 st315 ?_
        show Goes _ _ _ _ _ _ _ (T315.setTop (mkF m 109 _ [(.ref b309)]))
        show Goes _ _ _ _ _ _ _ (T315.setTop (mkF m 109 #[.val (.int p0), .val (.int p1), .val (.int p2), .val (.int p3), .val (.int p4), .val (.int (2 : Int32)), .val (.int vn6), .val (.int vs7), .val (.ref b29), .val (.int vq9), .val (.int (4 : Int32)), .val (.int (((vn6 - (1 : Int32)) % (2 : Int32)) + (1 : Int32))), .unset, .unset, .unset, .unset] [(.ref b309)]))
        have hN : 4 = 2 ∨ 4 = 4 ∨ 4 = 8 := (Or.inr (Or.inl rfl))
        have hS : (4 = 2 ∧ (30 : Int32) = 31) ∨ (4 = 4 ∧ (30 : Int32) = 30) ∨ (4 = 8 ∧ (30 : Int32) = 29) := (Or.inr (Or.inl ⟨rfl, rfl⟩))
        obtain ⟨f1, hf1⟩ : ∃ z : Fin 4, z.val = (own_f p1 (30 : Int32)).toNatClampNeg := ⟨⟨_, (own_first (N := 4) p1 hS).2⟩, rfl⟩
        obtain ⟨f2, hf2⟩ : ∃ z : Fin 4, z.val = (own_f p2 (30 : Int32)).toNatClampNeg := ⟨⟨_, (own_first (N := 4) p2 hS).2⟩, rfl⟩
        obtain ⟨f3, hf3⟩ : ∃ z : Fin 4, z.val = (own_f p3 (30 : Int32)).toNatClampNeg := ⟨⟨_, (own_first (N := 4) p3 hS).2⟩, rfl⟩
        obtain ⟨f4, hf4⟩ : ∃ z : Fin 4, z.val = (own_f vq9 (30 : Int32)).toNatClampNeg := ⟨⟨_, (own_first (N := 4) vq9 hS).2⟩, rfl⟩
        have ee1 : decide (p1 = vq9) = true → f1 = f4 := fun z => Fin.ext (by rw [hf1, hf4, of_decide_eq_true z])
        have ee2 : decide (p2 = vq9) = true → f2 = f4 := fun z => Fin.ext (by rw [hf2, hf4, of_decide_eq_true z])
        have ee3 : decide (p3 = vq9) = true → f3 = f4 := fun z => Fin.ext (by rw [hf3, hf4, of_decide_eq_true z])
        show Goes _ _ _ _ _ _ _ (T315.setTop (mkF m 109 #[.val (.int p0), .val (.int p1), .val (.int p2), .val (.int p3), .val (.int p4), .val (.int (2 : Int32)), .val (.int vn6), .val (.int vs7), .val (.ref b29), .val (.int vq9), .val (.int (4 : Int32)), .val (.int (((vn6 - (1 : Int32)) % (2 : Int32)) + (1 : Int32))), .unset, .unset, .unset, .unset] [(.ref b309)]))
        refine G1 (fun _ => XS.astore X315.here hx rfl (hb hby at_109) rfl rfl (l' := #[.val (.int p0), .val (.int p1), .val (.int p2), .val (.int p3), .val (.int p4), .val (.int (2 : Int32)), .val (.int vn6), .val (.int vs7), .val (.ref b29), .val (.int vq9), .val (.int (4 : Int32)), .val (.int (((vn6 - (1 : Int32)) % (2 : Int32)) + (1 : Int32))), .val (.ref b309), .unset, .unset, .unset]) rfl) ?_
        show Goes _ _ _ _ _ _ _ (T315.setTop (mkF m 111 _ []))
        refine G1 (fun _ => XS.iload X315.here hx rfl (hb hby at_111) rfl ) ?_
        refine G1 (fun _ => XS.iconst X315.here hx rfl (hb hby at_113)) ?_
        refine G1 (fun _ => XS.icmpNo X315.here hx rfl (hb hby at_114) rfl (flt (own_nA hnA).2).1) ?_
        show Goes _ _ _ _ _ _ _ (T315.setTop (mkF m 117 _ []))
        refine G1 (fun _ => XS.aload X315.here hx rfl (hb hby at_117) rfl rfl) ?_
        refine G1 (fun _ => XS.aload X315.here hx rfl (hb hby at_119) rfl rfl) ?_
        refine G1 (fun _ => XS.iconst X315.here hx rfl (hb hby at_121)) ?_
        obtain ⟨cl333, Ar333, q333, S333, P333, H333, G333⟩ := id f318
        have hin333 : ¬ ((0 : Int32) < 0 ∨ cl333.slots.size ≤ ((0 : Int32)).toNatClampNeg) := inb_of S333 ⟨by decide, by decide⟩
        have hat333 : cl333.slots[((0 : Int32)).toNatClampNeg]? = some (.int p1) := H333 _ (by rw [S333]; decide)
        refine G1 (fun _ => X315.iaload hx (j := (0 : Int32)) (v := (.int p1)) (by exact Ar333.1) (State.isArrayOf_alike hZ.alike Ar333.2.1) Ar333.2.2 hin333 hat333 (g := (mkF m 122 #[.val (.int p0), .val (.int p1), .val (.int p2), .val (.int p3), .val (.int p4), .val (.int (2 : Int32)), .val (.int vn6), .val (.int vs7), .val (.ref b29), .val (.int vq9), .val (.int (4 : Int32)), .val (.int (((vn6 - (1 : Int32)) % (2 : Int32)) + (1 : Int32))), .val (.ref b309), .unset, .unset, .unset] [(.int (0 : Int32)), (.ref b29), (.ref b309)])) rfl rfl (hb hby at_122) _) ?_
        show Goes _ _ _ _ _ _ _ (T315.setTop (mkF m 123 _ [(.int p1), (.ref b309)]))
        refine G1 (fun _ => XS.iconst X315.here hx rfl (hb hby at_123)) ?_
        obtain ⟨_, _, ⟨T334, L334, k334, n334⟩, -, X334, ⟨Lc334, hQ334, l334, y334, z334⟩, st334⟩ := Jvm.LawKit.callS X315 hx (y := mN9) hown (mvT hZ w_52) (mvT hZ w_53) (mvT hZ w_15) (mvT hZ w_54) (by decide) (backOf (W := 2) (rm9 l Z a0 hw [] (0 : Int32) ca cc T315.heap n0 Z326 (S_high.ext XO316.2) (S_cache.ext XO316.2) BX XO316 (by decide) (by decide)) hZ w_54 w_15 (by decide) (by decide)) (g := (mkF m 124 #[.val (.int p0), .val (.int p1), .val (.int p2), .val (.int p3), .val (.int p4), .val (.int (2 : Int32)), .val (.int vn6), .val (.int vs7), .val (.ref b29), .val (.int vq9), .val (.int (4 : Int32)), .val (.int (((vn6 - (1 : Int32)) % (2 : Int32)) + (1 : Int32))), .val (.ref b309), .unset, .unset, .unset] [(.int (0 : Int32)), (.int p1), (.ref b309)])) rfl (by rw [hml]; rfl) (argsL := [(.int (0 : Int32))]) (rest := [(.int p1), (.ref b309)]) (lenOf pd_5 rfl) rfl (by show 2 * 0 + _ ≤ _; exact Nat.le_of_eq rfl) (hb hby at_124) (fun _ _ => ⟨rfl, rfl, (by decide : 5 + 0 ≤ _), (by decide : 21 + 0 ≤ _)⟩)
        dsimp only [Pt.U, Pt.locs, Pt.cells, Pt.slots] at X334 l334 y334 z334 st334 hQ334
        rw [l334, y334, z334] at X334
        obtain ⟨N334, KK334, r334, rfl, ex334⟩ := hQ334
        have NA334 := Fr.app NA315 N334
        have XO335 : Old Z n0 T334.heap := XO316.keep KK334 all0
        have f336 := f317.keep KK334
        have f337 := f318.keep KK334 nin0
        have f338 := v315_0_6.keep KK334
        have f339 := v315_0_0.keep KK334 nin0
        have f340 := v315_0_1.keep KK334 nin0
        have f341 := v315_0_2.keep KK334 nin0
        have f342 := v315_0_3.keep KK334 nin0
        have f343 := v315_0_4.keep KK334 nin0
        have f344 := v315_0_5.keep KK334 nin0
        have f345 := v315_0_7.keep KK334 nin0
        have f346 := v315_0_8.keep KK334 nin0
        have f347 := v315_0_9.keep KK334 nin0
        have K348 : Keep h0 T334.heap [] := K326.trans KK334 all0
        have Z348 : n0 ≤ T334.heap.size := Nat.le_trans Z326 KK334.1
        refine G1 st334 ?_
        show Goes _ _ _ _ _ _ _ (T334.setTop (mkF m 127 _ [(.ref r334), (.int p1), (.ref b309)]))
        refine G1 (fun _ => XS.bipush X334.here hx rfl (hb hby at_127)) ?_
        obtain ⟨_, _, ⟨T349, L349, k349, n349⟩, -, X349, ⟨Lc349, hQ349, l349, y349, z349⟩, st349⟩ := Jvm.LawKit.callS X334 hx (y := mN9) hown (mvT hZ w_52) (mvT hZ w_53) (mvT hZ w_15) (mvT hZ w_54) (by decide) (backOf (W := 3) (rm9 l Z a0 hw [] (10 : Int32) ca cc T334.heap n0 Z348 (S_high.ext XO335.2) (S_cache.ext XO335.2) BX XO335 (by decide) (by decide)) hZ w_54 w_15 (by decide) (by decide)) (g := (mkF m 129 #[.val (.int p0), .val (.int p1), .val (.int p2), .val (.int p3), .val (.int p4), .val (.int (2 : Int32)), .val (.int vn6), .val (.int vs7), .val (.ref b29), .val (.int vq9), .val (.int (4 : Int32)), .val (.int (((vn6 - (1 : Int32)) % (2 : Int32)) + (1 : Int32))), .val (.ref b309), .unset, .unset, .unset] [(.int (10 : Int32)), (.ref r334), (.int p1), (.ref b309)])) rfl (by rw [hml]; rfl) (argsL := [(.int (10 : Int32))]) (rest := [(.ref r334), (.int p1), (.ref b309)]) (lenOf pd_5 rfl) rfl (by show 2 * 0 + _ ≤ _; exact Nat.le_of_eq rfl) (hb hby at_129) (fun _ _ => ⟨rfl, rfl, (by decide : 5 + 0 ≤ _), (by decide : 21 + 0 ≤ _)⟩)
        dsimp only [Pt.U, Pt.locs, Pt.cells, Pt.slots] at X349 l349 y349 z349 st349 hQ349
        rw [l349, y349, z349] at X349
        obtain ⟨N349, KK349, r349, rfl, ex349⟩ := hQ349
        have NA349 := Fr.app NA334 N349
        have XO350 : Old Z n0 T349.heap := XO335.keep KK349 all0
        have f351 := f336.keep KK349
        have f352 := f337.keep KK349 nin0
        have f353 := f338.keep KK349
        have f354 := f339.keep KK349 nin0
        have f355 := f340.keep KK349 nin0
        have f356 := f341.keep KK349 nin0
        have f357 := f342.keep KK349 nin0
        have f358 := f343.keep KK349 nin0
        have f359 := f344.keep KK349 nin0
        have f360 := f345.keep KK349 nin0
        have f361 := f346.keep KK349 nin0
        have f362 := f347.keep KK349 nin0
        have f363 := ex334.keep KK349
        have K364 : Keep h0 T349.heap [] := K348.trans KK349 all0
        have Z364 : n0 ≤ T349.heap.size := Nat.le_trans Z348 KK349.1
        refine G1 st349 ?_
        show Goes _ _ _ _ _ _ _ (T349.setTop (mkF m 132 _ [(.ref r349), (.ref r334), (.int p1), (.ref b309)]))
        have rc365 : ArF Z T349.heap r315_0_0 kk315_0_0 (.object "java/lang/Object") 4 (fun j => rfv (own_K r334 r334 r334) (own_t0 j)) := f360.congr (fun _ _ => rfl)
        have rc366 : ArF Z T349.heap r315_0_2 kk315_0_2 (.object "java/lang/Object") 4 (fun j => rfv (own_K r349 r349 r349) (own_t0 j)) := f362.congr (fun _ _ => rfl)
        obtain ⟨cq367, kq367, q367a, q367b, q367c⟩ := isOf hZ rfl f353
        obtain ⟨_, _, ⟨T367, L367, k367, n367⟩, -, X367, ⟨Lc367, hQ367, l367, y367, z367⟩, st367⟩ := X349.virtualBack hx (y := mN10) (z := mN10) hown (mvT hZ w_58) (mvT hZ w_59) (notFace_of_selects (args := #[]) (mvT hZ w_61)) (mvT hZ w_61) (mvT hZ w_60) (by decide) (backOf (W := 0) (rm10_n l Z a0 hw [] b309 p1 r334 r349 r315_0_0 r315_0_1 r315_0_2 kk315_0_0 kk315_0_1 kk315_0_2 4 own_t0 (fun _ => (0 : Int32)) (own_K r334 r334 r334) (own_K r349 r349 r349) (30 : Int32) (2 : Int32) (0 : Int32) 0 9 f1.val T349.heap n0 Z364 f353 f355 f356 f357 f354 f359 f358 rc365 f361 rc366 oo315_0_0 oo315_0_1 (Ins.of_exa f363 w_65) (Ins.of_exa ex349 w_65) rfl rfl g_b309 g_r315_0_0 g_r315_0_1 g_r315_0_2 (Ne.symm ne328) (Ne.symm ne330) nn315_0_0 (Ne.symm ne332) nn315_0_1 nn315_0_2 (by decide) hN hS (by rw [← hf1]; exact rfl)) hZ w_62 w_3 (by decide) (by decide)) q367a q367c (g := (mkF m 132 #[.val (.int p0), .val (.int p1), .val (.int p2), .val (.int p3), .val (.int p4), .val (.int (2 : Int32)), .val (.int vn6), .val (.int vs7), .val (.ref b29), .val (.int vq9), .val (.int (4 : Int32)), .val (.int (((vn6 - (1 : Int32)) % (2 : Int32)) + (1 : Int32))), .val (.ref b309), .unset, .unset, .unset] [(.ref r349), (.ref r334), (.int p1), (.ref b309)])) rfl (by rw [hml]; rfl) (Steps.refl _) (argsL := [(.int p1), (.ref r334), (.ref r349)]) (rest := []) (lenOf pd_6 rfl) rfl (by show 2 * 0 + _ ≤ _; exact Nat.le_of_eq rfl) (hb hby at_132) (fun _ _ => ⟨rfl, rfl, (by decide : 5 + 0 ≤ _), (by decide : 21 + 0 ≤ _)⟩)
        dsimp only [Pt.U, Pt.locs, Pt.cells, Pt.slots] at X367 l367 y367 z367 st367 hQ367
        rw [l367, y367, z367] at X367
        obtain ⟨N367, KK367, rfl, pf367_0, pf367_1, pf367_2, pf367_3, pf367_4, pf367_5, pf367_6, pf367_7, pf367_8, pf367_9⟩ := hQ367
        have NA367 := Fr.app NA349 N367
        have XO368 : Old Z n0 T367.heap := XO350.keep KK367 (allS g_b309 (allS g_r315_0_0 (allS g_r315_0_1 (allS g_r315_0_2 all0))))
        have f369 := f351.keep KK367
        have f370 := f352.keep KK367 (ninS ne310 (ninS ne327 (ninS ne329 (ninS ne331 nin0))))
        have f371 := f353.keep KK367
        have f381 := f363.keep KK367
        have f382 := ex349.keep KK367
        have K383 : Keep h0 T367.heap [] := K364.trans KK367 (allS (Or.inr sz_b309) (allS (Or.inr sz_r315_0_0) (allS (Or.inr sz_r315_0_1) (allS (Or.inr sz_r315_0_2) all0))))
        have Z383 : n0 ≤ T367.heap.size := Nat.le_trans Z364 KK367.1
        refine G2 st367 ?_
        show Goes _ _ _ _ _ _ _ (T367.setTop (mkF m 135 _ [(.ref r349)]))
        refine G1 (fun _ => XS.pop X367.here hx rfl (hb hby at_135) rfl rfl) ?_
        show Goes _ _ _ _ _ _ _ (T367.setTop (mkF m 136 _ []))
        show Goes _ _ _ _ _ _ _ (T367.setTop (mkF m 136 #[.val (.int p0), .val (.int p1), .val (.int p2), .val (.int p3), .val (.int p4), .val (.int (2 : Int32)), .val (.int vn6), .val (.int vs7), .val (.ref b29), .val (.int vq9), .val (.int (4 : Int32)), .val (.int (((vn6 - (1 : Int32)) % (2 : Int32)) + (1 : Int32))), .val (.ref b309), .unset, .unset, .unset] []))
        rcases hnA with rfl | hnB
        · show Goes _ _ _ _ _ _ _ (T367.setTop (mkF m 136 #[.val (.int p0), .val (.int p1), .val (.int p2), .val (.int p3), .val (.int p4), .val (.int (2 : Int32)), .val (.int (1 : Int32)), .val (.int vs7), .val (.ref b29), .val (.int vq9), .val (.int (4 : Int32)), .val (.int (1 : Int32)), .val (.ref b309), .unset, .unset, .unset] []))
          refine G1 (fun _ => XS.iload X367.here hx rfl (hb hby at_136) rfl ) ?_
          refine G1 (fun _ => XS.iconst X367.here hx rfl (hb hby at_138)) ?_
          refine G1 (fun _ => XS.icmpYes X367.here hx rfl (pc0 := 139) (pc' := 161) rfl (hb hby at_139) rfl (tlt (by decide : (1 : Int32) < (2 : Int32))).1 (by decide) (by decide)) ?_
          show Goes _ _ _ _ _ _ _ (T367.setTop (mkF m 161 _ []))
          show Goes _ _ _ _ _ _ _ (T367.setTop (mkF m 161 #[.val (.int p0), .val (.int p1), .val (.int p2), .val (.int p3), .val (.int p4), .val (.int (2 : Int32)), .val (.int (1 : Int32)), .val (.int vs7), .val (.ref b29), .val (.int vq9), .val (.int (4 : Int32)), .val (.int (1 : Int32)), .val (.ref b309), .unset, .unset, .unset] []))
          refine G1 (fun _ => XS.iload X367.here hx rfl (hb hby at_161) rfl ) ?_
          refine G1 (fun _ => XS.iconst X367.here hx rfl (hb hby at_163)) ?_
          refine G1 (fun _ => XS.icmpYes X367.here hx rfl (pc0 := 164) (pc' := 186) rfl (hb hby at_164) rfl (tlt (by decide : (1 : Int32) < (3 : Int32))).1 (by decide) (by decide)) ?_
          show Goes _ _ _ _ _ _ _ (T367.setTop (mkF m 186 _ []))
          refine G1 (fun _ => XS.iconst X367.here hx rfl (hb hby at_186)) ?_
          refine G1 (fun _ => XS.istore X367.here hx rfl (hb hby at_187) rfl (l' := #[.val (.int p0), .val (.int p1), .val (.int p2), .val (.int p3), .val (.int p4), .val (.int (2 : Int32)), .val (.int (1 : Int32)), .val (.int vs7), .val (.ref b29), .val (.int vq9), .val (.int (4 : Int32)), .val (.int (1 : Int32)), .val (.ref b309), .val (.int (0 : Int32)), .unset, .unset]) rfl) ?_
          show Goes _ _ _ _ _ _ _ (T367.setTop (mkF m 189 _ []))
          show Goes _ _ _ _ _ _ _ (T367.setTop (mkF m 189 #[.val (.int p0), .val (.int p1), .val (.int p2), .val (.int p3), .val (.int p4), .val (.int (2 : Int32)), .val (.int (1 : Int32)), .val (.int vs7), .val (.ref b29), .val (.int vq9), .val (.int (4 : Int32)), .val (.int (1 : Int32)), .val (.ref b309), .val (.int (0 : Int32)), .unset, .unset] []))
          have lw := own_s4 f1 f4 0 (decide (p1 = vq9)) (decide (p2 = vq9)) (decide (p3 = vq9)) ee1
          rw [Bool.and_eq_true] at lw
          obtain ⟨pp, hsk0, hpb0⟩ := own_satE lw.1
          have hpb : own_b ((own_put own_t0 f1.val 0) pp) = own_i (decide (p1 = vq9)) := own_beq hpb0
          have hcn : own_b ((own_put own_t0 f1.val 0) ((0 : Int32)).toNatClampNeg) + own_b ((own_put own_t0 f1.val 0) ((1 : Int32)).toNatClampNeg) + own_b ((own_put own_t0 f1.val 0) ((2 : Int32)).toNatClampNeg) + own_b ((own_put own_t0 f1.val 0) ((3 : Int32)).toNatClampNeg) = (1 : Int32) := own_beq lw.2
          have hsk : seekP (own_put own_t0 f1.val 0) (fun j => decide (own_H p1 p2 p3 j = vq9)) 4 9 (own_f vq9 (30 : Int32)).toNatClampNeg = some pp := by rw [own_e3H, ← hf4]; exact hsk0
          have hH : ∀ p j, (own_put own_t0 f1.val 0) p = some j → (own_hp (fun _ => (0 : Int32)) f1.val p1) p = own_H p1 p2 p3 j := (own_hH own_hH0 (by rfl))
          have J252 : ∀ ex : Int32, own_i (decide (p1 = vq9)) = ex → Goes p e below s room_1.cells room_1.slots (fun v h L => Q0 Z p0 p1 p2 p3 p4 ca cc h0 n0 v h L) (T367.setTop (mkF m 252 #[.val (.int p0), .val (.int p1), .val (.int p2), .val (.int p3), .val (.int p4), .val (.int (2 : Int32)), .val (.int (1 : Int32)), .val (.int vs7), .val (.ref b29), .val (.int vq9), .val (.int (4 : Int32)), .val (.int (1 : Int32)), .val (.ref b309), .val (.int ex), .unset, .unset] [])) := by
            intro ex hex
            refine G1 (fun _ => XS.aload X367.here hx rfl (hb hby at_252) rfl rfl) ?_
            refine G1 (fun _ => XS.aload X367.here hx rfl (hb hby at_254) rfl rfl) ?_
            refine G1 (fun _ => XS.iload X367.here hx rfl (hb hby at_256) rfl ) ?_
            obtain ⟨cq384, kq384, q384a, q384b, q384c⟩ := isOf hZ rfl pf367_0
            obtain ⟨_, _, ⟨T384, L384, k384, n384⟩, -, X384, ⟨Lc384, hQ384, l384, y384, z384⟩, st384⟩ := X367.virtualBack hx (y := mN8) (z := mN8) hown (mvT hZ w_33) (mvT hZ w_34) (notFace_of_selects (args := #[]) (mvT hZ w_36)) (mvT hZ w_36) (mvT hZ w_35) (by decide) (backOf (W := 1) (rm5 l Z a0 hw [] b309 vq9 r315_0_0 r315_0_1 r315_0_2 kk315_0_0 kk315_0_1 kk315_0_2 4 (own_put own_t0 f1.val 0) (own_hp (fun _ => (0 : Int32)) f1.val p1) (own_K r334 r334 r334) (own_K r349 r349 r349) (30 : Int32) (2 : Int32) (1 : Int32) (own_H p1 p2 p3) 9 pp T367.heap n0 Z383 pf367_0 pf367_1 pf367_2 pf367_3 pf367_4 pf367_5 pf367_6 pf367_7 pf367_8 pf367_9 hN hH hS hsk) hZ w_37 w_3 (by decide) (by decide)) q384a q384c (g := (mkF m 258 #[.val (.int p0), .val (.int p1), .val (.int p2), .val (.int p3), .val (.int p4), .val (.int (2 : Int32)), .val (.int (1 : Int32)), .val (.int vs7), .val (.ref b29), .val (.int vq9), .val (.int (4 : Int32)), .val (.int (1 : Int32)), .val (.ref b309), .val (.int ex), .unset, .unset] [(.int vq9), (.ref b309), (.ref b309)])) rfl (by rw [hml]; rfl) (Steps.refl _) (argsL := [(.int vq9)]) (rest := [(.ref b309)]) (lenOf pd_2 rfl) rfl (by show 2 * 0 + _ ≤ _; exact Nat.le_of_eq rfl) (hb hby at_258) (fun _ _ => ⟨rfl, rfl, (by decide : 5 + 0 ≤ _), (by decide : 21 + 0 ≤ _)⟩)
            dsimp only [Pt.U, Pt.locs, Pt.cells, Pt.slots] at X384 l384 y384 z384 st384 hQ384
            rw [l384, y384, z384] at X384
            obtain ⟨N384, eh384, r384, rfl, r1_384, r2_384, r3_384⟩ := hQ384
            have NA384 := Fr.app NA367 N384
            refine G2 st384 ?_
            show Goes _ _ _ _ _ _ _ (T384.setTop (mkF m 261 _ [(.int r384), (.ref b309)]))
            obtain ⟨cq385, kq385, q385a, q385b, q385c⟩ := isOf hZ eh384 pf367_0
            obtain ⟨_, _, ⟨T385, L385, k385, n385⟩, -, X385, ⟨Lc385, hQ385, l385, y385, z385⟩, st385⟩ := X384.virtualBack hx (y := mN6) (z := mN6) hown (mvT hZ w_47) (mvT hZ w_48) (notFace_of_selects (args := #[]) (mvT hZ w_50)) (mvT hZ w_50) (mvT hZ w_49) (by decide) (backOf (W := 0) (rm8 l Z a0 hw [] b309 r384 r315_0_0 r315_0_1 r315_0_2 kk315_0_0 kk315_0_1 kk315_0_2 4 (own_put own_t0 f1.val 0) (own_hp (fun _ => (0 : Int32)) f1.val p1) (own_K r334 r334 r334) (own_K r349 r349 r349) (30 : Int32) (2 : Int32) (1 : Int32) T367.heap n0 Z383 pf367_0 pf367_1 pf367_2 pf367_3 pf367_4 pf367_5 pf367_6 pf367_7 pf367_8 pf367_9 r1_384 r3_384) hZ w_51 w_3 (by decide) (by decide)) q385a q385c (g := (mkF m 261 #[.val (.int p0), .val (.int p1), .val (.int p2), .val (.int p3), .val (.int p4), .val (.int (2 : Int32)), .val (.int (1 : Int32)), .val (.int vs7), .val (.ref b29), .val (.int vq9), .val (.int (4 : Int32)), .val (.int (1 : Int32)), .val (.ref b309), .val (.int ex), .unset, .unset] [(.int r384), (.ref b309)])) rfl (by rw [hml]; rfl) (Steps.refl _) (argsL := [(.int r384)]) (rest := []) (lenOf pd_4 rfl) rfl (by show 2 * 0 + _ ≤ _; exact Nat.le_of_eq rfl) (hb hby at_261) (fun _ _ => ⟨rfl, eh384, (by decide : 5 + 0 ≤ _), (by decide : 21 + 0 ≤ _)⟩)
            dsimp only [Pt.U, Pt.locs, Pt.cells, Pt.slots] at X385 l385 y385 z385 st385 hQ385
            rw [l385, y385, z385] at X385
            obtain ⟨N385, eh385, hv385⟩ := hQ385
            have NA385 := Fr.app NA384 N385
            subst hv385
            refine G2 st385 ?_
            show Goes _ _ _ _ _ _ _ (T385.setTop (mkF m 264 _ [(.int (own_b ((own_put own_t0 f1.val 0) (r384).toNatClampNeg)))]))
            refine G1 (fun _ => XS.istore X385.here hx rfl (hb hby at_264) rfl (l' := #[.val (.int p0), .val (.int p1), .val (.int p2), .val (.int p3), .val (.int p4), .val (.int (2 : Int32)), .val (.int (1 : Int32)), .val (.int vs7), .val (.ref b29), .val (.int vq9), .val (.int (4 : Int32)), .val (.int (1 : Int32)), .val (.ref b309), .val (.int ex), .val (.int (own_b ((own_put own_t0 f1.val 0) (r384).toNatClampNeg))), .unset]) rfl) ?_
            show Goes _ _ _ _ _ _ _ (T385.setTop (mkF m 266 _ []))
            show Goes _ _ _ _ _ _ _ (T385.setTop (mkF m 266 #[.val (.int p0), .val (.int p1), .val (.int p2), .val (.int p3), .val (.int p4), .val (.int (2 : Int32)), .val (.int (1 : Int32)), .val (.int vs7), .val (.ref b29), .val (.int vq9), .val (.int (4 : Int32)), .val (.int (1 : Int32)), .val (.ref b309), .val (.int ex), .val (.int (own_b ((own_put own_t0 f1.val 0) (r384).toNatClampNeg))), .unset] []))
            have hfx : (own_b ((own_put own_t0 f1.val 0) (r384).toNatClampNeg)) = ex := by rw [r2_384]; exact hpb.trans hex
            rw [hfx]
            exact J266_4 _ _ _ _ _ ex _ _ r315_0_0 r315_0_1 r315_0_2 kk315_0_0 kk315_0_1 kk315_0_2 (own_put own_t0 f1.val 0) (own_hp (fun _ => (0 : Int32)) f1.val p1) (own_K r334 r334 r334) (own_K r349 r349 r349) (1 : Int32) T367.heap _ _ X385 eh385 NA385 Z383 pf367_0 pf367_1 pf367_2 pf367_3 pf367_4 pf367_5 pf367_6 pf367_7 pf367_8 pf367_9 hcn
          show Goes _ _ _ _ _ _ _ (T367.setTop (mkF m 189 #[.val (.int p0), .val (.int p1), .val (.int p2), .val (.int p3), .val (.int p4), .val (.int (2 : Int32)), .val (.int (1 : Int32)), .val (.int vs7), .val (.ref b29), .val (.int vq9), .val (.int (4 : Int32)), .val (.int (1 : Int32)), .val (.ref b309), .val (.int (0 : Int32)), .unset, .unset] []))
          refine G1 (fun _ => XS.iload X367.here hx rfl (hb hby at_189) rfl ) ?_
          refine G1 (fun _ => XS.iconst X367.here hx rfl (hb hby at_191)) ?_
          refine G1 (fun _ => XS.icmpNo X367.here hx rfl (hb hby at_192) rfl (flt (by decide : ¬ ((1 : Int32) < (1 : Int32)))).1) ?_
          show Goes _ _ _ _ _ _ _ (T367.setTop (mkF m 195 _ []))
          refine G1 (fun _ => XS.aload X367.here hx rfl (hb hby at_195) rfl rfl) ?_
          refine G1 (fun _ => XS.iload X367.here hx rfl (hb hby at_197) rfl ) ?_
          refine G1 (fun _ => XS.iconst X367.here hx rfl (hb hby at_199)) ?_
          refine G1 (fun _ => XS.isub X367.here hx rfl (hb hby at_200) rfl) ?_
          show Goes _ _ _ _ _ _ _ (T367.setTop (mkF m 201 _ [(.int (0 : Int32)), (.ref b29)]))
          obtain ⟨cl386, Ar386, q386, S386, P386, H386, G386⟩ := id f370
          have hin386 : ¬ ((0 : Int32) < 0 ∨ cl386.slots.size ≤ ((0 : Int32)).toNatClampNeg) := inb_of S386 ⟨by decide, by decide⟩
          have hat386 : cl386.slots[((0 : Int32)).toNatClampNeg]? = some (.int p1) := H386 _ (by rw [S386]; decide)
          refine G1 (fun _ => X367.iaload hx (j := (0 : Int32)) (v := (.int p1)) (by exact Ar386.1) (State.isArrayOf_alike hZ.alike Ar386.2.1) Ar386.2.2 hin386 hat386 (g := (mkF m 201 #[.val (.int p0), .val (.int p1), .val (.int p2), .val (.int p3), .val (.int p4), .val (.int (2 : Int32)), .val (.int (1 : Int32)), .val (.int vs7), .val (.ref b29), .val (.int vq9), .val (.int (4 : Int32)), .val (.int (1 : Int32)), .val (.ref b309), .val (.int (0 : Int32)), .unset, .unset] [(.int (0 : Int32)), (.ref b29)])) rfl rfl (hb hby at_201) _) ?_
          show Goes _ _ _ _ _ _ _ (T367.setTop (mkF m 202 _ [(.int p1)]))
          refine G1 (fun _ => XS.iload X367.here hx rfl (hb hby at_202) rfl ) ?_
          by_cases c204_387 : p1 = vq9
          · refine G1 (fun _ => XS.icmpNo X367.here hx rfl (hb hby at_204) rfl (teq c204_387).2) ?_
            show Goes _ _ _ _ _ _ _ (T367.setTop (mkF m 207 _ []))
            refine G1 (fun _ => XS.iconst X367.here hx rfl (hb hby at_207)) ?_
            refine G1 (fun _ => XS.istore X367.here hx rfl (hb hby at_208) rfl (l' := #[.val (.int p0), .val (.int p1), .val (.int p2), .val (.int p3), .val (.int p4), .val (.int (2 : Int32)), .val (.int (1 : Int32)), .val (.int vs7), .val (.ref b29), .val (.int vq9), .val (.int (4 : Int32)), .val (.int (1 : Int32)), .val (.ref b309), .val (.int (1 : Int32)), .unset, .unset]) rfl) ?_
            show Goes _ _ _ _ _ _ _ (T367.setTop (mkF m 210 _ []))
            refine G1 (fun _ => XS.iload X367.here hx rfl (hb hby at_210) rfl ) ?_
            refine G1 (fun _ => XS.iconst X367.here hx rfl (hb hby at_212)) ?_
            refine G1 (fun _ => XS.icmpYes X367.here hx rfl (pc0 := 213) (pc' := 231) rfl (hb hby at_213) rfl (tlt (by decide : (1 : Int32) < (2 : Int32))).1 (by decide) (by decide)) ?_
            show Goes _ _ _ _ _ _ _ (T367.setTop (mkF m 231 _ []))
            refine G1 (fun _ => XS.iload X367.here hx rfl (hb hby at_231) rfl ) ?_
            refine G1 (fun _ => XS.iconst X367.here hx rfl (hb hby at_233)) ?_
            refine G1 (fun _ => XS.icmpYes X367.here hx rfl (pc0 := 234) (pc' := 252) rfl (hb hby at_234) rfl (tlt (by decide : (1 : Int32) < (3 : Int32))).1 (by decide) (by decide)) ?_
            show Goes _ _ _ _ _ _ _ (T367.setTop (mkF m 252 _ []))
            show Goes _ _ _ _ _ _ _ (T367.setTop (mkF m 252 #[.val (.int p0), .val (.int p1), .val (.int p2), .val (.int p3), .val (.int p4), .val (.int (2 : Int32)), .val (.int (1 : Int32)), .val (.int vs7), .val (.ref b29), .val (.int vq9), .val (.int (4 : Int32)), .val (.int (1 : Int32)), .val (.ref b309), .val (.int (1 : Int32)), .unset, .unset] []))
            exact J252 _ (by simp only [decide_eq_true c204_387]; rfl)
          · refine G1 (fun _ => XS.icmpYes X367.here hx rfl (pc0 := 204) (pc' := 210) rfl (hb hby at_204) rfl (feq c204_387).2 (by decide) (by decide)) ?_
            show Goes _ _ _ _ _ _ _ (T367.setTop (mkF m 210 _ []))
            refine G1 (fun _ => XS.iload X367.here hx rfl (hb hby at_210) rfl ) ?_
            refine G1 (fun _ => XS.iconst X367.here hx rfl (hb hby at_212)) ?_
            refine G1 (fun _ => XS.icmpYes X367.here hx rfl (pc0 := 213) (pc' := 231) rfl (hb hby at_213) rfl (tlt (by decide : (1 : Int32) < (2 : Int32))).1 (by decide) (by decide)) ?_
            show Goes _ _ _ _ _ _ _ (T367.setTop (mkF m 231 _ []))
            refine G1 (fun _ => XS.iload X367.here hx rfl (hb hby at_231) rfl ) ?_
            refine G1 (fun _ => XS.iconst X367.here hx rfl (hb hby at_233)) ?_
            refine G1 (fun _ => XS.icmpYes X367.here hx rfl (pc0 := 234) (pc' := 252) rfl (hb hby at_234) rfl (tlt (by decide : (1 : Int32) < (3 : Int32))).1 (by decide) (by decide)) ?_
            show Goes _ _ _ _ _ _ _ (T367.setTop (mkF m 252 _ []))
            show Goes _ _ _ _ _ _ _ (T367.setTop (mkF m 252 #[.val (.int p0), .val (.int p1), .val (.int p2), .val (.int p3), .val (.int p4), .val (.int (2 : Int32)), .val (.int (1 : Int32)), .val (.int vs7), .val (.ref b29), .val (.int vq9), .val (.int (4 : Int32)), .val (.int (1 : Int32)), .val (.ref b309), .val (.int (0 : Int32)), .unset, .unset] []))
            exact J252 _ (by simp only [decide_eq_false c204_387]; rfl)
        · obtain ⟨q2, pr2, -⟩ := own_satE (own_d4 f1 f2 f1 false false nofun nofun)
          show Goes _ _ _ _ _ _ _ (T367.setTop (mkF m 136 #[.val (.int p0), .val (.int p1), .val (.int p2), .val (.int p3), .val (.int p4), .val (.int (2 : Int32)), .val (.int vn6), .val (.int vs7), .val (.ref b29), .val (.int vq9), .val (.int (4 : Int32)), .val (.int (((vn6 - (1 : Int32)) % (2 : Int32)) + (1 : Int32))), .val (.ref b309), .unset, .unset, .unset] []))
          refine G1 (fun _ => XS.iload X367.here hx rfl (hb hby at_136) rfl ) ?_
          refine G1 (fun _ => XS.iconst X367.here hx rfl (hb hby at_138)) ?_
          refine G1 (fun _ => XS.icmpNo X367.here hx rfl (hb hby at_139) rfl (flt (own_nB hnB)).1) ?_
          show Goes _ _ _ _ _ _ _ (T367.setTop (mkF m 142 _ []))
          refine G1 (fun _ => XS.aload X367.here hx rfl (hb hby at_142) rfl rfl) ?_
          refine G1 (fun _ => XS.aload X367.here hx rfl (hb hby at_144) rfl rfl) ?_
          refine G1 (fun _ => XS.iconst X367.here hx rfl (hb hby at_146)) ?_
          obtain ⟨cl388, Ar388, q388, S388, P388, H388, G388⟩ := id f370
          have hin388 : ¬ ((1 : Int32) < 0 ∨ cl388.slots.size ≤ ((1 : Int32)).toNatClampNeg) := inb_of S388 ⟨by decide, by decide⟩
          have hat388 : cl388.slots[((1 : Int32)).toNatClampNeg]? = some (.int p2) := H388 _ (by rw [S388]; decide)
          refine G1 (fun _ => X367.iaload hx (j := (1 : Int32)) (v := (.int p2)) (by exact Ar388.1) (State.isArrayOf_alike hZ.alike Ar388.2.1) Ar388.2.2 hin388 hat388 (g := (mkF m 147 #[.val (.int p0), .val (.int p1), .val (.int p2), .val (.int p3), .val (.int p4), .val (.int (2 : Int32)), .val (.int vn6), .val (.int vs7), .val (.ref b29), .val (.int vq9), .val (.int (4 : Int32)), .val (.int (((vn6 - (1 : Int32)) % (2 : Int32)) + (1 : Int32))), .val (.ref b309), .unset, .unset, .unset] [(.int (1 : Int32)), (.ref b29), (.ref b309)])) rfl rfl (hb hby at_147) _) ?_
          show Goes _ _ _ _ _ _ _ (T367.setTop (mkF m 148 _ [(.int p2), (.ref b309)]))
          refine G1 (fun _ => XS.iconst X367.here hx rfl (hb hby at_148)) ?_
          obtain ⟨_, _, ⟨T389, L389, k389, n389⟩, -, X389, ⟨Lc389, hQ389, l389, y389, z389⟩, st389⟩ := Jvm.LawKit.callS X367 hx (y := mN9) hown (mvT hZ w_52) (mvT hZ w_53) (mvT hZ w_15) (mvT hZ w_54) (by decide) (backOf (W := 2) (rm9 l Z a0 hw [] (1 : Int32) ca cc T367.heap n0 Z383 (S_high.ext XO368.2) (S_cache.ext XO368.2) BX XO368 (by decide) (by decide)) hZ w_54 w_15 (by decide) (by decide)) (g := (mkF m 149 #[.val (.int p0), .val (.int p1), .val (.int p2), .val (.int p3), .val (.int p4), .val (.int (2 : Int32)), .val (.int vn6), .val (.int vs7), .val (.ref b29), .val (.int vq9), .val (.int (4 : Int32)), .val (.int (((vn6 - (1 : Int32)) % (2 : Int32)) + (1 : Int32))), .val (.ref b309), .unset, .unset, .unset] [(.int (1 : Int32)), (.int p2), (.ref b309)])) rfl (by rw [hml]; rfl) (argsL := [(.int (1 : Int32))]) (rest := [(.int p2), (.ref b309)]) (lenOf pd_5 rfl) rfl (by show 2 * 0 + _ ≤ _; exact Nat.le_of_eq rfl) (hb hby at_149) (fun _ _ => ⟨rfl, rfl, (by decide : 5 + 0 ≤ _), (by decide : 21 + 0 ≤ _)⟩)
          dsimp only [Pt.U, Pt.locs, Pt.cells, Pt.slots] at X389 l389 y389 z389 st389 hQ389
          rw [l389, y389, z389] at X389
          obtain ⟨N389, KK389, r389, rfl, ex389⟩ := hQ389
          have NA389 := Fr.app NA367 N389
          have XO390 : Old Z n0 T389.heap := XO368.keep KK389 all0
          have f391 := f369.keep KK389
          have f392 := f370.keep KK389 nin0
          have f393 := pf367_0.keep KK389
          have f394 := f381.keep KK389
          have f395 := f382.keep KK389
          have f396 := pf367_1.keep KK389 nin0
          have f397 := pf367_2.keep KK389 nin0
          have f398 := pf367_3.keep KK389 nin0
          have f399 := pf367_4.keep KK389 nin0
          have f400 := pf367_5.keep KK389 nin0
          have f401 := pf367_6.keep KK389 nin0
          have f402 := pf367_7.keep KK389 nin0
          have f403 := pf367_8.keep KK389 nin0
          have f404 := pf367_9.keep KK389 nin0
          have K405 : Keep h0 T389.heap [] := K383.trans KK389 all0
          have Z405 : n0 ≤ T389.heap.size := Nat.le_trans Z383 KK389.1
          refine G1 st389 ?_
          show Goes _ _ _ _ _ _ _ (T389.setTop (mkF m 152 _ [(.ref r389), (.int p2), (.ref b309)]))
          refine G1 (fun _ => XS.bipush X389.here hx rfl (hb hby at_152)) ?_
          obtain ⟨_, _, ⟨T406, L406, k406, n406⟩, -, X406, ⟨Lc406, hQ406, l406, y406, z406⟩, st406⟩ := Jvm.LawKit.callS X389 hx (y := mN9) hown (mvT hZ w_52) (mvT hZ w_53) (mvT hZ w_15) (mvT hZ w_54) (by decide) (backOf (W := 3) (rm9 l Z a0 hw [] (11 : Int32) ca cc T389.heap n0 Z405 (S_high.ext XO390.2) (S_cache.ext XO390.2) BX XO390 (by decide) (by decide)) hZ w_54 w_15 (by decide) (by decide)) (g := (mkF m 154 #[.val (.int p0), .val (.int p1), .val (.int p2), .val (.int p3), .val (.int p4), .val (.int (2 : Int32)), .val (.int vn6), .val (.int vs7), .val (.ref b29), .val (.int vq9), .val (.int (4 : Int32)), .val (.int (((vn6 - (1 : Int32)) % (2 : Int32)) + (1 : Int32))), .val (.ref b309), .unset, .unset, .unset] [(.int (11 : Int32)), (.ref r389), (.int p2), (.ref b309)])) rfl (by rw [hml]; rfl) (argsL := [(.int (11 : Int32))]) (rest := [(.ref r389), (.int p2), (.ref b309)]) (lenOf pd_5 rfl) rfl (by show 2 * 0 + _ ≤ _; exact Nat.le_of_eq rfl) (hb hby at_154) (fun _ _ => ⟨rfl, rfl, (by decide : 5 + 0 ≤ _), (by decide : 21 + 0 ≤ _)⟩)
          dsimp only [Pt.U, Pt.locs, Pt.cells, Pt.slots] at X406 l406 y406 z406 st406 hQ406
          rw [l406, y406, z406] at X406
          obtain ⟨N406, KK406, r406, rfl, ex406⟩ := hQ406
          have NA406 := Fr.app NA389 N406
          have XO407 : Old Z n0 T406.heap := XO390.keep KK406 all0
          have f408 := f391.keep KK406
          have f409 := f392.keep KK406 nin0
          have f410 := f393.keep KK406
          have f411 := f394.keep KK406
          have f412 := f395.keep KK406
          have f413 := f396.keep KK406 nin0
          have f414 := f397.keep KK406 nin0
          have f415 := f398.keep KK406 nin0
          have f416 := f399.keep KK406 nin0
          have f417 := f400.keep KK406 nin0
          have f418 := f401.keep KK406 nin0
          have f419 := f402.keep KK406 nin0
          have f420 := f403.keep KK406 nin0
          have f421 := f404.keep KK406 nin0
          have f422 := ex389.keep KK406
          have K423 : Keep h0 T406.heap [] := K405.trans KK406 all0
          have Z423 : n0 ≤ T406.heap.size := Nat.le_trans Z405 KK406.1
          refine G1 st406 ?_
          show Goes _ _ _ _ _ _ _ (T406.setTop (mkF m 157 _ [(.ref r406), (.ref r389), (.int p2), (.ref b309)]))
          have rc424 : ArF Z T406.heap r315_0_0 kk315_0_0 (.object "java/lang/Object") 4 (fun j => rfv (own_K r334 r389 r389) ((own_put own_t0 f1.val 0) j)) := f419.congr (own_recast (own_cP own_c0 (by rfl)))
          have rc425 : ArF Z T406.heap r315_0_2 kk315_0_2 (.object "java/lang/Object") 4 (fun j => rfv (own_K r349 r406 r406) ((own_put own_t0 f1.val 0) j)) := f421.congr (own_recast (own_cP own_c0 (by rfl)))
          obtain ⟨cq426, kq426, q426a, q426b, q426c⟩ := isOf hZ rfl f410
          obtain ⟨_, _, ⟨T426, L426, k426, n426⟩, -, X426, ⟨Lc426, hQ426, l426, y426, z426⟩, st426⟩ := X406.virtualBack hx (y := mN10) (z := mN10) hown (mvT hZ w_58) (mvT hZ w_59) (notFace_of_selects (args := #[]) (mvT hZ w_61)) (mvT hZ w_61) (mvT hZ w_60) (by decide) (backOf (W := 0) (rm10_n l Z a0 hw [] b309 p2 r389 r406 r315_0_0 r315_0_1 r315_0_2 kk315_0_0 kk315_0_1 kk315_0_2 4 (own_put own_t0 f1.val 0) (own_hp (fun _ => (0 : Int32)) f1.val p1) (own_K r334 r389 r389) (own_K r349 r406 r406) (30 : Int32) (2 : Int32) (1 : Int32) 1 9 q2 T406.heap n0 Z423 f410 f413 f414 f415 f416 f417 f418 rc424 f420 rc425 oo315_0_0 oo315_0_1 (Ins.of_exa f422 w_65) (Ins.of_exa ex406 w_65) rfl rfl g_b309 g_r315_0_0 g_r315_0_1 g_r315_0_2 (Ne.symm ne328) (Ne.symm ne330) nn315_0_0 (Ne.symm ne332) nn315_0_1 nn315_0_2 (by decide) hN hS (by rw [← hf2]; exact pr2)) hZ w_62 w_3 (by decide) (by decide)) q426a q426c (g := (mkF m 157 #[.val (.int p0), .val (.int p1), .val (.int p2), .val (.int p3), .val (.int p4), .val (.int (2 : Int32)), .val (.int vn6), .val (.int vs7), .val (.ref b29), .val (.int vq9), .val (.int (4 : Int32)), .val (.int (((vn6 - (1 : Int32)) % (2 : Int32)) + (1 : Int32))), .val (.ref b309), .unset, .unset, .unset] [(.ref r406), (.ref r389), (.int p2), (.ref b309)])) rfl (by rw [hml]; rfl) (Steps.refl _) (argsL := [(.int p2), (.ref r389), (.ref r406)]) (rest := []) (lenOf pd_6 rfl) rfl (by show 2 * 0 + _ ≤ _; exact Nat.le_of_eq rfl) (hb hby at_157) (fun _ _ => ⟨rfl, rfl, (by decide : 5 + 0 ≤ _), (by decide : 21 + 0 ≤ _)⟩)
          dsimp only [Pt.U, Pt.locs, Pt.cells, Pt.slots] at X426 l426 y426 z426 st426 hQ426
          rw [l426, y426, z426] at X426
          obtain ⟨N426, KK426, rfl, pf426_0, pf426_1, pf426_2, pf426_3, pf426_4, pf426_5, pf426_6, pf426_7, pf426_8, pf426_9⟩ := hQ426
          have NA426 := Fr.app NA406 N426
          have XO427 : Old Z n0 T426.heap := XO407.keep KK426 (allS g_b309 (allS g_r315_0_0 (allS g_r315_0_1 (allS g_r315_0_2 all0))))
          have f428 := f408.keep KK426
          have f429 := f409.keep KK426 (ninS ne310 (ninS ne327 (ninS ne329 (ninS ne331 nin0))))
          have f430 := f410.keep KK426
          have f431 := f411.keep KK426
          have f432 := f412.keep KK426
          have f442 := f422.keep KK426
          have f443 := ex406.keep KK426
          have K444 : Keep h0 T426.heap [] := K423.trans KK426 (allS (Or.inr sz_b309) (allS (Or.inr sz_r315_0_0) (allS (Or.inr sz_r315_0_1) (allS (Or.inr sz_r315_0_2) all0))))
          have Z444 : n0 ≤ T426.heap.size := Nat.le_trans Z423 KK426.1
          refine G2 st426 ?_
          show Goes _ _ _ _ _ _ _ (T426.setTop (mkF m 160 _ [(.ref r406)]))
          refine G1 (fun _ => XS.pop X426.here hx rfl (hb hby at_160) rfl rfl) ?_
          show Goes _ _ _ _ _ _ _ (T426.setTop (mkF m 161 _ []))
          show Goes _ _ _ _ _ _ _ (T426.setTop (mkF m 161 #[.val (.int p0), .val (.int p1), .val (.int p2), .val (.int p3), .val (.int p4), .val (.int (2 : Int32)), .val (.int vn6), .val (.int vs7), .val (.ref b29), .val (.int vq9), .val (.int (4 : Int32)), .val (.int (((vn6 - (1 : Int32)) % (2 : Int32)) + (1 : Int32))), .val (.ref b309), .unset, .unset, .unset] []))
          rcases hnB with rfl | rfl
          · show Goes _ _ _ _ _ _ _ (T426.setTop (mkF m 161 #[.val (.int p0), .val (.int p1), .val (.int p2), .val (.int p3), .val (.int p4), .val (.int (2 : Int32)), .val (.int (2 : Int32)), .val (.int vs7), .val (.ref b29), .val (.int vq9), .val (.int (4 : Int32)), .val (.int (2 : Int32)), .val (.ref b309), .unset, .unset, .unset] []))
            refine G1 (fun _ => XS.iload X426.here hx rfl (hb hby at_161) rfl ) ?_
            refine G1 (fun _ => XS.iconst X426.here hx rfl (hb hby at_163)) ?_
            refine G1 (fun _ => XS.icmpYes X426.here hx rfl (pc0 := 164) (pc' := 186) rfl (hb hby at_164) rfl (tlt (by decide : (2 : Int32) < (3 : Int32))).1 (by decide) (by decide)) ?_
            show Goes _ _ _ _ _ _ _ (T426.setTop (mkF m 186 _ []))
            refine G1 (fun _ => XS.iconst X426.here hx rfl (hb hby at_186)) ?_
            refine G1 (fun _ => XS.istore X426.here hx rfl (hb hby at_187) rfl (l' := #[.val (.int p0), .val (.int p1), .val (.int p2), .val (.int p3), .val (.int p4), .val (.int (2 : Int32)), .val (.int (2 : Int32)), .val (.int vs7), .val (.ref b29), .val (.int vq9), .val (.int (4 : Int32)), .val (.int (2 : Int32)), .val (.ref b309), .val (.int (0 : Int32)), .unset, .unset]) rfl) ?_
            show Goes _ _ _ _ _ _ _ (T426.setTop (mkF m 189 _ []))
            show Goes _ _ _ _ _ _ _ (T426.setTop (mkF m 189 #[.val (.int p0), .val (.int p1), .val (.int p2), .val (.int p3), .val (.int p4), .val (.int (2 : Int32)), .val (.int (2 : Int32)), .val (.int vs7), .val (.ref b29), .val (.int vq9), .val (.int (4 : Int32)), .val (.int (2 : Int32)), .val (.ref b309), .val (.int (0 : Int32)), .unset, .unset] []))
            obtain ⟨qy, py, lw⟩ := own_satE (own_d4 f1 f2 f4 (decide (p1 = vq9)) (decide (p2 = vq9)) ee1 ee2)
            cases pr2.symm.trans py
            rw [Bool.and_eq_true] at lw
            obtain ⟨pp, hsk0, hpb0⟩ := own_satE lw.1
            have hpb : own_b ((own_put (own_put own_t0 f1.val 0) q2 1) pp) = own_i ((decide (p1 = vq9)) || (decide (p2 = vq9))) := own_beq hpb0
            have hcn : own_b ((own_put (own_put own_t0 f1.val 0) q2 1) ((0 : Int32)).toNatClampNeg) + own_b ((own_put (own_put own_t0 f1.val 0) q2 1) ((1 : Int32)).toNatClampNeg) + own_b ((own_put (own_put own_t0 f1.val 0) q2 1) ((2 : Int32)).toNatClampNeg) + own_b ((own_put (own_put own_t0 f1.val 0) q2 1) ((3 : Int32)).toNatClampNeg) = (2 : Int32) := own_beq lw.2
            have hsk : seekP (own_put (own_put own_t0 f1.val 0) q2 1) (fun j => decide (own_H p1 p2 p3 j = vq9)) 4 9 (own_f vq9 (30 : Int32)).toNatClampNeg = some pp := by rw [own_e3H, own_seekCongr (e' := own_e3 (decide (p1 = vq9)) (decide (p2 = vq9)) false) (own_cE (own_cE own_cE0 (by rfl)) (by rfl)), ← hf4]; exact hsk0
            have hH : ∀ p j, (own_put (own_put own_t0 f1.val 0) q2 1) p = some j → (own_hp (own_hp (fun _ => (0 : Int32)) f1.val p1) q2 p2) p = own_H p1 p2 p3 j := (own_hH (own_hH own_hH0 (by rfl)) (by rfl))
            have J252 : ∀ ex : Int32, own_i ((decide (p1 = vq9)) || (decide (p2 = vq9))) = ex → Goes p e below s room_1.cells room_1.slots (fun v h L => Q0 Z p0 p1 p2 p3 p4 ca cc h0 n0 v h L) (T426.setTop (mkF m 252 #[.val (.int p0), .val (.int p1), .val (.int p2), .val (.int p3), .val (.int p4), .val (.int (2 : Int32)), .val (.int (2 : Int32)), .val (.int vs7), .val (.ref b29), .val (.int vq9), .val (.int (4 : Int32)), .val (.int (2 : Int32)), .val (.ref b309), .val (.int ex), .unset, .unset] [])) := by
              intro ex hex
              refine G1 (fun _ => XS.aload X426.here hx rfl (hb hby at_252) rfl rfl) ?_
              refine G1 (fun _ => XS.aload X426.here hx rfl (hb hby at_254) rfl rfl) ?_
              refine G1 (fun _ => XS.iload X426.here hx rfl (hb hby at_256) rfl ) ?_
              obtain ⟨cq445, kq445, q445a, q445b, q445c⟩ := isOf hZ rfl pf426_0
              obtain ⟨_, _, ⟨T445, L445, k445, n445⟩, -, X445, ⟨Lc445, hQ445, l445, y445, z445⟩, st445⟩ := X426.virtualBack hx (y := mN8) (z := mN8) hown (mvT hZ w_33) (mvT hZ w_34) (notFace_of_selects (args := #[]) (mvT hZ w_36)) (mvT hZ w_36) (mvT hZ w_35) (by decide) (backOf (W := 1) (rm5 l Z a0 hw [] b309 vq9 r315_0_0 r315_0_1 r315_0_2 kk315_0_0 kk315_0_1 kk315_0_2 4 (own_put (own_put own_t0 f1.val 0) q2 1) (own_hp (own_hp (fun _ => (0 : Int32)) f1.val p1) q2 p2) (own_K r334 r389 r389) (own_K r349 r406 r406) (30 : Int32) (2 : Int32) (2 : Int32) (own_H p1 p2 p3) 9 pp T426.heap n0 Z444 pf426_0 pf426_1 pf426_2 pf426_3 pf426_4 pf426_5 pf426_6 pf426_7 pf426_8 pf426_9 hN hH hS hsk) hZ w_37 w_3 (by decide) (by decide)) q445a q445c (g := (mkF m 258 #[.val (.int p0), .val (.int p1), .val (.int p2), .val (.int p3), .val (.int p4), .val (.int (2 : Int32)), .val (.int (2 : Int32)), .val (.int vs7), .val (.ref b29), .val (.int vq9), .val (.int (4 : Int32)), .val (.int (2 : Int32)), .val (.ref b309), .val (.int ex), .unset, .unset] [(.int vq9), (.ref b309), (.ref b309)])) rfl (by rw [hml]; rfl) (Steps.refl _) (argsL := [(.int vq9)]) (rest := [(.ref b309)]) (lenOf pd_2 rfl) rfl (by show 2 * 0 + _ ≤ _; exact Nat.le_of_eq rfl) (hb hby at_258) (fun _ _ => ⟨rfl, rfl, (by decide : 5 + 0 ≤ _), (by decide : 21 + 0 ≤ _)⟩)
              dsimp only [Pt.U, Pt.locs, Pt.cells, Pt.slots] at X445 l445 y445 z445 st445 hQ445
              rw [l445, y445, z445] at X445
              obtain ⟨N445, eh445, r445, rfl, r1_445, r2_445, r3_445⟩ := hQ445
              have NA445 := Fr.app NA426 N445
              refine G2 st445 ?_
              show Goes _ _ _ _ _ _ _ (T445.setTop (mkF m 261 _ [(.int r445), (.ref b309)]))
              obtain ⟨cq446, kq446, q446a, q446b, q446c⟩ := isOf hZ eh445 pf426_0
              obtain ⟨_, _, ⟨T446, L446, k446, n446⟩, -, X446, ⟨Lc446, hQ446, l446, y446, z446⟩, st446⟩ := X445.virtualBack hx (y := mN6) (z := mN6) hown (mvT hZ w_47) (mvT hZ w_48) (notFace_of_selects (args := #[]) (mvT hZ w_50)) (mvT hZ w_50) (mvT hZ w_49) (by decide) (backOf (W := 0) (rm8 l Z a0 hw [] b309 r445 r315_0_0 r315_0_1 r315_0_2 kk315_0_0 kk315_0_1 kk315_0_2 4 (own_put (own_put own_t0 f1.val 0) q2 1) (own_hp (own_hp (fun _ => (0 : Int32)) f1.val p1) q2 p2) (own_K r334 r389 r389) (own_K r349 r406 r406) (30 : Int32) (2 : Int32) (2 : Int32) T426.heap n0 Z444 pf426_0 pf426_1 pf426_2 pf426_3 pf426_4 pf426_5 pf426_6 pf426_7 pf426_8 pf426_9 r1_445 r3_445) hZ w_51 w_3 (by decide) (by decide)) q446a q446c (g := (mkF m 261 #[.val (.int p0), .val (.int p1), .val (.int p2), .val (.int p3), .val (.int p4), .val (.int (2 : Int32)), .val (.int (2 : Int32)), .val (.int vs7), .val (.ref b29), .val (.int vq9), .val (.int (4 : Int32)), .val (.int (2 : Int32)), .val (.ref b309), .val (.int ex), .unset, .unset] [(.int r445), (.ref b309)])) rfl (by rw [hml]; rfl) (Steps.refl _) (argsL := [(.int r445)]) (rest := []) (lenOf pd_4 rfl) rfl (by show 2 * 0 + _ ≤ _; exact Nat.le_of_eq rfl) (hb hby at_261) (fun _ _ => ⟨rfl, eh445, (by decide : 5 + 0 ≤ _), (by decide : 21 + 0 ≤ _)⟩)
              dsimp only [Pt.U, Pt.locs, Pt.cells, Pt.slots] at X446 l446 y446 z446 st446 hQ446
              rw [l446, y446, z446] at X446
              obtain ⟨N446, eh446, hv446⟩ := hQ446
              have NA446 := Fr.app NA445 N446
              subst hv446
              refine G2 st446 ?_
              show Goes _ _ _ _ _ _ _ (T446.setTop (mkF m 264 _ [(.int (own_b ((own_put (own_put own_t0 f1.val 0) q2 1) (r445).toNatClampNeg)))]))
              refine G1 (fun _ => XS.istore X446.here hx rfl (hb hby at_264) rfl (l' := #[.val (.int p0), .val (.int p1), .val (.int p2), .val (.int p3), .val (.int p4), .val (.int (2 : Int32)), .val (.int (2 : Int32)), .val (.int vs7), .val (.ref b29), .val (.int vq9), .val (.int (4 : Int32)), .val (.int (2 : Int32)), .val (.ref b309), .val (.int ex), .val (.int (own_b ((own_put (own_put own_t0 f1.val 0) q2 1) (r445).toNatClampNeg))), .unset]) rfl) ?_
              show Goes _ _ _ _ _ _ _ (T446.setTop (mkF m 266 _ []))
              show Goes _ _ _ _ _ _ _ (T446.setTop (mkF m 266 #[.val (.int p0), .val (.int p1), .val (.int p2), .val (.int p3), .val (.int p4), .val (.int (2 : Int32)), .val (.int (2 : Int32)), .val (.int vs7), .val (.ref b29), .val (.int vq9), .val (.int (4 : Int32)), .val (.int (2 : Int32)), .val (.ref b309), .val (.int ex), .val (.int (own_b ((own_put (own_put own_t0 f1.val 0) q2 1) (r445).toNatClampNeg))), .unset] []))
              have hfx : (own_b ((own_put (own_put own_t0 f1.val 0) q2 1) (r445).toNatClampNeg)) = ex := by rw [r2_445]; exact hpb.trans hex
              rw [hfx]
              exact J266_4 _ _ _ _ _ ex _ _ r315_0_0 r315_0_1 r315_0_2 kk315_0_0 kk315_0_1 kk315_0_2 (own_put (own_put own_t0 f1.val 0) q2 1) (own_hp (own_hp (fun _ => (0 : Int32)) f1.val p1) q2 p2) (own_K r334 r389 r389) (own_K r349 r406 r406) (2 : Int32) T426.heap _ _ X446 eh446 NA446 Z444 pf426_0 pf426_1 pf426_2 pf426_3 pf426_4 pf426_5 pf426_6 pf426_7 pf426_8 pf426_9 hcn
            show Goes _ _ _ _ _ _ _ (T426.setTop (mkF m 189 #[.val (.int p0), .val (.int p1), .val (.int p2), .val (.int p3), .val (.int p4), .val (.int (2 : Int32)), .val (.int (2 : Int32)), .val (.int vs7), .val (.ref b29), .val (.int vq9), .val (.int (4 : Int32)), .val (.int (2 : Int32)), .val (.ref b309), .val (.int (0 : Int32)), .unset, .unset] []))
            refine G1 (fun _ => XS.iload X426.here hx rfl (hb hby at_189) rfl ) ?_
            refine G1 (fun _ => XS.iconst X426.here hx rfl (hb hby at_191)) ?_
            refine G1 (fun _ => XS.icmpNo X426.here hx rfl (hb hby at_192) rfl (flt (by decide : ¬ ((2 : Int32) < (1 : Int32)))).1) ?_
            show Goes _ _ _ _ _ _ _ (T426.setTop (mkF m 195 _ []))
            refine G1 (fun _ => XS.aload X426.here hx rfl (hb hby at_195) rfl rfl) ?_
            refine G1 (fun _ => XS.iload X426.here hx rfl (hb hby at_197) rfl ) ?_
            refine G1 (fun _ => XS.iconst X426.here hx rfl (hb hby at_199)) ?_
            refine G1 (fun _ => XS.isub X426.here hx rfl (hb hby at_200) rfl) ?_
            show Goes _ _ _ _ _ _ _ (T426.setTop (mkF m 201 _ [(.int (1 : Int32)), (.ref b29)]))
            obtain ⟨cl447, Ar447, q447, S447, P447, H447, G447⟩ := id f429
            have hin447 : ¬ ((1 : Int32) < 0 ∨ cl447.slots.size ≤ ((1 : Int32)).toNatClampNeg) := inb_of S447 ⟨by decide, by decide⟩
            have hat447 : cl447.slots[((1 : Int32)).toNatClampNeg]? = some (.int p2) := H447 _ (by rw [S447]; decide)
            refine G1 (fun _ => X426.iaload hx (j := (1 : Int32)) (v := (.int p2)) (by exact Ar447.1) (State.isArrayOf_alike hZ.alike Ar447.2.1) Ar447.2.2 hin447 hat447 (g := (mkF m 201 #[.val (.int p0), .val (.int p1), .val (.int p2), .val (.int p3), .val (.int p4), .val (.int (2 : Int32)), .val (.int (2 : Int32)), .val (.int vs7), .val (.ref b29), .val (.int vq9), .val (.int (4 : Int32)), .val (.int (2 : Int32)), .val (.ref b309), .val (.int (0 : Int32)), .unset, .unset] [(.int (1 : Int32)), (.ref b29)])) rfl rfl (hb hby at_201) _) ?_
            show Goes _ _ _ _ _ _ _ (T426.setTop (mkF m 202 _ [(.int p2)]))
            refine G1 (fun _ => XS.iload X426.here hx rfl (hb hby at_202) rfl ) ?_
            by_cases c204_448 : p2 = vq9
            · refine G1 (fun _ => XS.icmpNo X426.here hx rfl (hb hby at_204) rfl (teq c204_448).2) ?_
              show Goes _ _ _ _ _ _ _ (T426.setTop (mkF m 207 _ []))
              refine G1 (fun _ => XS.iconst X426.here hx rfl (hb hby at_207)) ?_
              refine G1 (fun _ => XS.istore X426.here hx rfl (hb hby at_208) rfl (l' := #[.val (.int p0), .val (.int p1), .val (.int p2), .val (.int p3), .val (.int p4), .val (.int (2 : Int32)), .val (.int (2 : Int32)), .val (.int vs7), .val (.ref b29), .val (.int vq9), .val (.int (4 : Int32)), .val (.int (2 : Int32)), .val (.ref b309), .val (.int (1 : Int32)), .unset, .unset]) rfl) ?_
              show Goes _ _ _ _ _ _ _ (T426.setTop (mkF m 210 _ []))
              refine G1 (fun _ => XS.iload X426.here hx rfl (hb hby at_210) rfl ) ?_
              refine G1 (fun _ => XS.iconst X426.here hx rfl (hb hby at_212)) ?_
              refine G1 (fun _ => XS.icmpNo X426.here hx rfl (hb hby at_213) rfl (flt (by decide : ¬ ((2 : Int32) < (2 : Int32)))).1) ?_
              show Goes _ _ _ _ _ _ _ (T426.setTop (mkF m 216 _ []))
              refine G1 (fun _ => XS.aload X426.here hx rfl (hb hby at_216) rfl rfl) ?_
              refine G1 (fun _ => XS.iload X426.here hx rfl (hb hby at_218) rfl ) ?_
              refine G1 (fun _ => XS.iconst X426.here hx rfl (hb hby at_220)) ?_
              refine G1 (fun _ => XS.isub X426.here hx rfl (hb hby at_221) rfl) ?_
              show Goes _ _ _ _ _ _ _ (T426.setTop (mkF m 222 _ [(.int (0 : Int32)), (.ref b29)]))
              obtain ⟨cl449, Ar449, q449, S449, P449, H449, G449⟩ := id f429
              have hin449 : ¬ ((0 : Int32) < 0 ∨ cl449.slots.size ≤ ((0 : Int32)).toNatClampNeg) := inb_of S449 ⟨by decide, by decide⟩
              have hat449 : cl449.slots[((0 : Int32)).toNatClampNeg]? = some (.int p1) := H449 _ (by rw [S449]; decide)
              refine G1 (fun _ => X426.iaload hx (j := (0 : Int32)) (v := (.int p1)) (by exact Ar449.1) (State.isArrayOf_alike hZ.alike Ar449.2.1) Ar449.2.2 hin449 hat449 (g := (mkF m 222 #[.val (.int p0), .val (.int p1), .val (.int p2), .val (.int p3), .val (.int p4), .val (.int (2 : Int32)), .val (.int (2 : Int32)), .val (.int vs7), .val (.ref b29), .val (.int vq9), .val (.int (4 : Int32)), .val (.int (2 : Int32)), .val (.ref b309), .val (.int (1 : Int32)), .unset, .unset] [(.int (0 : Int32)), (.ref b29)])) rfl rfl (hb hby at_222) _) ?_
              show Goes _ _ _ _ _ _ _ (T426.setTop (mkF m 223 _ [(.int p1)]))
              refine G1 (fun _ => XS.iload X426.here hx rfl (hb hby at_223) rfl ) ?_
              by_cases c225_450 : p1 = vq9
              · refine G1 (fun _ => XS.icmpNo X426.here hx rfl (hb hby at_225) rfl (teq c225_450).2) ?_
                show Goes _ _ _ _ _ _ _ (T426.setTop (mkF m 228 _ []))
                refine G1 (fun _ => XS.iconst X426.here hx rfl (hb hby at_228)) ?_
                refine G1 (fun _ => XS.istore X426.here hx rfl (hb hby at_229) rfl (l' := #[.val (.int p0), .val (.int p1), .val (.int p2), .val (.int p3), .val (.int p4), .val (.int (2 : Int32)), .val (.int (2 : Int32)), .val (.int vs7), .val (.ref b29), .val (.int vq9), .val (.int (4 : Int32)), .val (.int (2 : Int32)), .val (.ref b309), .val (.int (1 : Int32)), .unset, .unset]) rfl) ?_
                show Goes _ _ _ _ _ _ _ (T426.setTop (mkF m 231 _ []))
                refine G1 (fun _ => XS.iload X426.here hx rfl (hb hby at_231) rfl ) ?_
                refine G1 (fun _ => XS.iconst X426.here hx rfl (hb hby at_233)) ?_
                refine G1 (fun _ => XS.icmpYes X426.here hx rfl (pc0 := 234) (pc' := 252) rfl (hb hby at_234) rfl (tlt (by decide : (2 : Int32) < (3 : Int32))).1 (by decide) (by decide)) ?_
                show Goes _ _ _ _ _ _ _ (T426.setTop (mkF m 252 _ []))
                show Goes _ _ _ _ _ _ _ (T426.setTop (mkF m 252 #[.val (.int p0), .val (.int p1), .val (.int p2), .val (.int p3), .val (.int p4), .val (.int (2 : Int32)), .val (.int (2 : Int32)), .val (.int vs7), .val (.ref b29), .val (.int vq9), .val (.int (4 : Int32)), .val (.int (2 : Int32)), .val (.ref b309), .val (.int (1 : Int32)), .unset, .unset] []))
                exact J252 _ (by simp only [decide_eq_true c204_448, decide_eq_true c225_450]; rfl)
              · refine G1 (fun _ => XS.icmpYes X426.here hx rfl (pc0 := 225) (pc' := 231) rfl (hb hby at_225) rfl (feq c225_450).2 (by decide) (by decide)) ?_
                show Goes _ _ _ _ _ _ _ (T426.setTop (mkF m 231 _ []))
                refine G1 (fun _ => XS.iload X426.here hx rfl (hb hby at_231) rfl ) ?_
                refine G1 (fun _ => XS.iconst X426.here hx rfl (hb hby at_233)) ?_
                refine G1 (fun _ => XS.icmpYes X426.here hx rfl (pc0 := 234) (pc' := 252) rfl (hb hby at_234) rfl (tlt (by decide : (2 : Int32) < (3 : Int32))).1 (by decide) (by decide)) ?_
                show Goes _ _ _ _ _ _ _ (T426.setTop (mkF m 252 _ []))
                show Goes _ _ _ _ _ _ _ (T426.setTop (mkF m 252 #[.val (.int p0), .val (.int p1), .val (.int p2), .val (.int p3), .val (.int p4), .val (.int (2 : Int32)), .val (.int (2 : Int32)), .val (.int vs7), .val (.ref b29), .val (.int vq9), .val (.int (4 : Int32)), .val (.int (2 : Int32)), .val (.ref b309), .val (.int (1 : Int32)), .unset, .unset] []))
                exact J252 _ (by simp only [decide_eq_true c204_448, decide_eq_false c225_450]; rfl)
            · refine G1 (fun _ => XS.icmpYes X426.here hx rfl (pc0 := 204) (pc' := 210) rfl (hb hby at_204) rfl (feq c204_448).2 (by decide) (by decide)) ?_
              show Goes _ _ _ _ _ _ _ (T426.setTop (mkF m 210 _ []))
              refine G1 (fun _ => XS.iload X426.here hx rfl (hb hby at_210) rfl ) ?_
              refine G1 (fun _ => XS.iconst X426.here hx rfl (hb hby at_212)) ?_
              refine G1 (fun _ => XS.icmpNo X426.here hx rfl (hb hby at_213) rfl (flt (by decide : ¬ ((2 : Int32) < (2 : Int32)))).1) ?_
              show Goes _ _ _ _ _ _ _ (T426.setTop (mkF m 216 _ []))
              refine G1 (fun _ => XS.aload X426.here hx rfl (hb hby at_216) rfl rfl) ?_
              refine G1 (fun _ => XS.iload X426.here hx rfl (hb hby at_218) rfl ) ?_
              refine G1 (fun _ => XS.iconst X426.here hx rfl (hb hby at_220)) ?_
              refine G1 (fun _ => XS.isub X426.here hx rfl (hb hby at_221) rfl) ?_
              show Goes _ _ _ _ _ _ _ (T426.setTop (mkF m 222 _ [(.int (0 : Int32)), (.ref b29)]))
              obtain ⟨cl451, Ar451, q451, S451, P451, H451, G451⟩ := id f429
              have hin451 : ¬ ((0 : Int32) < 0 ∨ cl451.slots.size ≤ ((0 : Int32)).toNatClampNeg) := inb_of S451 ⟨by decide, by decide⟩
              have hat451 : cl451.slots[((0 : Int32)).toNatClampNeg]? = some (.int p1) := H451 _ (by rw [S451]; decide)
              refine G1 (fun _ => X426.iaload hx (j := (0 : Int32)) (v := (.int p1)) (by exact Ar451.1) (State.isArrayOf_alike hZ.alike Ar451.2.1) Ar451.2.2 hin451 hat451 (g := (mkF m 222 #[.val (.int p0), .val (.int p1), .val (.int p2), .val (.int p3), .val (.int p4), .val (.int (2 : Int32)), .val (.int (2 : Int32)), .val (.int vs7), .val (.ref b29), .val (.int vq9), .val (.int (4 : Int32)), .val (.int (2 : Int32)), .val (.ref b309), .val (.int (0 : Int32)), .unset, .unset] [(.int (0 : Int32)), (.ref b29)])) rfl rfl (hb hby at_222) _) ?_
              show Goes _ _ _ _ _ _ _ (T426.setTop (mkF m 223 _ [(.int p1)]))
              refine G1 (fun _ => XS.iload X426.here hx rfl (hb hby at_223) rfl ) ?_
              by_cases c225_452 : p1 = vq9
              · refine G1 (fun _ => XS.icmpNo X426.here hx rfl (hb hby at_225) rfl (teq c225_452).2) ?_
                show Goes _ _ _ _ _ _ _ (T426.setTop (mkF m 228 _ []))
                refine G1 (fun _ => XS.iconst X426.here hx rfl (hb hby at_228)) ?_
                refine G1 (fun _ => XS.istore X426.here hx rfl (hb hby at_229) rfl (l' := #[.val (.int p0), .val (.int p1), .val (.int p2), .val (.int p3), .val (.int p4), .val (.int (2 : Int32)), .val (.int (2 : Int32)), .val (.int vs7), .val (.ref b29), .val (.int vq9), .val (.int (4 : Int32)), .val (.int (2 : Int32)), .val (.ref b309), .val (.int (1 : Int32)), .unset, .unset]) rfl) ?_
                show Goes _ _ _ _ _ _ _ (T426.setTop (mkF m 231 _ []))
                refine G1 (fun _ => XS.iload X426.here hx rfl (hb hby at_231) rfl ) ?_
                refine G1 (fun _ => XS.iconst X426.here hx rfl (hb hby at_233)) ?_
                refine G1 (fun _ => XS.icmpYes X426.here hx rfl (pc0 := 234) (pc' := 252) rfl (hb hby at_234) rfl (tlt (by decide : (2 : Int32) < (3 : Int32))).1 (by decide) (by decide)) ?_
                show Goes _ _ _ _ _ _ _ (T426.setTop (mkF m 252 _ []))
                show Goes _ _ _ _ _ _ _ (T426.setTop (mkF m 252 #[.val (.int p0), .val (.int p1), .val (.int p2), .val (.int p3), .val (.int p4), .val (.int (2 : Int32)), .val (.int (2 : Int32)), .val (.int vs7), .val (.ref b29), .val (.int vq9), .val (.int (4 : Int32)), .val (.int (2 : Int32)), .val (.ref b309), .val (.int (1 : Int32)), .unset, .unset] []))
                exact J252 _ (by simp only [decide_eq_false c204_448, decide_eq_true c225_452]; rfl)
              · refine G1 (fun _ => XS.icmpYes X426.here hx rfl (pc0 := 225) (pc' := 231) rfl (hb hby at_225) rfl (feq c225_452).2 (by decide) (by decide)) ?_
                show Goes _ _ _ _ _ _ _ (T426.setTop (mkF m 231 _ []))
                refine G1 (fun _ => XS.iload X426.here hx rfl (hb hby at_231) rfl ) ?_
                refine G1 (fun _ => XS.iconst X426.here hx rfl (hb hby at_233)) ?_
                refine G1 (fun _ => XS.icmpYes X426.here hx rfl (pc0 := 234) (pc' := 252) rfl (hb hby at_234) rfl (tlt (by decide : (2 : Int32) < (3 : Int32))).1 (by decide) (by decide)) ?_
                show Goes _ _ _ _ _ _ _ (T426.setTop (mkF m 252 _ []))
                show Goes _ _ _ _ _ _ _ (T426.setTop (mkF m 252 #[.val (.int p0), .val (.int p1), .val (.int p2), .val (.int p3), .val (.int p4), .val (.int (2 : Int32)), .val (.int (2 : Int32)), .val (.int vs7), .val (.ref b29), .val (.int vq9), .val (.int (4 : Int32)), .val (.int (2 : Int32)), .val (.ref b309), .val (.int (0 : Int32)), .unset, .unset] []))
                exact J252 _ (by simp only [decide_eq_false c204_448, decide_eq_false c225_452]; rfl)
          · show Goes _ _ _ _ _ _ _ (T426.setTop (mkF m 161 #[.val (.int p0), .val (.int p1), .val (.int p2), .val (.int p3), .val (.int p4), .val (.int (2 : Int32)), .val (.int (3 : Int32)), .val (.int vs7), .val (.ref b29), .val (.int vq9), .val (.int (4 : Int32)), .val (.int (1 : Int32)), .val (.ref b309), .unset, .unset, .unset] []))
            refine G1 (fun _ => XS.iload X426.here hx rfl (hb hby at_161) rfl ) ?_
            refine G1 (fun _ => XS.iconst X426.here hx rfl (hb hby at_163)) ?_
            refine G1 (fun _ => XS.icmpNo X426.here hx rfl (hb hby at_164) rfl (flt (by decide : ¬ ((3 : Int32) < (3 : Int32)))).1) ?_
            show Goes _ _ _ _ _ _ _ (T426.setTop (mkF m 167 _ []))
            refine G1 (fun _ => XS.aload X426.here hx rfl (hb hby at_167) rfl rfl) ?_
            refine G1 (fun _ => XS.aload X426.here hx rfl (hb hby at_169) rfl rfl) ?_
            refine G1 (fun _ => XS.iconst X426.here hx rfl (hb hby at_171)) ?_
            obtain ⟨cl453, Ar453, q453, S453, P453, H453, G453⟩ := id f429
            have hin453 : ¬ ((2 : Int32) < 0 ∨ cl453.slots.size ≤ ((2 : Int32)).toNatClampNeg) := inb_of S453 ⟨by decide, by decide⟩
            have hat453 : cl453.slots[((2 : Int32)).toNatClampNeg]? = some (.int p3) := H453 _ (by rw [S453]; decide)
            refine G1 (fun _ => X426.iaload hx (j := (2 : Int32)) (v := (.int p3)) (by exact Ar453.1) (State.isArrayOf_alike hZ.alike Ar453.2.1) Ar453.2.2 hin453 hat453 (g := (mkF m 172 #[.val (.int p0), .val (.int p1), .val (.int p2), .val (.int p3), .val (.int p4), .val (.int (2 : Int32)), .val (.int (3 : Int32)), .val (.int vs7), .val (.ref b29), .val (.int vq9), .val (.int (4 : Int32)), .val (.int (1 : Int32)), .val (.ref b309), .unset, .unset, .unset] [(.int (2 : Int32)), (.ref b29), (.ref b309)])) rfl rfl (hb hby at_172) _) ?_
            show Goes _ _ _ _ _ _ _ (T426.setTop (mkF m 173 _ [(.int p3), (.ref b309)]))
            refine G1 (fun _ => XS.iconst X426.here hx rfl (hb hby at_173)) ?_
            obtain ⟨_, _, ⟨T454, L454, k454, n454⟩, -, X454, ⟨Lc454, hQ454, l454, y454, z454⟩, st454⟩ := Jvm.LawKit.callS X426 hx (y := mN9) hown (mvT hZ w_52) (mvT hZ w_53) (mvT hZ w_15) (mvT hZ w_54) (by decide) (backOf (W := 2) (rm9 l Z a0 hw [] (2 : Int32) ca cc T426.heap n0 Z444 (S_high.ext XO427.2) (S_cache.ext XO427.2) BX XO427 (by decide) (by decide)) hZ w_54 w_15 (by decide) (by decide)) (g := (mkF m 174 #[.val (.int p0), .val (.int p1), .val (.int p2), .val (.int p3), .val (.int p4), .val (.int (2 : Int32)), .val (.int (3 : Int32)), .val (.int vs7), .val (.ref b29), .val (.int vq9), .val (.int (4 : Int32)), .val (.int (1 : Int32)), .val (.ref b309), .unset, .unset, .unset] [(.int (2 : Int32)), (.int p3), (.ref b309)])) rfl (by rw [hml]; rfl) (argsL := [(.int (2 : Int32))]) (rest := [(.int p3), (.ref b309)]) (lenOf pd_5 rfl) rfl (by show 2 * 0 + _ ≤ _; exact Nat.le_of_eq rfl) (hb hby at_174) (fun _ _ => ⟨rfl, rfl, (by decide : 5 + 0 ≤ _), (by decide : 21 + 0 ≤ _)⟩)
            dsimp only [Pt.U, Pt.locs, Pt.cells, Pt.slots] at X454 l454 y454 z454 st454 hQ454
            rw [l454, y454, z454] at X454
            obtain ⟨N454, KK454, r454, rfl, ex454⟩ := hQ454
            have NA454 := Fr.app NA426 N454
            have XO455 : Old Z n0 T454.heap := XO427.keep KK454 all0
            have f456 := f428.keep KK454
            have f457 := f429.keep KK454 nin0
            have f458 := pf426_0.keep KK454
            have f459 := f431.keep KK454
            have f460 := f432.keep KK454
            have f461 := f442.keep KK454
            have f462 := f443.keep KK454
            have f463 := pf426_1.keep KK454 nin0
            have f464 := pf426_2.keep KK454 nin0
            have f465 := pf426_3.keep KK454 nin0
            have f466 := pf426_4.keep KK454 nin0
            have f467 := pf426_5.keep KK454 nin0
            have f468 := pf426_6.keep KK454 nin0
            have f469 := pf426_7.keep KK454 nin0
            have f470 := pf426_8.keep KK454 nin0
            have f471 := pf426_9.keep KK454 nin0
            have K472 : Keep h0 T454.heap [] := K444.trans KK454 all0
            have Z472 : n0 ≤ T454.heap.size := Nat.le_trans Z444 KK454.1
            refine G1 st454 ?_
            show Goes _ _ _ _ _ _ _ (T454.setTop (mkF m 177 _ [(.ref r454), (.int p3), (.ref b309)]))
            refine G1 (fun _ => XS.bipush X454.here hx rfl (hb hby at_177)) ?_
            obtain ⟨_, _, ⟨T473, L473, k473, n473⟩, -, X473, ⟨Lc473, hQ473, l473, y473, z473⟩, st473⟩ := Jvm.LawKit.callS X454 hx (y := mN9) hown (mvT hZ w_52) (mvT hZ w_53) (mvT hZ w_15) (mvT hZ w_54) (by decide) (backOf (W := 3) (rm9 l Z a0 hw [] (12 : Int32) ca cc T454.heap n0 Z472 (S_high.ext XO455.2) (S_cache.ext XO455.2) BX XO455 (by decide) (by decide)) hZ w_54 w_15 (by decide) (by decide)) (g := (mkF m 179 #[.val (.int p0), .val (.int p1), .val (.int p2), .val (.int p3), .val (.int p4), .val (.int (2 : Int32)), .val (.int (3 : Int32)), .val (.int vs7), .val (.ref b29), .val (.int vq9), .val (.int (4 : Int32)), .val (.int (1 : Int32)), .val (.ref b309), .unset, .unset, .unset] [(.int (12 : Int32)), (.ref r454), (.int p3), (.ref b309)])) rfl (by rw [hml]; rfl) (argsL := [(.int (12 : Int32))]) (rest := [(.ref r454), (.int p3), (.ref b309)]) (lenOf pd_5 rfl) rfl (by show 2 * 0 + _ ≤ _; exact Nat.le_of_eq rfl) (hb hby at_179) (fun _ _ => ⟨rfl, rfl, (by decide : 5 + 0 ≤ _), (by decide : 21 + 0 ≤ _)⟩)
            dsimp only [Pt.U, Pt.locs, Pt.cells, Pt.slots] at X473 l473 y473 z473 st473 hQ473
            rw [l473, y473, z473] at X473
            obtain ⟨N473, KK473, r473, rfl, ex473⟩ := hQ473
            have NA473 := Fr.app NA454 N473
            have XO474 : Old Z n0 T473.heap := XO455.keep KK473 all0
            have f475 := f456.keep KK473
            have f476 := f457.keep KK473 nin0
            have f477 := f458.keep KK473
            have f478 := f459.keep KK473
            have f479 := f460.keep KK473
            have f480 := f461.keep KK473
            have f481 := f462.keep KK473
            have f482 := f463.keep KK473 nin0
            have f483 := f464.keep KK473 nin0
            have f484 := f465.keep KK473 nin0
            have f485 := f466.keep KK473 nin0
            have f486 := f467.keep KK473 nin0
            have f487 := f468.keep KK473 nin0
            have f488 := f469.keep KK473 nin0
            have f489 := f470.keep KK473 nin0
            have f490 := f471.keep KK473 nin0
            have f491 := ex454.keep KK473
            have K492 : Keep h0 T473.heap [] := K472.trans KK473 all0
            have Z492 : n0 ≤ T473.heap.size := Nat.le_trans Z472 KK473.1
            refine G1 st473 ?_
            show Goes _ _ _ _ _ _ _ (T473.setTop (mkF m 182 _ [(.ref r473), (.ref r454), (.int p3), (.ref b309)]))
            have rc493 : ArF Z T473.heap r315_0_0 kk315_0_0 (.object "java/lang/Object") 4 (fun j => rfv (own_K r334 r389 r454) ((own_put (own_put own_t0 f1.val 0) q2 1) j)) := f488.congr (own_recast (own_cP (own_cP own_c0 (by rfl)) (by rfl)))
            have rc494 : ArF Z T473.heap r315_0_2 kk315_0_2 (.object "java/lang/Object") 4 (fun j => rfv (own_K r349 r406 r473) ((own_put (own_put own_t0 f1.val 0) q2 1) j)) := f490.congr (own_recast (own_cP (own_cP own_c0 (by rfl)) (by rfl)))
            obtain ⟨cq495, kq495, q495a, q495b, q495c⟩ := isOf hZ rfl f477
            obtain ⟨_, _, ⟨T495, L495, k495, n495⟩, -, X495, ⟨Lc495, hQ495, l495, y495, z495⟩, st495⟩ := X473.virtualBack hx (y := mN10) (z := mN10) hown (mvT hZ w_58) (mvT hZ w_59) (notFace_of_selects (args := #[]) (mvT hZ w_61)) (mvT hZ w_61) (mvT hZ w_60) (by decide) (backOf (W := 0) (rm10_f4 l Z a0 hw [] b309 p3 r454 r473 r315_0_0 r315_0_1 r315_0_2 kk315_0_0 kk315_0_1 kk315_0_2 (own_put (own_put own_t0 f1.val 0) q2 1) (own_hp (own_hp (fun _ => (0 : Int32)) f1.val p1) q2 p2) (own_K r334 r389 r454) (own_K r349 r406 r473) (30 : Int32) (2 : Int32) (2 : Int32) 2 9 f3.val T473.heap n0 Z492 f477 f482 f483 f484 f485 f486 f487 rc493 f489 rc494 oo315_0_0 oo315_0_1 (Ins.of_exa f491 w_65) (Ins.of_exa ex473 w_65) rfl rfl g_b309 g_r315_0_0 g_r315_0_1 g_r315_0_2 (Ne.symm ne328) (Ne.symm ne330) nn315_0_0 (Ne.symm ne332) nn315_0_1 nn315_0_2 rfl hS hf3.symm) hZ w_62 w_3 (by decide) (by decide)) q495a q495c (g := (mkF m 182 #[.val (.int p0), .val (.int p1), .val (.int p2), .val (.int p3), .val (.int p4), .val (.int (2 : Int32)), .val (.int (3 : Int32)), .val (.int vs7), .val (.ref b29), .val (.int vq9), .val (.int (4 : Int32)), .val (.int (1 : Int32)), .val (.ref b309), .unset, .unset, .unset] [(.ref r473), (.ref r454), (.int p3), (.ref b309)])) rfl (by rw [hml]; rfl) (Steps.refl _) (argsL := [(.int p3), (.ref r454), (.ref r473)]) (rest := []) (lenOf pd_6 rfl) rfl (by show 2 * 0 + _ ≤ _; exact Nat.le_of_eq rfl) (hb hby at_182) (fun _ _ => ⟨rfl, rfl, (by decide : 5 + 0 ≤ _), (by decide : 21 + 0 ≤ _)⟩)
            dsimp only [Pt.U, Pt.locs, Pt.cells, Pt.slots] at X495 l495 y495 z495 st495 hQ495
            rw [l495, y495, z495] at X495
            obtain ⟨N495, KK495, rfl, pf495_0, pf495_1, pf495_2, pf495_3, pf495_4, pf495_5, pf495_6, pf495_7, pf495_8, pf495_9⟩ := hQ495
            have NA495 := Fr.app NA473 N495
            have XO496 : Old Z n0 T495.heap := XO474.keep KK495 (allS g_b309 (allS g_r315_0_0 (allS g_r315_0_1 (allS g_r315_0_2 all0))))
            have f497 := f475.keep KK495
            have f498 := f476.keep KK495 (ninS ne310 (ninS ne327 (ninS ne329 (ninS ne331 nin0))))
            have f499 := f477.keep KK495
            have f500 := f478.keep KK495
            have f501 := f479.keep KK495
            have f502 := f480.keep KK495
            have f503 := f481.keep KK495
            have f513 := f491.keep KK495
            have f514 := ex473.keep KK495
            have K515 : Keep h0 T495.heap [] := K492.trans KK495 (allS (Or.inr sz_b309) (allS (Or.inr sz_r315_0_0) (allS (Or.inr sz_r315_0_1) (allS (Or.inr sz_r315_0_2) all0))))
            have Z515 : n0 ≤ T495.heap.size := Nat.le_trans Z492 KK495.1
            refine G2 st495 ?_
            show Goes _ _ _ _ _ _ _ (T495.setTop (mkF m 185 _ [(.ref r473)]))
            refine G1 (fun _ => XS.pop X495.here hx rfl (hb hby at_185) rfl rfl) ?_
            show Goes _ _ _ _ _ _ _ (T495.setTop (mkF m 186 _ []))
            refine G1 (fun _ => XS.iconst X495.here hx rfl (hb hby at_186)) ?_
            refine G1 (fun _ => XS.istore X495.here hx rfl (hb hby at_187) rfl (l' := #[.val (.int p0), .val (.int p1), .val (.int p2), .val (.int p3), .val (.int p4), .val (.int (2 : Int32)), .val (.int (3 : Int32)), .val (.int vs7), .val (.ref b29), .val (.int vq9), .val (.int (4 : Int32)), .val (.int (1 : Int32)), .val (.ref b309), .val (.int (0 : Int32)), .unset, .unset]) rfl) ?_
            show Goes _ _ _ _ _ _ _ (T495.setTop (mkF m 189 _ []))
            show Goes _ _ _ _ _ _ _ (T495.setTop (mkF m 189 #[.val (.int p0), .val (.int p1), .val (.int p2), .val (.int p3), .val (.int p4), .val (.int (2 : Int32)), .val (.int (3 : Int32)), .val (.int vs7), .val (.ref b29), .val (.int vq9), .val (.int (4 : Int32)), .val (.int (1 : Int32)), .val (.ref b309), .val (.int (0 : Int32)), .unset, .unset] []))
            have lw := own_s4 f3 f4 2 (decide (p1 = vq9)) (decide (p2 = vq9)) (decide (p3 = vq9)) ee3
            rw [Bool.and_eq_true] at lw
            obtain ⟨pp, hsk0, hpb0⟩ := own_satE lw.1
            have hpb : own_b ((own_put own_t0 f3.val 2) pp) = own_i (decide (p3 = vq9)) := own_beq hpb0
            have hcn : own_b ((own_put own_t0 f3.val 2) ((0 : Int32)).toNatClampNeg) + own_b ((own_put own_t0 f3.val 2) ((1 : Int32)).toNatClampNeg) + own_b ((own_put own_t0 f3.val 2) ((2 : Int32)).toNatClampNeg) + own_b ((own_put own_t0 f3.val 2) ((3 : Int32)).toNatClampNeg) = (1 : Int32) := own_beq lw.2
            have hsk : seekP (own_put own_t0 f3.val 2) (fun j => decide (own_H p1 p2 p3 j = vq9)) 4 9 (own_f vq9 (30 : Int32)).toNatClampNeg = some pp := by rw [own_e3H, ← hf4]; exact hsk0
            have hH : ∀ p j, (own_put own_t0 f3.val 2) p = some j → (own_hp (own_hp (own_hp (fun _ => (0 : Int32)) f1.val p1) q2 p2) f3.val p3) p = own_H p1 p2 p3 j := (own_hH own_hH0 (by rfl))
            have J252 : ∀ ex : Int32, own_i (decide (p3 = vq9)) = ex → Goes p e below s room_1.cells room_1.slots (fun v h L => Q0 Z p0 p1 p2 p3 p4 ca cc h0 n0 v h L) (T495.setTop (mkF m 252 #[.val (.int p0), .val (.int p1), .val (.int p2), .val (.int p3), .val (.int p4), .val (.int (2 : Int32)), .val (.int (3 : Int32)), .val (.int vs7), .val (.ref b29), .val (.int vq9), .val (.int (4 : Int32)), .val (.int (1 : Int32)), .val (.ref b309), .val (.int ex), .unset, .unset] [])) := by
              intro ex hex
              refine G1 (fun _ => XS.aload X495.here hx rfl (hb hby at_252) rfl rfl) ?_
              refine G1 (fun _ => XS.aload X495.here hx rfl (hb hby at_254) rfl rfl) ?_
              refine G1 (fun _ => XS.iload X495.here hx rfl (hb hby at_256) rfl ) ?_
              obtain ⟨cq516, kq516, q516a, q516b, q516c⟩ := isOf hZ rfl pf495_0
              obtain ⟨_, _, ⟨T516, L516, k516, n516⟩, -, X516, ⟨Lc516, hQ516, l516, y516, z516⟩, st516⟩ := X495.virtualBack hx (y := mN8) (z := mN8) hown (mvT hZ w_33) (mvT hZ w_34) (notFace_of_selects (args := #[]) (mvT hZ w_36)) (mvT hZ w_36) (mvT hZ w_35) (by decide) (backOf (W := 1) (rm5 l Z a0 hw [] b309 vq9 r315_0_0 r315_0_1 r315_0_2 kk315_0_0 kk315_0_1 kk315_0_2 4 (own_put own_t0 f3.val 2) (own_hp (own_hp (own_hp (fun _ => (0 : Int32)) f1.val p1) q2 p2) f3.val p3) (own_K r334 r389 r454) (own_K r349 r406 r473) (30 : Int32) (2 : Int32) (1 : Int32) (own_H p1 p2 p3) 9 pp T495.heap n0 Z515 pf495_0 pf495_1 pf495_2 pf495_3 pf495_4 pf495_5 pf495_6 pf495_7 pf495_8 pf495_9 hN hH hS hsk) hZ w_37 w_3 (by decide) (by decide)) q516a q516c (g := (mkF m 258 #[.val (.int p0), .val (.int p1), .val (.int p2), .val (.int p3), .val (.int p4), .val (.int (2 : Int32)), .val (.int (3 : Int32)), .val (.int vs7), .val (.ref b29), .val (.int vq9), .val (.int (4 : Int32)), .val (.int (1 : Int32)), .val (.ref b309), .val (.int ex), .unset, .unset] [(.int vq9), (.ref b309), (.ref b309)])) rfl (by rw [hml]; rfl) (Steps.refl _) (argsL := [(.int vq9)]) (rest := [(.ref b309)]) (lenOf pd_2 rfl) rfl (by show 2 * 0 + _ ≤ _; exact Nat.le_of_eq rfl) (hb hby at_258) (fun _ _ => ⟨rfl, rfl, (by decide : 5 + 0 ≤ _), (by decide : 21 + 0 ≤ _)⟩)
              dsimp only [Pt.U, Pt.locs, Pt.cells, Pt.slots] at X516 l516 y516 z516 st516 hQ516
              rw [l516, y516, z516] at X516
              obtain ⟨N516, eh516, r516, rfl, r1_516, r2_516, r3_516⟩ := hQ516
              have NA516 := Fr.app NA495 N516
              refine G2 st516 ?_
              show Goes _ _ _ _ _ _ _ (T516.setTop (mkF m 261 _ [(.int r516), (.ref b309)]))
              obtain ⟨cq517, kq517, q517a, q517b, q517c⟩ := isOf hZ eh516 pf495_0
              obtain ⟨_, _, ⟨T517, L517, k517, n517⟩, -, X517, ⟨Lc517, hQ517, l517, y517, z517⟩, st517⟩ := X516.virtualBack hx (y := mN6) (z := mN6) hown (mvT hZ w_47) (mvT hZ w_48) (notFace_of_selects (args := #[]) (mvT hZ w_50)) (mvT hZ w_50) (mvT hZ w_49) (by decide) (backOf (W := 0) (rm8 l Z a0 hw [] b309 r516 r315_0_0 r315_0_1 r315_0_2 kk315_0_0 kk315_0_1 kk315_0_2 4 (own_put own_t0 f3.val 2) (own_hp (own_hp (own_hp (fun _ => (0 : Int32)) f1.val p1) q2 p2) f3.val p3) (own_K r334 r389 r454) (own_K r349 r406 r473) (30 : Int32) (2 : Int32) (1 : Int32) T495.heap n0 Z515 pf495_0 pf495_1 pf495_2 pf495_3 pf495_4 pf495_5 pf495_6 pf495_7 pf495_8 pf495_9 r1_516 r3_516) hZ w_51 w_3 (by decide) (by decide)) q517a q517c (g := (mkF m 261 #[.val (.int p0), .val (.int p1), .val (.int p2), .val (.int p3), .val (.int p4), .val (.int (2 : Int32)), .val (.int (3 : Int32)), .val (.int vs7), .val (.ref b29), .val (.int vq9), .val (.int (4 : Int32)), .val (.int (1 : Int32)), .val (.ref b309), .val (.int ex), .unset, .unset] [(.int r516), (.ref b309)])) rfl (by rw [hml]; rfl) (Steps.refl _) (argsL := [(.int r516)]) (rest := []) (lenOf pd_4 rfl) rfl (by show 2 * 0 + _ ≤ _; exact Nat.le_of_eq rfl) (hb hby at_261) (fun _ _ => ⟨rfl, eh516, (by decide : 5 + 0 ≤ _), (by decide : 21 + 0 ≤ _)⟩)
              dsimp only [Pt.U, Pt.locs, Pt.cells, Pt.slots] at X517 l517 y517 z517 st517 hQ517
              rw [l517, y517, z517] at X517
              obtain ⟨N517, eh517, hv517⟩ := hQ517
              have NA517 := Fr.app NA516 N517
              subst hv517
              refine G2 st517 ?_
              show Goes _ _ _ _ _ _ _ (T517.setTop (mkF m 264 _ [(.int (own_b ((own_put own_t0 f3.val 2) (r516).toNatClampNeg)))]))
              refine G1 (fun _ => XS.istore X517.here hx rfl (hb hby at_264) rfl (l' := #[.val (.int p0), .val (.int p1), .val (.int p2), .val (.int p3), .val (.int p4), .val (.int (2 : Int32)), .val (.int (3 : Int32)), .val (.int vs7), .val (.ref b29), .val (.int vq9), .val (.int (4 : Int32)), .val (.int (1 : Int32)), .val (.ref b309), .val (.int ex), .val (.int (own_b ((own_put own_t0 f3.val 2) (r516).toNatClampNeg))), .unset]) rfl) ?_
              show Goes _ _ _ _ _ _ _ (T517.setTop (mkF m 266 _ []))
              show Goes _ _ _ _ _ _ _ (T517.setTop (mkF m 266 #[.val (.int p0), .val (.int p1), .val (.int p2), .val (.int p3), .val (.int p4), .val (.int (2 : Int32)), .val (.int (3 : Int32)), .val (.int vs7), .val (.ref b29), .val (.int vq9), .val (.int (4 : Int32)), .val (.int (1 : Int32)), .val (.ref b309), .val (.int ex), .val (.int (own_b ((own_put own_t0 f3.val 2) (r516).toNatClampNeg))), .unset] []))
              have hfx : (own_b ((own_put own_t0 f3.val 2) (r516).toNatClampNeg)) = ex := by rw [r2_516]; exact hpb.trans hex
              rw [hfx]
              exact J266_4 _ _ _ _ _ ex _ _ r315_0_0 r315_0_1 r315_0_2 kk315_0_0 kk315_0_1 kk315_0_2 (own_put own_t0 f3.val 2) (own_hp (own_hp (own_hp (fun _ => (0 : Int32)) f1.val p1) q2 p2) f3.val p3) (own_K r334 r389 r454) (own_K r349 r406 r473) (1 : Int32) T495.heap _ _ X517 eh517 NA517 Z515 pf495_0 pf495_1 pf495_2 pf495_3 pf495_4 pf495_5 pf495_6 pf495_7 pf495_8 pf495_9 hcn
            show Goes _ _ _ _ _ _ _ (T495.setTop (mkF m 189 #[.val (.int p0), .val (.int p1), .val (.int p2), .val (.int p3), .val (.int p4), .val (.int (2 : Int32)), .val (.int (3 : Int32)), .val (.int vs7), .val (.ref b29), .val (.int vq9), .val (.int (4 : Int32)), .val (.int (1 : Int32)), .val (.ref b309), .val (.int (0 : Int32)), .unset, .unset] []))
            refine G1 (fun _ => XS.iload X495.here hx rfl (hb hby at_189) rfl ) ?_
            refine G1 (fun _ => XS.iconst X495.here hx rfl (hb hby at_191)) ?_
            refine G1 (fun _ => XS.icmpNo X495.here hx rfl (hb hby at_192) rfl (flt (by decide : ¬ ((1 : Int32) < (1 : Int32)))).1) ?_
            show Goes _ _ _ _ _ _ _ (T495.setTop (mkF m 195 _ []))
            refine G1 (fun _ => XS.aload X495.here hx rfl (hb hby at_195) rfl rfl) ?_
            refine G1 (fun _ => XS.iload X495.here hx rfl (hb hby at_197) rfl ) ?_
            refine G1 (fun _ => XS.iconst X495.here hx rfl (hb hby at_199)) ?_
            refine G1 (fun _ => XS.isub X495.here hx rfl (hb hby at_200) rfl) ?_
            show Goes _ _ _ _ _ _ _ (T495.setTop (mkF m 201 _ [(.int (2 : Int32)), (.ref b29)]))
            obtain ⟨cl518, Ar518, q518, S518, P518, H518, G518⟩ := id f498
            have hin518 : ¬ ((2 : Int32) < 0 ∨ cl518.slots.size ≤ ((2 : Int32)).toNatClampNeg) := inb_of S518 ⟨by decide, by decide⟩
            have hat518 : cl518.slots[((2 : Int32)).toNatClampNeg]? = some (.int p3) := H518 _ (by rw [S518]; decide)
            refine G1 (fun _ => X495.iaload hx (j := (2 : Int32)) (v := (.int p3)) (by exact Ar518.1) (State.isArrayOf_alike hZ.alike Ar518.2.1) Ar518.2.2 hin518 hat518 (g := (mkF m 201 #[.val (.int p0), .val (.int p1), .val (.int p2), .val (.int p3), .val (.int p4), .val (.int (2 : Int32)), .val (.int (3 : Int32)), .val (.int vs7), .val (.ref b29), .val (.int vq9), .val (.int (4 : Int32)), .val (.int (1 : Int32)), .val (.ref b309), .val (.int (0 : Int32)), .unset, .unset] [(.int (2 : Int32)), (.ref b29)])) rfl rfl (hb hby at_201) _) ?_
            show Goes _ _ _ _ _ _ _ (T495.setTop (mkF m 202 _ [(.int p3)]))
            refine G1 (fun _ => XS.iload X495.here hx rfl (hb hby at_202) rfl ) ?_
            by_cases c204_519 : p3 = vq9
            · refine G1 (fun _ => XS.icmpNo X495.here hx rfl (hb hby at_204) rfl (teq c204_519).2) ?_
              show Goes _ _ _ _ _ _ _ (T495.setTop (mkF m 207 _ []))
              refine G1 (fun _ => XS.iconst X495.here hx rfl (hb hby at_207)) ?_
              refine G1 (fun _ => XS.istore X495.here hx rfl (hb hby at_208) rfl (l' := #[.val (.int p0), .val (.int p1), .val (.int p2), .val (.int p3), .val (.int p4), .val (.int (2 : Int32)), .val (.int (3 : Int32)), .val (.int vs7), .val (.ref b29), .val (.int vq9), .val (.int (4 : Int32)), .val (.int (1 : Int32)), .val (.ref b309), .val (.int (1 : Int32)), .unset, .unset]) rfl) ?_
              show Goes _ _ _ _ _ _ _ (T495.setTop (mkF m 210 _ []))
              refine G1 (fun _ => XS.iload X495.here hx rfl (hb hby at_210) rfl ) ?_
              refine G1 (fun _ => XS.iconst X495.here hx rfl (hb hby at_212)) ?_
              refine G1 (fun _ => XS.icmpYes X495.here hx rfl (pc0 := 213) (pc' := 231) rfl (hb hby at_213) rfl (tlt (by decide : (1 : Int32) < (2 : Int32))).1 (by decide) (by decide)) ?_
              show Goes _ _ _ _ _ _ _ (T495.setTop (mkF m 231 _ []))
              refine G1 (fun _ => XS.iload X495.here hx rfl (hb hby at_231) rfl ) ?_
              refine G1 (fun _ => XS.iconst X495.here hx rfl (hb hby at_233)) ?_
              refine G1 (fun _ => XS.icmpYes X495.here hx rfl (pc0 := 234) (pc' := 252) rfl (hb hby at_234) rfl (tlt (by decide : (1 : Int32) < (3 : Int32))).1 (by decide) (by decide)) ?_
              show Goes _ _ _ _ _ _ _ (T495.setTop (mkF m 252 _ []))
              show Goes _ _ _ _ _ _ _ (T495.setTop (mkF m 252 #[.val (.int p0), .val (.int p1), .val (.int p2), .val (.int p3), .val (.int p4), .val (.int (2 : Int32)), .val (.int (3 : Int32)), .val (.int vs7), .val (.ref b29), .val (.int vq9), .val (.int (4 : Int32)), .val (.int (1 : Int32)), .val (.ref b309), .val (.int (1 : Int32)), .unset, .unset] []))
              exact J252 _ (by simp only [decide_eq_true c204_519]; rfl)
            · refine G1 (fun _ => XS.icmpYes X495.here hx rfl (pc0 := 204) (pc' := 210) rfl (hb hby at_204) rfl (feq c204_519).2 (by decide) (by decide)) ?_
              show Goes _ _ _ _ _ _ _ (T495.setTop (mkF m 210 _ []))
              refine G1 (fun _ => XS.iload X495.here hx rfl (hb hby at_210) rfl ) ?_
              refine G1 (fun _ => XS.iconst X495.here hx rfl (hb hby at_212)) ?_
              refine G1 (fun _ => XS.icmpYes X495.here hx rfl (pc0 := 213) (pc' := 231) rfl (hb hby at_213) rfl (tlt (by decide : (1 : Int32) < (2 : Int32))).1 (by decide) (by decide)) ?_
              show Goes _ _ _ _ _ _ _ (T495.setTop (mkF m 231 _ []))
              refine G1 (fun _ => XS.iload X495.here hx rfl (hb hby at_231) rfl ) ?_
              refine G1 (fun _ => XS.iconst X495.here hx rfl (hb hby at_233)) ?_
              refine G1 (fun _ => XS.icmpYes X495.here hx rfl (pc0 := 234) (pc' := 252) rfl (hb hby at_234) rfl (tlt (by decide : (1 : Int32) < (3 : Int32))).1 (by decide) (by decide)) ?_
              show Goes _ _ _ _ _ _ _ (T495.setTop (mkF m 252 _ []))
              show Goes _ _ _ _ _ _ _ (T495.setTop (mkF m 252 #[.val (.int p0), .val (.int p1), .val (.int p2), .val (.int p3), .val (.int p4), .val (.int (2 : Int32)), .val (.int (3 : Int32)), .val (.int vs7), .val (.ref b29), .val (.int vq9), .val (.int (4 : Int32)), .val (.int (1 : Int32)), .val (.ref b309), .val (.int (0 : Int32)), .unset, .unset] []))
              exact J252 _ (by simp only [decide_eq_false c204_519]; rfl)
    · rcases hn with rfl | hnA
      · show Goes _ _ _ _ _ _ _ (T45.setTop (mkF m 56 #[.val (.int p0), .val (.int p1), .val (.int p2), .val (.int p3), .val (.int p4), .val (.int (3 : Int32)), .val (.int (0 : Int32)), .val (.int vs7), .val (.ref b29), .val (.int vq9), .unset, .unset, .unset, .unset, .unset, .unset] []))
        refine G1 (fun _ => XS.iload X45.here hx rfl (hb hby at_56) rfl ) ?_
        refine G1 (fun _ => XS.iconst X45.here hx rfl (hb hby at_58)) ?_
        refine G1 (fun _ => XS.icmpYes X45.here hx rfl (pc0 := 59) (pc' := 66) rfl (hb hby at_59) rfl (feq (by decide : ¬ ((3 : Int32) = (1 : Int32)))).2 (by decide) (by decide)) ?_
        show Goes _ _ _ _ _ _ _ (T45.setTop (mkF m 66 _ []))
        refine G1 (fun _ => XS.iload X45.here hx rfl (hb hby at_66) rfl ) ?_
        refine G1 (fun _ => XS.iconst X45.here hx rfl (hb hby at_68)) ?_
        refine G1 (fun _ => XS.icmpYes X45.here hx rfl (pc0 := 69) (pc' := 76) rfl (hb hby at_69) rfl (feq (by decide : ¬ ((3 : Int32) = (2 : Int32)))).2 (by decide) (by decide)) ?_
        show Goes _ _ _ _ _ _ _ (T45.setTop (mkF m 76 _ []))
        refine G1 (fun _ => XS.bipush X45.here hx rfl (hb hby at_76)) ?_
        refine G1 (fun _ => XS.istore X45.here hx rfl (hb hby at_78) rfl (l' := #[.val (.int p0), .val (.int p1), .val (.int p2), .val (.int p3), .val (.int p4), .val (.int (3 : Int32)), .val (.int (0 : Int32)), .val (.int vs7), .val (.ref b29), .val (.int vq9), .val (.int (8 : Int32)), .unset, .unset, .unset, .unset, .unset]) rfl) ?_
        show Goes _ _ _ _ _ _ _ (T45.setTop (mkF m 80 _ []))
        refine G1 (fun _ => XS.iload X45.here hx rfl (hb hby at_80) rfl ) ?_
        refine G1 (fun _ => XS.ifNo X45.here hx rfl (hb hby at_82) rfl ((if0 _ _).trans (teq (by decide : (0 : Int32) = (0 : Int32))).2)) ?_
        show Goes _ _ _ _ _ _ _ (T45.setTop (mkF m 85 _ []))
        refine G1 (fun _ => XS.iconst X45.here hx rfl (hb hby at_85)) ?_
        refine G1 (fun _ => XS.goto X45.here hx rfl (pc0 := 86) (pc' := 98) rfl (hb hby at_86) (by decide) (by decide)) ?_
        show Goes _ _ _ _ _ _ _ (T45.setTop (mkF m 98 _ [(.int (0 : Int32))]))
        refine G1 (fun _ => XS.istore X45.here hx rfl (hb hby at_98) rfl (l' := #[.val (.int p0), .val (.int p1), .val (.int p2), .val (.int p3), .val (.int p4), .val (.int (3 : Int32)), .val (.int (0 : Int32)), .val (.int vs7), .val (.ref b29), .val (.int vq9), .val (.int (8 : Int32)), .val (.int (0 : Int32)), .unset, .unset, .unset, .unset]) rfl) ?_
        show Goes _ _ _ _ _ _ _ (T45.setTop (mkF m 100 _ []))
        obtain ⟨T520, h520, X520, e520, E520, A520, D520, -, st520⟩ := newO X45 hx hZ hown w_1 w_2 w_3 e45 (g := (mkF m 100 #[.val (.int p0), .val (.int p1), .val (.int p2), .val (.int p3), .val (.int p4), .val (.int (3 : Int32)), .val (.int (0 : Int32)), .val (.int vs7), .val (.ref b29), .val (.int vq9), .val (.int (8 : Int32)), .val (.int (0 : Int32)), .unset, .unset, .unset, .unset] [])) rfl (hb hby at_100) (by decide) (by decide)
        obtain ⟨b520, g520⟩ : ∃ z, z = h45.size := ⟨_, rfl⟩
        rw [← g520] at A520 D520 st520
        refine G1 st520 ?_
        have g_b520 : n0 ≤ b520 := Nat.le_trans Z49 (Nat.le_of_eq g520.symm)
        have sz_b520 : h0.size ≤ b520 := Nat.le_trans K49.1 (Nat.le_of_eq g520.symm)
        have ne521 : b29 ≠ b520 := Nat.ne_of_lt (Nat.lt_of_lt_of_le f47.lt (Nat.le_of_eq g520.symm))
        have XO522 : Old Z n0 h520 := XO46.ext E520
        have f523 := f47.ext E520
        have f524 := f48.ext E520
        have K525 : Keep h0 h520 [] := K49.ext E520
        have Z525 : n0 ≤ h520.size := Nat.le_trans Z49 E520.1
        have E_b520 := A520
        have F_most_b520 : Fld Z h520 b520 "com/example/nehaba/nehaba/input/KeptValues" "most" "I" (.int (0 : Int32)) := D520 (Or.inr w_12) (ty := .int) (by decide)
        have F_keys_b520 : Fld Z h520 b520 "com/example/nehaba/nehaba/input/KeptValues" "keys" "[Ljava/lang/Object;" .null := D520 (Or.inr w_25) (ty := (.array (.object "java/lang/Object"))) (by decide)
        have F_hashes_b520 : Fld Z h520 b520 "com/example/nehaba/nehaba/input/KeptValues" "hashes" "[I" .null := D520 (Or.inr w_27) (ty := (.array .int)) (by decide)
        have F_values_b520 : Fld Z h520 b520 "com/example/nehaba/nehaba/input/KeptValues" "values" "[Ljava/lang/Object;" .null := D520 (Or.inr w_29) (ty := (.array (.object "java/lang/Object"))) (by decide)
        have F_shift_b520 : Fld Z h520 b520 "com/example/nehaba/nehaba/input/KeptValues" "shift" "I" (.int (0 : Int32)) := D520 (Or.inr w_32) (ty := .int) (by decide)
        have F_size_b520 : Fld Z h520 b520 "com/example/nehaba/nehaba/input/KeptValues" "size" "I" (.int (0 : Int32)) := D520 (Or.inl w_64) (ty := .int) (by decide)
        show Goes _ _ _ _ _ _ _ (T520.setTop (mkF m 103 _ [(.ref b520)]))
        refine G1 (fun _ => XS.dup X520.here hx rfl (hb hby at_103) rfl rfl) ?_
        refine G1 (fun _ => XS.iload X520.here hx rfl (hb hby at_104) rfl ) ?_
        obtain ⟨_, _, ⟨T526, L526, k526, n526⟩, -, X526, ⟨Lc526, hQ526, l526, y526, z526⟩, st526⟩ := X520.specialBack hx (y := mN7) rfl hown (mvT hZ w_4) (mvT hZ w_5) (mvT hZ w_6) (by decide) (backOf (W := 1) (rm1_3 l Z a0 hw [] b520 h520 n0 Z525 F_most_b520 F_keys_b520 F_hashes_b520 F_values_b520 F_shift_b520 F_size_b520 E_b520 g_b520) hZ w_6 w_3 (by decide) (by decide)) (g := (mkF m 106 #[.val (.int p0), .val (.int p1), .val (.int p2), .val (.int p3), .val (.int p4), .val (.int (3 : Int32)), .val (.int (0 : Int32)), .val (.int vs7), .val (.ref b29), .val (.int vq9), .val (.int (8 : Int32)), .val (.int (0 : Int32)), .unset, .unset, .unset, .unset] [(.int (3 : Int32)), (.ref b520), (.ref b520)])) rfl (by rw [hml]; rfl) (Steps.refl _) (a := b520) (argsL := [(.int (3 : Int32))]) (rest := [(.ref b520)]) (lenOf pd_0 rfl) rfl (by show 2 * 0 + _ ≤ _; exact Nat.le_of_eq rfl) (hb hby at_106) (fun _ _ => ⟨rfl, e520, (by decide : 2 + 3 ≤ _), (by decide : 9 + 24 ≤ _)⟩)
        dsimp only [Pt.U, Pt.locs, Pt.cells, Pt.slots] at X526 l526 y526 z526 st526 hQ526
        rw [l526, y526, z526] at X526
        obtain ⟨N526, KK526, hR526⟩ := hQ526
        have NA526 := Fr.app N49 N526
        have XO527 : Old Z n0 T526.heap := XO522.keep KK526 (allS g_b520 all0)
        have f528 := f523.keep KK526
        have f529 := f524.keep KK526 (ninS ne521 nin0)
        have f530 := E_b520.keep KK526
        have K537 : Keep h0 T526.heap [] := K525.trans KK526 (allS (Or.inr sz_b520) all0)
        have Z537 : n0 ≤ T526.heap.size := Nat.le_trans Z525 KK526.1
        obtain ⟨r526_0_0, r526_0_1, r526_0_2, kk526_0_0, kk526_0_1, kk526_0_2, rfl, g_r526_0_0, le_r526_0_0, g_r526_0_1, le_r526_0_1, g_r526_0_2, le_r526_0_2, nn526_0_0, nn526_0_1, nn526_0_2, v526_0_0, v526_0_1, v526_0_2, v526_0_3, v526_0_4, v526_0_5, v526_0_6, v526_0_7, v526_0_8, v526_0_9, oo526_0_0, oo526_0_1⟩ := hR526
        have ne538 : b29 ≠ r526_0_0 := Nat.ne_of_lt (Nat.lt_of_lt_of_le f523.lt le_r526_0_0)
        have ne539 : b520 ≠ r526_0_0 := Nat.ne_of_lt (Nat.lt_of_lt_of_le E_b520.lt le_r526_0_0)
        have sz_r526_0_0 : h0.size ≤ r526_0_0 := Nat.le_trans K525.1 le_r526_0_0
        have ne540 : b29 ≠ r526_0_1 := Nat.ne_of_lt (Nat.lt_of_lt_of_le f523.lt le_r526_0_1)
        have ne541 : b520 ≠ r526_0_1 := Nat.ne_of_lt (Nat.lt_of_lt_of_le E_b520.lt le_r526_0_1)
        have sz_r526_0_1 : h0.size ≤ r526_0_1 := Nat.le_trans K525.1 le_r526_0_1
        have ne542 : b29 ≠ r526_0_2 := Nat.ne_of_lt (Nat.lt_of_lt_of_le f523.lt le_r526_0_2)
        have ne543 : b520 ≠ r526_0_2 := Nat.ne_of_lt (Nat.lt_of_lt_of_le E_b520.lt le_r526_0_2)
        have sz_r526_0_2 : h0.size ≤ r526_0_2 := Nat.le_trans K525.1 le_r526_0_2
        refine G2 st526 ?_
        show Goes _ _ _ _ _ _ _ (T526.setTop (mkF m 109 _ [(.ref b520)]))
        show Goes _ _ _ _ _ _ _ (T526.setTop (mkF m 109 #[.val (.int p0), .val (.int p1), .val (.int p2), .val (.int p3), .val (.int p4), .val (.int (3 : Int32)), .val (.int (0 : Int32)), .val (.int vs7), .val (.ref b29), .val (.int vq9), .val (.int (8 : Int32)), .val (.int (0 : Int32)), .unset, .unset, .unset, .unset] [(.ref b520)]))
        have hN : 8 = 2 ∨ 8 = 4 ∨ 8 = 8 := (Or.inr (Or.inr rfl))
        have hS : (8 = 2 ∧ (29 : Int32) = 31) ∨ (8 = 4 ∧ (29 : Int32) = 30) ∨ (8 = 8 ∧ (29 : Int32) = 29) := (Or.inr (Or.inr ⟨rfl, rfl⟩))
        obtain ⟨f1, hf1⟩ : ∃ z : Fin 8, z.val = (own_f p1 (29 : Int32)).toNatClampNeg := ⟨⟨_, (own_first (N := 8) p1 hS).2⟩, rfl⟩
        obtain ⟨f2, hf2⟩ : ∃ z : Fin 8, z.val = (own_f p2 (29 : Int32)).toNatClampNeg := ⟨⟨_, (own_first (N := 8) p2 hS).2⟩, rfl⟩
        obtain ⟨f3, hf3⟩ : ∃ z : Fin 8, z.val = (own_f p3 (29 : Int32)).toNatClampNeg := ⟨⟨_, (own_first (N := 8) p3 hS).2⟩, rfl⟩
        obtain ⟨f4, hf4⟩ : ∃ z : Fin 8, z.val = (own_f vq9 (29 : Int32)).toNatClampNeg := ⟨⟨_, (own_first (N := 8) vq9 hS).2⟩, rfl⟩
        have ee1 : decide (p1 = vq9) = true → f1 = f4 := fun z => Fin.ext (by rw [hf1, hf4, of_decide_eq_true z])
        have ee2 : decide (p2 = vq9) = true → f2 = f4 := fun z => Fin.ext (by rw [hf2, hf4, of_decide_eq_true z])
        have ee3 : decide (p3 = vq9) = true → f3 = f4 := fun z => Fin.ext (by rw [hf3, hf4, of_decide_eq_true z])
        show Goes _ _ _ _ _ _ _ (T526.setTop (mkF m 109 #[.val (.int p0), .val (.int p1), .val (.int p2), .val (.int p3), .val (.int p4), .val (.int (3 : Int32)), .val (.int (0 : Int32)), .val (.int vs7), .val (.ref b29), .val (.int vq9), .val (.int (8 : Int32)), .val (.int (0 : Int32)), .unset, .unset, .unset, .unset] [(.ref b520)]))
        refine G1 (fun _ => XS.astore X526.here hx rfl (hb hby at_109) rfl rfl (l' := #[.val (.int p0), .val (.int p1), .val (.int p2), .val (.int p3), .val (.int p4), .val (.int (3 : Int32)), .val (.int (0 : Int32)), .val (.int vs7), .val (.ref b29), .val (.int vq9), .val (.int (8 : Int32)), .val (.int (0 : Int32)), .val (.ref b520), .unset, .unset, .unset]) rfl) ?_
        show Goes _ _ _ _ _ _ _ (T526.setTop (mkF m 111 _ []))
        refine G1 (fun _ => XS.iload X526.here hx rfl (hb hby at_111) rfl ) ?_
        refine G1 (fun _ => XS.iconst X526.here hx rfl (hb hby at_113)) ?_
        refine G1 (fun _ => XS.icmpYes X526.here hx rfl (pc0 := 114) (pc' := 136) rfl (hb hby at_114) rfl (tlt (by decide : (0 : Int32) < (1 : Int32))).1 (by decide) (by decide)) ?_
        show Goes _ _ _ _ _ _ _ (T526.setTop (mkF m 136 _ []))
        show Goes _ _ _ _ _ _ _ (T526.setTop (mkF m 136 #[.val (.int p0), .val (.int p1), .val (.int p2), .val (.int p3), .val (.int p4), .val (.int (3 : Int32)), .val (.int (0 : Int32)), .val (.int vs7), .val (.ref b29), .val (.int vq9), .val (.int (8 : Int32)), .val (.int (0 : Int32)), .val (.ref b520), .unset, .unset, .unset] []))
        refine G1 (fun _ => XS.iload X526.here hx rfl (hb hby at_136) rfl ) ?_
        refine G1 (fun _ => XS.iconst X526.here hx rfl (hb hby at_138)) ?_
        refine G1 (fun _ => XS.icmpYes X526.here hx rfl (pc0 := 139) (pc' := 161) rfl (hb hby at_139) rfl (tlt (by decide : (0 : Int32) < (2 : Int32))).1 (by decide) (by decide)) ?_
        show Goes _ _ _ _ _ _ _ (T526.setTop (mkF m 161 _ []))
        show Goes _ _ _ _ _ _ _ (T526.setTop (mkF m 161 #[.val (.int p0), .val (.int p1), .val (.int p2), .val (.int p3), .val (.int p4), .val (.int (3 : Int32)), .val (.int (0 : Int32)), .val (.int vs7), .val (.ref b29), .val (.int vq9), .val (.int (8 : Int32)), .val (.int (0 : Int32)), .val (.ref b520), .unset, .unset, .unset] []))
        refine G1 (fun _ => XS.iload X526.here hx rfl (hb hby at_161) rfl ) ?_
        refine G1 (fun _ => XS.iconst X526.here hx rfl (hb hby at_163)) ?_
        refine G1 (fun _ => XS.icmpYes X526.here hx rfl (pc0 := 164) (pc' := 186) rfl (hb hby at_164) rfl (tlt (by decide : (0 : Int32) < (3 : Int32))).1 (by decide) (by decide)) ?_
        show Goes _ _ _ _ _ _ _ (T526.setTop (mkF m 186 _ []))
        refine G1 (fun _ => XS.iconst X526.here hx rfl (hb hby at_186)) ?_
        refine G1 (fun _ => XS.istore X526.here hx rfl (hb hby at_187) rfl (l' := #[.val (.int p0), .val (.int p1), .val (.int p2), .val (.int p3), .val (.int p4), .val (.int (3 : Int32)), .val (.int (0 : Int32)), .val (.int vs7), .val (.ref b29), .val (.int vq9), .val (.int (8 : Int32)), .val (.int (0 : Int32)), .val (.ref b520), .val (.int (0 : Int32)), .unset, .unset]) rfl) ?_
        show Goes _ _ _ _ _ _ _ (T526.setTop (mkF m 189 _ []))
        show Goes _ _ _ _ _ _ _ (T526.setTop (mkF m 189 #[.val (.int p0), .val (.int p1), .val (.int p2), .val (.int p3), .val (.int p4), .val (.int (3 : Int32)), .val (.int (0 : Int32)), .val (.int vs7), .val (.ref b29), .val (.int vq9), .val (.int (8 : Int32)), .val (.int (0 : Int32)), .val (.ref b520), .val (.int (0 : Int32)), .unset, .unset] []))
        have hsk0 : seekP own_t0 (own_e3 (decide (p1 = vq9)) (decide (p2 = vq9)) (decide (p3 = vq9))) 8 9 f4.val = some f4.val := rfl
        have hpb : own_b (own_t0 f4.val) = own_i false := rfl
        have hcn : own_b (own_t0 ((0 : Int32)).toNatClampNeg) + own_b (own_t0 ((1 : Int32)).toNatClampNeg) + own_b (own_t0 ((2 : Int32)).toNatClampNeg) + own_b (own_t0 ((3 : Int32)).toNatClampNeg) + own_b (own_t0 ((4 : Int32)).toNatClampNeg) + own_b (own_t0 ((5 : Int32)).toNatClampNeg) + own_b (own_t0 ((6 : Int32)).toNatClampNeg) + own_b (own_t0 ((7 : Int32)).toNatClampNeg) = (0 : Int32) := rfl
        have hsk : seekP own_t0 (fun j => decide (own_H p1 p2 p3 j = vq9)) 8 9 (own_f vq9 (29 : Int32)).toNatClampNeg = some f4.val := by rw [own_e3H, ← hf4]; exact hsk0
        have hH : ∀ p j, own_t0 p = some j → (fun _ => (0 : Int32)) p = own_H p1 p2 p3 j := own_hH0
        have J252 : ∀ ex : Int32, own_i false = ex → Goes p e below s room_1.cells room_1.slots (fun v h L => Q0 Z p0 p1 p2 p3 p4 ca cc h0 n0 v h L) (T526.setTop (mkF m 252 #[.val (.int p0), .val (.int p1), .val (.int p2), .val (.int p3), .val (.int p4), .val (.int (3 : Int32)), .val (.int (0 : Int32)), .val (.int vs7), .val (.ref b29), .val (.int vq9), .val (.int (8 : Int32)), .val (.int (0 : Int32)), .val (.ref b520), .val (.int ex), .unset, .unset] [])) := by
          intro ex hex
          refine G1 (fun _ => XS.aload X526.here hx rfl (hb hby at_252) rfl rfl) ?_
          refine G1 (fun _ => XS.aload X526.here hx rfl (hb hby at_254) rfl rfl) ?_
          refine G1 (fun _ => XS.iload X526.here hx rfl (hb hby at_256) rfl ) ?_
          obtain ⟨cq544, kq544, q544a, q544b, q544c⟩ := isOf hZ rfl v526_0_6
          obtain ⟨_, _, ⟨T544, L544, k544, n544⟩, -, X544, ⟨Lc544, hQ544, l544, y544, z544⟩, st544⟩ := X526.virtualBack hx (y := mN8) (z := mN8) hown (mvT hZ w_33) (mvT hZ w_34) (notFace_of_selects (args := #[]) (mvT hZ w_36)) (mvT hZ w_36) (mvT hZ w_35) (by decide) (backOf (W := 1) (rm5 l Z a0 hw [] b520 vq9 r526_0_0 r526_0_1 r526_0_2 kk526_0_0 kk526_0_1 kk526_0_2 8 own_t0 (fun _ => (0 : Int32)) (fun _ => r526_0_0) (fun _ => r526_0_0) (29 : Int32) (3 : Int32) (0 : Int32) (own_H p1 p2 p3) 9 f4.val T526.heap n0 Z537 v526_0_6 v526_0_1 v526_0_2 v526_0_3 v526_0_0 v526_0_5 v526_0_4 v526_0_7 v526_0_8 v526_0_9 hN hH hS hsk) hZ w_37 w_3 (by decide) (by decide)) q544a q544c (g := (mkF m 258 #[.val (.int p0), .val (.int p1), .val (.int p2), .val (.int p3), .val (.int p4), .val (.int (3 : Int32)), .val (.int (0 : Int32)), .val (.int vs7), .val (.ref b29), .val (.int vq9), .val (.int (8 : Int32)), .val (.int (0 : Int32)), .val (.ref b520), .val (.int ex), .unset, .unset] [(.int vq9), (.ref b520), (.ref b520)])) rfl (by rw [hml]; rfl) (Steps.refl _) (argsL := [(.int vq9)]) (rest := [(.ref b520)]) (lenOf pd_2 rfl) rfl (by show 2 * 0 + _ ≤ _; exact Nat.le_of_eq rfl) (hb hby at_258) (fun _ _ => ⟨rfl, rfl, (by decide : 5 + 0 ≤ _), (by decide : 33 + 0 ≤ _)⟩)
          dsimp only [Pt.U, Pt.locs, Pt.cells, Pt.slots] at X544 l544 y544 z544 st544 hQ544
          rw [l544, y544, z544] at X544
          obtain ⟨N544, eh544, r544, rfl, r1_544, r2_544, r3_544⟩ := hQ544
          have NA544 := Fr.app NA526 N544
          refine G2 st544 ?_
          show Goes _ _ _ _ _ _ _ (T544.setTop (mkF m 261 _ [(.int r544), (.ref b520)]))
          obtain ⟨cq545, kq545, q545a, q545b, q545c⟩ := isOf hZ eh544 v526_0_6
          obtain ⟨_, _, ⟨T545, L545, k545, n545⟩, -, X545, ⟨Lc545, hQ545, l545, y545, z545⟩, st545⟩ := X544.virtualBack hx (y := mN6) (z := mN6) hown (mvT hZ w_47) (mvT hZ w_48) (notFace_of_selects (args := #[]) (mvT hZ w_50)) (mvT hZ w_50) (mvT hZ w_49) (by decide) (backOf (W := 0) (rm8 l Z a0 hw [] b520 r544 r526_0_0 r526_0_1 r526_0_2 kk526_0_0 kk526_0_1 kk526_0_2 8 own_t0 (fun _ => (0 : Int32)) (fun _ => r526_0_0) (fun _ => r526_0_0) (29 : Int32) (3 : Int32) (0 : Int32) T526.heap n0 Z537 v526_0_6 v526_0_1 v526_0_2 v526_0_3 v526_0_0 v526_0_5 v526_0_4 v526_0_7 v526_0_8 v526_0_9 r1_544 r3_544) hZ w_51 w_3 (by decide) (by decide)) q545a q545c (g := (mkF m 261 #[.val (.int p0), .val (.int p1), .val (.int p2), .val (.int p3), .val (.int p4), .val (.int (3 : Int32)), .val (.int (0 : Int32)), .val (.int vs7), .val (.ref b29), .val (.int vq9), .val (.int (8 : Int32)), .val (.int (0 : Int32)), .val (.ref b520), .val (.int ex), .unset, .unset] [(.int r544), (.ref b520)])) rfl (by rw [hml]; rfl) (Steps.refl _) (argsL := [(.int r544)]) (rest := []) (lenOf pd_4 rfl) rfl (by show 2 * 0 + _ ≤ _; exact Nat.le_of_eq rfl) (hb hby at_261) (fun _ _ => ⟨rfl, eh544, (by decide : 5 + 0 ≤ _), (by decide : 33 + 0 ≤ _)⟩)
          dsimp only [Pt.U, Pt.locs, Pt.cells, Pt.slots] at X545 l545 y545 z545 st545 hQ545
          rw [l545, y545, z545] at X545
          obtain ⟨N545, eh545, hv545⟩ := hQ545
          have NA545 := Fr.app NA544 N545
          subst hv545
          refine G2 st545 ?_
          show Goes _ _ _ _ _ _ _ (T545.setTop (mkF m 264 _ [(.int (own_b (own_t0 (r544).toNatClampNeg)))]))
          refine G1 (fun _ => XS.istore X545.here hx rfl (hb hby at_264) rfl (l' := #[.val (.int p0), .val (.int p1), .val (.int p2), .val (.int p3), .val (.int p4), .val (.int (3 : Int32)), .val (.int (0 : Int32)), .val (.int vs7), .val (.ref b29), .val (.int vq9), .val (.int (8 : Int32)), .val (.int (0 : Int32)), .val (.ref b520), .val (.int ex), .val (.int (own_b (own_t0 (r544).toNatClampNeg))), .unset]) rfl) ?_
          show Goes _ _ _ _ _ _ _ (T545.setTop (mkF m 266 _ []))
          show Goes _ _ _ _ _ _ _ (T545.setTop (mkF m 266 #[.val (.int p0), .val (.int p1), .val (.int p2), .val (.int p3), .val (.int p4), .val (.int (3 : Int32)), .val (.int (0 : Int32)), .val (.int vs7), .val (.ref b29), .val (.int vq9), .val (.int (8 : Int32)), .val (.int (0 : Int32)), .val (.ref b520), .val (.int ex), .val (.int (own_b (own_t0 (r544).toNatClampNeg))), .unset] []))
          have hfx : (own_b (own_t0 (r544).toNatClampNeg)) = ex := by rw [r2_544]; exact hpb.trans hex
          rw [hfx]
          exact J266_8 _ _ _ _ _ ex _ _ r526_0_0 r526_0_1 r526_0_2 kk526_0_0 kk526_0_1 kk526_0_2 own_t0 (fun _ => (0 : Int32)) (fun _ => r526_0_0) (fun _ => r526_0_0) (0 : Int32) T526.heap _ _ X545 eh545 NA545 Z537 v526_0_6 v526_0_1 v526_0_2 v526_0_3 v526_0_0 v526_0_5 v526_0_4 v526_0_7 v526_0_8 v526_0_9 hcn
        show Goes _ _ _ _ _ _ _ (T526.setTop (mkF m 189 #[.val (.int p0), .val (.int p1), .val (.int p2), .val (.int p3), .val (.int p4), .val (.int (3 : Int32)), .val (.int (0 : Int32)), .val (.int vs7), .val (.ref b29), .val (.int vq9), .val (.int (8 : Int32)), .val (.int (0 : Int32)), .val (.ref b520), .val (.int (0 : Int32)), .unset, .unset] []))
        refine G1 (fun _ => XS.iload X526.here hx rfl (hb hby at_189) rfl ) ?_
        refine G1 (fun _ => XS.iconst X526.here hx rfl (hb hby at_191)) ?_
        refine G1 (fun _ => XS.icmpYes X526.here hx rfl (pc0 := 192) (pc' := 210) rfl (hb hby at_192) rfl (tlt (by decide : (0 : Int32) < (1 : Int32))).1 (by decide) (by decide)) ?_
        show Goes _ _ _ _ _ _ _ (T526.setTop (mkF m 210 _ []))
        refine G1 (fun _ => XS.iload X526.here hx rfl (hb hby at_210) rfl ) ?_
        refine G1 (fun _ => XS.iconst X526.here hx rfl (hb hby at_212)) ?_
        refine G1 (fun _ => XS.icmpYes X526.here hx rfl (pc0 := 213) (pc' := 231) rfl (hb hby at_213) rfl (tlt (by decide : (0 : Int32) < (2 : Int32))).1 (by decide) (by decide)) ?_
        show Goes _ _ _ _ _ _ _ (T526.setTop (mkF m 231 _ []))
        refine G1 (fun _ => XS.iload X526.here hx rfl (hb hby at_231) rfl ) ?_
        refine G1 (fun _ => XS.iconst X526.here hx rfl (hb hby at_233)) ?_
        refine G1 (fun _ => XS.icmpYes X526.here hx rfl (pc0 := 234) (pc' := 252) rfl (hb hby at_234) rfl (tlt (by decide : (0 : Int32) < (3 : Int32))).1 (by decide) (by decide)) ?_
        show Goes _ _ _ _ _ _ _ (T526.setTop (mkF m 252 _ []))
        show Goes _ _ _ _ _ _ _ (T526.setTop (mkF m 252 #[.val (.int p0), .val (.int p1), .val (.int p2), .val (.int p3), .val (.int p4), .val (.int (3 : Int32)), .val (.int (0 : Int32)), .val (.int vs7), .val (.ref b29), .val (.int vq9), .val (.int (8 : Int32)), .val (.int (0 : Int32)), .val (.ref b520), .val (.int (0 : Int32)), .unset, .unset] []))
        exact J252 _ rfl
      · show Goes _ _ _ _ _ _ _ (T45.setTop (mkF m 56 #[.val (.int p0), .val (.int p1), .val (.int p2), .val (.int p3), .val (.int p4), .val (.int (3 : Int32)), .val (.int vn6), .val (.int vs7), .val (.ref b29), .val (.int vq9), .unset, .unset, .unset, .unset, .unset, .unset] []))
        refine G1 (fun _ => XS.iload X45.here hx rfl (hb hby at_56) rfl ) ?_
        refine G1 (fun _ => XS.iconst X45.here hx rfl (hb hby at_58)) ?_
        refine G1 (fun _ => XS.icmpYes X45.here hx rfl (pc0 := 59) (pc' := 66) rfl (hb hby at_59) rfl (feq (by decide : ¬ ((3 : Int32) = (1 : Int32)))).2 (by decide) (by decide)) ?_
        show Goes _ _ _ _ _ _ _ (T45.setTop (mkF m 66 _ []))
        refine G1 (fun _ => XS.iload X45.here hx rfl (hb hby at_66) rfl ) ?_
        refine G1 (fun _ => XS.iconst X45.here hx rfl (hb hby at_68)) ?_
        refine G1 (fun _ => XS.icmpYes X45.here hx rfl (pc0 := 69) (pc' := 76) rfl (hb hby at_69) rfl (feq (by decide : ¬ ((3 : Int32) = (2 : Int32)))).2 (by decide) (by decide)) ?_
        show Goes _ _ _ _ _ _ _ (T45.setTop (mkF m 76 _ []))
        refine G1 (fun _ => XS.bipush X45.here hx rfl (hb hby at_76)) ?_
        refine G1 (fun _ => XS.istore X45.here hx rfl (hb hby at_78) rfl (l' := #[.val (.int p0), .val (.int p1), .val (.int p2), .val (.int p3), .val (.int p4), .val (.int (3 : Int32)), .val (.int vn6), .val (.int vs7), .val (.ref b29), .val (.int vq9), .val (.int (8 : Int32)), .unset, .unset, .unset, .unset, .unset]) rfl) ?_
        show Goes _ _ _ _ _ _ _ (T45.setTop (mkF m 80 _ []))
        refine G1 (fun _ => XS.iload X45.here hx rfl (hb hby at_80) rfl ) ?_
        refine G1 (fun _ => XS.ifYes X45.here hx rfl (pc0 := 82) (pc' := 89) rfl (hb hby at_82) rfl ((if0 _ _).trans (feq (own_nA hnA).1).2) (by decide) (by decide)) ?_
        show Goes _ _ _ _ _ _ _ (T45.setTop (mkF m 89 _ []))
        refine G1 (fun _ => XS.iload X45.here hx rfl (hb hby at_89) rfl ) ?_
        refine G1 (fun _ => XS.iconst X45.here hx rfl (hb hby at_91)) ?_
        refine G1 (fun _ => XS.isub X45.here hx rfl (hb hby at_92) rfl) ?_
        show Goes _ _ _ _ _ _ _ (T45.setTop (mkF m 93 _ [(.int (vn6 - (1 : Int32)))]))
        refine G1 (fun _ => XS.iload X45.here hx rfl (hb hby at_93) rfl ) ?_
        refine G1 (fun _ => iremM X45 hx rfl (hb hby at_95) rfl (by decide)) ?_
        show Goes _ _ _ _ _ _ _ (T45.setTop (mkF m 96 _ [(.int ((vn6 - (1 : Int32)) % (3 : Int32)))]))
        refine G1 (fun _ => XS.iconst X45.here hx rfl (hb hby at_96)) ?_
        refine G1 (fun _ => XS.iadd X45.here hx rfl (hb hby at_97) rfl) ?_
        show Goes _ _ _ _ _ _ _ (T45.setTop (mkF m 98 _ [(.int (((vn6 - (1 : Int32)) % (3 : Int32)) + (1 : Int32)))]))
        refine G1 (fun _ => XS.istore X45.here hx rfl (hb hby at_98) rfl (l' := #[.val (.int p0), .val (.int p1), .val (.int p2), .val (.int p3), .val (.int p4), .val (.int (3 : Int32)), .val (.int vn6), .val (.int vs7), .val (.ref b29), .val (.int vq9), .val (.int (8 : Int32)), .val (.int (((vn6 - (1 : Int32)) % (3 : Int32)) + (1 : Int32))), .unset, .unset, .unset, .unset]) rfl) ?_
        show Goes _ _ _ _ _ _ _ (T45.setTop (mkF m 100 _ []))
        obtain ⟨T546, h546, X546, e546, E546, A546, D546, -, st546⟩ := newO X45 hx hZ hown w_1 w_2 w_3 e45 (g := (mkF m 100 #[.val (.int p0), .val (.int p1), .val (.int p2), .val (.int p3), .val (.int p4), .val (.int (3 : Int32)), .val (.int vn6), .val (.int vs7), .val (.ref b29), .val (.int vq9), .val (.int (8 : Int32)), .val (.int (((vn6 - (1 : Int32)) % (3 : Int32)) + (1 : Int32))), .unset, .unset, .unset, .unset] [])) rfl (hb hby at_100) (by decide) (by decide)
        obtain ⟨b546, g546⟩ : ∃ z, z = h45.size := ⟨_, rfl⟩
        rw [← g546] at A546 D546 st546
        refine G1 st546 ?_
        have g_b546 : n0 ≤ b546 := Nat.le_trans Z49 (Nat.le_of_eq g546.symm)
        have sz_b546 : h0.size ≤ b546 := Nat.le_trans K49.1 (Nat.le_of_eq g546.symm)
        have ne547 : b29 ≠ b546 := Nat.ne_of_lt (Nat.lt_of_lt_of_le f47.lt (Nat.le_of_eq g546.symm))
        have XO548 : Old Z n0 h546 := XO46.ext E546
        have f549 := f47.ext E546
        have f550 := f48.ext E546
        have K551 : Keep h0 h546 [] := K49.ext E546
        have Z551 : n0 ≤ h546.size := Nat.le_trans Z49 E546.1
        have E_b546 := A546
        have F_most_b546 : Fld Z h546 b546 "com/example/nehaba/nehaba/input/KeptValues" "most" "I" (.int (0 : Int32)) := D546 (Or.inr w_12) (ty := .int) (by decide)
        have F_keys_b546 : Fld Z h546 b546 "com/example/nehaba/nehaba/input/KeptValues" "keys" "[Ljava/lang/Object;" .null := D546 (Or.inr w_25) (ty := (.array (.object "java/lang/Object"))) (by decide)
        have F_hashes_b546 : Fld Z h546 b546 "com/example/nehaba/nehaba/input/KeptValues" "hashes" "[I" .null := D546 (Or.inr w_27) (ty := (.array .int)) (by decide)
        have F_values_b546 : Fld Z h546 b546 "com/example/nehaba/nehaba/input/KeptValues" "values" "[Ljava/lang/Object;" .null := D546 (Or.inr w_29) (ty := (.array (.object "java/lang/Object"))) (by decide)
        have F_shift_b546 : Fld Z h546 b546 "com/example/nehaba/nehaba/input/KeptValues" "shift" "I" (.int (0 : Int32)) := D546 (Or.inr w_32) (ty := .int) (by decide)
        have F_size_b546 : Fld Z h546 b546 "com/example/nehaba/nehaba/input/KeptValues" "size" "I" (.int (0 : Int32)) := D546 (Or.inl w_64) (ty := .int) (by decide)
        show Goes _ _ _ _ _ _ _ (T546.setTop (mkF m 103 _ [(.ref b546)]))
        refine G1 (fun _ => XS.dup X546.here hx rfl (hb hby at_103) rfl rfl) ?_
        refine G1 (fun _ => XS.iload X546.here hx rfl (hb hby at_104) rfl ) ?_
        obtain ⟨_, _, ⟨T552, L552, k552, n552⟩, -, X552, ⟨Lc552, hQ552, l552, y552, z552⟩, st552⟩ := X546.specialBack hx (y := mN7) rfl hown (mvT hZ w_4) (mvT hZ w_5) (mvT hZ w_6) (by decide) (backOf (W := 1) (rm1_3 l Z a0 hw [] b546 h546 n0 Z551 F_most_b546 F_keys_b546 F_hashes_b546 F_values_b546 F_shift_b546 F_size_b546 E_b546 g_b546) hZ w_6 w_3 (by decide) (by decide)) (g := (mkF m 106 #[.val (.int p0), .val (.int p1), .val (.int p2), .val (.int p3), .val (.int p4), .val (.int (3 : Int32)), .val (.int vn6), .val (.int vs7), .val (.ref b29), .val (.int vq9), .val (.int (8 : Int32)), .val (.int (((vn6 - (1 : Int32)) % (3 : Int32)) + (1 : Int32))), .unset, .unset, .unset, .unset] [(.int (3 : Int32)), (.ref b546), (.ref b546)])) rfl (by rw [hml]; rfl) (Steps.refl _) (a := b546) (argsL := [(.int (3 : Int32))]) (rest := [(.ref b546)]) (lenOf pd_0 rfl) rfl (by show 2 * 0 + _ ≤ _; exact Nat.le_of_eq rfl) (hb hby at_106) (fun _ _ => ⟨rfl, e546, (by decide : 2 + 3 ≤ _), (by decide : 9 + 24 ≤ _)⟩)
        dsimp only [Pt.U, Pt.locs, Pt.cells, Pt.slots] at X552 l552 y552 z552 st552 hQ552
        rw [l552, y552, z552] at X552
        obtain ⟨N552, KK552, hR552⟩ := hQ552
        have NA552 := Fr.app N49 N552
        have XO553 : Old Z n0 T552.heap := XO548.keep KK552 (allS g_b546 all0)
        have f554 := f549.keep KK552
        have f555 := f550.keep KK552 (ninS ne547 nin0)
        have f556 := E_b546.keep KK552
        have K563 : Keep h0 T552.heap [] := K551.trans KK552 (allS (Or.inr sz_b546) all0)
        have Z563 : n0 ≤ T552.heap.size := Nat.le_trans Z551 KK552.1
        obtain ⟨r552_0_0, r552_0_1, r552_0_2, kk552_0_0, kk552_0_1, kk552_0_2, rfl, g_r552_0_0, le_r552_0_0, g_r552_0_1, le_r552_0_1, g_r552_0_2, le_r552_0_2, nn552_0_0, nn552_0_1, nn552_0_2, v552_0_0, v552_0_1, v552_0_2, v552_0_3, v552_0_4, v552_0_5, v552_0_6, v552_0_7, v552_0_8, v552_0_9, oo552_0_0, oo552_0_1⟩ := hR552
        have ne564 : b29 ≠ r552_0_0 := Nat.ne_of_lt (Nat.lt_of_lt_of_le f549.lt le_r552_0_0)
        have ne565 : b546 ≠ r552_0_0 := Nat.ne_of_lt (Nat.lt_of_lt_of_le E_b546.lt le_r552_0_0)
        have sz_r552_0_0 : h0.size ≤ r552_0_0 := Nat.le_trans K551.1 le_r552_0_0
        have ne566 : b29 ≠ r552_0_1 := Nat.ne_of_lt (Nat.lt_of_lt_of_le f549.lt le_r552_0_1)
        have ne567 : b546 ≠ r552_0_1 := Nat.ne_of_lt (Nat.lt_of_lt_of_le E_b546.lt le_r552_0_1)
        have sz_r552_0_1 : h0.size ≤ r552_0_1 := Nat.le_trans K551.1 le_r552_0_1
        have ne568 : b29 ≠ r552_0_2 := Nat.ne_of_lt (Nat.lt_of_lt_of_le f549.lt le_r552_0_2)
        have ne569 : b546 ≠ r552_0_2 := Nat.ne_of_lt (Nat.lt_of_lt_of_le E_b546.lt le_r552_0_2)
        have sz_r552_0_2 : h0.size ≤ r552_0_2 := Nat.le_trans K551.1 le_r552_0_2
        refine G2 st552 ?_
        show Goes _ _ _ _ _ _ _ (T552.setTop (mkF m 109 _ [(.ref b546)]))
        show Goes _ _ _ _ _ _ _ (T552.setTop (mkF m 109 #[.val (.int p0), .val (.int p1), .val (.int p2), .val (.int p3), .val (.int p4), .val (.int (3 : Int32)), .val (.int vn6), .val (.int vs7), .val (.ref b29), .val (.int vq9), .val (.int (8 : Int32)), .val (.int (((vn6 - (1 : Int32)) % (3 : Int32)) + (1 : Int32))), .unset, .unset, .unset, .unset] [(.ref b546)]))
        have hN : 8 = 2 ∨ 8 = 4 ∨ 8 = 8 := (Or.inr (Or.inr rfl))
        have hS : (8 = 2 ∧ (29 : Int32) = 31) ∨ (8 = 4 ∧ (29 : Int32) = 30) ∨ (8 = 8 ∧ (29 : Int32) = 29) := (Or.inr (Or.inr ⟨rfl, rfl⟩))
        obtain ⟨f1, hf1⟩ : ∃ z : Fin 8, z.val = (own_f p1 (29 : Int32)).toNatClampNeg := ⟨⟨_, (own_first (N := 8) p1 hS).2⟩, rfl⟩
        obtain ⟨f2, hf2⟩ : ∃ z : Fin 8, z.val = (own_f p2 (29 : Int32)).toNatClampNeg := ⟨⟨_, (own_first (N := 8) p2 hS).2⟩, rfl⟩
        obtain ⟨f3, hf3⟩ : ∃ z : Fin 8, z.val = (own_f p3 (29 : Int32)).toNatClampNeg := ⟨⟨_, (own_first (N := 8) p3 hS).2⟩, rfl⟩
        obtain ⟨f4, hf4⟩ : ∃ z : Fin 8, z.val = (own_f vq9 (29 : Int32)).toNatClampNeg := ⟨⟨_, (own_first (N := 8) vq9 hS).2⟩, rfl⟩
        have ee1 : decide (p1 = vq9) = true → f1 = f4 := fun z => Fin.ext (by rw [hf1, hf4, of_decide_eq_true z])
        have ee2 : decide (p2 = vq9) = true → f2 = f4 := fun z => Fin.ext (by rw [hf2, hf4, of_decide_eq_true z])
        have ee3 : decide (p3 = vq9) = true → f3 = f4 := fun z => Fin.ext (by rw [hf3, hf4, of_decide_eq_true z])
        show Goes _ _ _ _ _ _ _ (T552.setTop (mkF m 109 #[.val (.int p0), .val (.int p1), .val (.int p2), .val (.int p3), .val (.int p4), .val (.int (3 : Int32)), .val (.int vn6), .val (.int vs7), .val (.ref b29), .val (.int vq9), .val (.int (8 : Int32)), .val (.int (((vn6 - (1 : Int32)) % (3 : Int32)) + (1 : Int32))), .unset, .unset, .unset, .unset] [(.ref b546)]))
        refine G1 (fun _ => XS.astore X552.here hx rfl (hb hby at_109) rfl rfl (l' := #[.val (.int p0), .val (.int p1), .val (.int p2), .val (.int p3), .val (.int p4), .val (.int (3 : Int32)), .val (.int vn6), .val (.int vs7), .val (.ref b29), .val (.int vq9), .val (.int (8 : Int32)), .val (.int (((vn6 - (1 : Int32)) % (3 : Int32)) + (1 : Int32))), .val (.ref b546), .unset, .unset, .unset]) rfl) ?_
        show Goes _ _ _ _ _ _ _ (T552.setTop (mkF m 111 _ []))
        refine G1 (fun _ => XS.iload X552.here hx rfl (hb hby at_111) rfl ) ?_
        refine G1 (fun _ => XS.iconst X552.here hx rfl (hb hby at_113)) ?_
        refine G1 (fun _ => XS.icmpNo X552.here hx rfl (hb hby at_114) rfl (flt (own_nA hnA).2).1) ?_
        show Goes _ _ _ _ _ _ _ (T552.setTop (mkF m 117 _ []))
        refine G1 (fun _ => XS.aload X552.here hx rfl (hb hby at_117) rfl rfl) ?_
        refine G1 (fun _ => XS.aload X552.here hx rfl (hb hby at_119) rfl rfl) ?_
        refine G1 (fun _ => XS.iconst X552.here hx rfl (hb hby at_121)) ?_
        obtain ⟨cl570, Ar570, q570, S570, P570, H570, G570⟩ := id f555
        have hin570 : ¬ ((0 : Int32) < 0 ∨ cl570.slots.size ≤ ((0 : Int32)).toNatClampNeg) := inb_of S570 ⟨by decide, by decide⟩
        have hat570 : cl570.slots[((0 : Int32)).toNatClampNeg]? = some (.int p1) := H570 _ (by rw [S570]; decide)
        refine G1 (fun _ => X552.iaload hx (j := (0 : Int32)) (v := (.int p1)) (by exact Ar570.1) (State.isArrayOf_alike hZ.alike Ar570.2.1) Ar570.2.2 hin570 hat570 (g := (mkF m 122 #[.val (.int p0), .val (.int p1), .val (.int p2), .val (.int p3), .val (.int p4), .val (.int (3 : Int32)), .val (.int vn6), .val (.int vs7), .val (.ref b29), .val (.int vq9), .val (.int (8 : Int32)), .val (.int (((vn6 - (1 : Int32)) % (3 : Int32)) + (1 : Int32))), .val (.ref b546), .unset, .unset, .unset] [(.int (0 : Int32)), (.ref b29), (.ref b546)])) rfl rfl (hb hby at_122) _) ?_
        show Goes _ _ _ _ _ _ _ (T552.setTop (mkF m 123 _ [(.int p1), (.ref b546)]))
        refine G1 (fun _ => XS.iconst X552.here hx rfl (hb hby at_123)) ?_
        obtain ⟨_, _, ⟨T571, L571, k571, n571⟩, -, X571, ⟨Lc571, hQ571, l571, y571, z571⟩, st571⟩ := Jvm.LawKit.callS X552 hx (y := mN9) hown (mvT hZ w_52) (mvT hZ w_53) (mvT hZ w_15) (mvT hZ w_54) (by decide) (backOf (W := 2) (rm9 l Z a0 hw [] (0 : Int32) ca cc T552.heap n0 Z563 (S_high.ext XO553.2) (S_cache.ext XO553.2) BX XO553 (by decide) (by decide)) hZ w_54 w_15 (by decide) (by decide)) (g := (mkF m 124 #[.val (.int p0), .val (.int p1), .val (.int p2), .val (.int p3), .val (.int p4), .val (.int (3 : Int32)), .val (.int vn6), .val (.int vs7), .val (.ref b29), .val (.int vq9), .val (.int (8 : Int32)), .val (.int (((vn6 - (1 : Int32)) % (3 : Int32)) + (1 : Int32))), .val (.ref b546), .unset, .unset, .unset] [(.int (0 : Int32)), (.int p1), (.ref b546)])) rfl (by rw [hml]; rfl) (argsL := [(.int (0 : Int32))]) (rest := [(.int p1), (.ref b546)]) (lenOf pd_5 rfl) rfl (by show 2 * 0 + _ ≤ _; exact Nat.le_of_eq rfl) (hb hby at_124) (fun _ _ => ⟨rfl, rfl, (by decide : 5 + 0 ≤ _), (by decide : 33 + 0 ≤ _)⟩)
        dsimp only [Pt.U, Pt.locs, Pt.cells, Pt.slots] at X571 l571 y571 z571 st571 hQ571
        rw [l571, y571, z571] at X571
        obtain ⟨N571, KK571, r571, rfl, ex571⟩ := hQ571
        have NA571 := Fr.app NA552 N571
        have XO572 : Old Z n0 T571.heap := XO553.keep KK571 all0
        have f573 := f554.keep KK571
        have f574 := f555.keep KK571 nin0
        have f575 := v552_0_6.keep KK571
        have f576 := v552_0_0.keep KK571 nin0
        have f577 := v552_0_1.keep KK571 nin0
        have f578 := v552_0_2.keep KK571 nin0
        have f579 := v552_0_3.keep KK571 nin0
        have f580 := v552_0_4.keep KK571 nin0
        have f581 := v552_0_5.keep KK571 nin0
        have f582 := v552_0_7.keep KK571 nin0
        have f583 := v552_0_8.keep KK571 nin0
        have f584 := v552_0_9.keep KK571 nin0
        have K585 : Keep h0 T571.heap [] := K563.trans KK571 all0
        have Z585 : n0 ≤ T571.heap.size := Nat.le_trans Z563 KK571.1
        refine G1 st571 ?_
        show Goes _ _ _ _ _ _ _ (T571.setTop (mkF m 127 _ [(.ref r571), (.int p1), (.ref b546)]))
        refine G1 (fun _ => XS.bipush X571.here hx rfl (hb hby at_127)) ?_
        obtain ⟨_, _, ⟨T586, L586, k586, n586⟩, -, X586, ⟨Lc586, hQ586, l586, y586, z586⟩, st586⟩ := Jvm.LawKit.callS X571 hx (y := mN9) hown (mvT hZ w_52) (mvT hZ w_53) (mvT hZ w_15) (mvT hZ w_54) (by decide) (backOf (W := 3) (rm9 l Z a0 hw [] (10 : Int32) ca cc T571.heap n0 Z585 (S_high.ext XO572.2) (S_cache.ext XO572.2) BX XO572 (by decide) (by decide)) hZ w_54 w_15 (by decide) (by decide)) (g := (mkF m 129 #[.val (.int p0), .val (.int p1), .val (.int p2), .val (.int p3), .val (.int p4), .val (.int (3 : Int32)), .val (.int vn6), .val (.int vs7), .val (.ref b29), .val (.int vq9), .val (.int (8 : Int32)), .val (.int (((vn6 - (1 : Int32)) % (3 : Int32)) + (1 : Int32))), .val (.ref b546), .unset, .unset, .unset] [(.int (10 : Int32)), (.ref r571), (.int p1), (.ref b546)])) rfl (by rw [hml]; rfl) (argsL := [(.int (10 : Int32))]) (rest := [(.ref r571), (.int p1), (.ref b546)]) (lenOf pd_5 rfl) rfl (by show 2 * 0 + _ ≤ _; exact Nat.le_of_eq rfl) (hb hby at_129) (fun _ _ => ⟨rfl, rfl, (by decide : 5 + 0 ≤ _), (by decide : 33 + 0 ≤ _)⟩)
        dsimp only [Pt.U, Pt.locs, Pt.cells, Pt.slots] at X586 l586 y586 z586 st586 hQ586
        rw [l586, y586, z586] at X586
        obtain ⟨N586, KK586, r586, rfl, ex586⟩ := hQ586
        have NA586 := Fr.app NA571 N586
        have XO587 : Old Z n0 T586.heap := XO572.keep KK586 all0
        have f588 := f573.keep KK586
        have f589 := f574.keep KK586 nin0
        have f590 := f575.keep KK586
        have f591 := f576.keep KK586 nin0
        have f592 := f577.keep KK586 nin0
        have f593 := f578.keep KK586 nin0
        have f594 := f579.keep KK586 nin0
        have f595 := f580.keep KK586 nin0
        have f596 := f581.keep KK586 nin0
        have f597 := f582.keep KK586 nin0
        have f598 := f583.keep KK586 nin0
        have f599 := f584.keep KK586 nin0
        have f600 := ex571.keep KK586
        have K601 : Keep h0 T586.heap [] := K585.trans KK586 all0
        have Z601 : n0 ≤ T586.heap.size := Nat.le_trans Z585 KK586.1
        refine G1 st586 ?_
        show Goes _ _ _ _ _ _ _ (T586.setTop (mkF m 132 _ [(.ref r586), (.ref r571), (.int p1), (.ref b546)]))
        have rc602 : ArF Z T586.heap r552_0_0 kk552_0_0 (.object "java/lang/Object") 8 (fun j => rfv (own_K r571 r571 r571) (own_t0 j)) := f597.congr (fun _ _ => rfl)
        have rc603 : ArF Z T586.heap r552_0_2 kk552_0_2 (.object "java/lang/Object") 8 (fun j => rfv (own_K r586 r586 r586) (own_t0 j)) := f599.congr (fun _ _ => rfl)
        obtain ⟨cq604, kq604, q604a, q604b, q604c⟩ := isOf hZ rfl f590
        obtain ⟨_, _, ⟨T604, L604, k604, n604⟩, -, X604, ⟨Lc604, hQ604, l604, y604, z604⟩, st604⟩ := X586.virtualBack hx (y := mN10) (z := mN10) hown (mvT hZ w_58) (mvT hZ w_59) (notFace_of_selects (args := #[]) (mvT hZ w_61)) (mvT hZ w_61) (mvT hZ w_60) (by decide) (backOf (W := 0) (rm10_n l Z a0 hw [] b546 p1 r571 r586 r552_0_0 r552_0_1 r552_0_2 kk552_0_0 kk552_0_1 kk552_0_2 8 own_t0 (fun _ => (0 : Int32)) (own_K r571 r571 r571) (own_K r586 r586 r586) (29 : Int32) (3 : Int32) (0 : Int32) 0 9 f1.val T586.heap n0 Z601 f590 f592 f593 f594 f591 f596 f595 rc602 f598 rc603 oo552_0_0 oo552_0_1 (Ins.of_exa f600 w_65) (Ins.of_exa ex586 w_65) rfl rfl g_b546 g_r552_0_0 g_r552_0_1 g_r552_0_2 (Ne.symm ne565) (Ne.symm ne567) nn552_0_0 (Ne.symm ne569) nn552_0_1 nn552_0_2 (by decide) hN hS (by rw [← hf1]; exact rfl)) hZ w_62 w_3 (by decide) (by decide)) q604a q604c (g := (mkF m 132 #[.val (.int p0), .val (.int p1), .val (.int p2), .val (.int p3), .val (.int p4), .val (.int (3 : Int32)), .val (.int vn6), .val (.int vs7), .val (.ref b29), .val (.int vq9), .val (.int (8 : Int32)), .val (.int (((vn6 - (1 : Int32)) % (3 : Int32)) + (1 : Int32))), .val (.ref b546), .unset, .unset, .unset] [(.ref r586), (.ref r571), (.int p1), (.ref b546)])) rfl (by rw [hml]; rfl) (Steps.refl _) (argsL := [(.int p1), (.ref r571), (.ref r586)]) (rest := []) (lenOf pd_6 rfl) rfl (by show 2 * 0 + _ ≤ _; exact Nat.le_of_eq rfl) (hb hby at_132) (fun _ _ => ⟨rfl, rfl, (by decide : 5 + 0 ≤ _), (by decide : 33 + 0 ≤ _)⟩)
        dsimp only [Pt.U, Pt.locs, Pt.cells, Pt.slots] at X604 l604 y604 z604 st604 hQ604
        rw [l604, y604, z604] at X604
        obtain ⟨N604, KK604, rfl, pf604_0, pf604_1, pf604_2, pf604_3, pf604_4, pf604_5, pf604_6, pf604_7, pf604_8, pf604_9⟩ := hQ604
        have NA604 := Fr.app NA586 N604
        have XO605 : Old Z n0 T604.heap := XO587.keep KK604 (allS g_b546 (allS g_r552_0_0 (allS g_r552_0_1 (allS g_r552_0_2 all0))))
        have f606 := f588.keep KK604
        have f607 := f589.keep KK604 (ninS ne547 (ninS ne564 (ninS ne566 (ninS ne568 nin0))))
        have f608 := f590.keep KK604
        have f618 := f600.keep KK604
        have f619 := ex586.keep KK604
        have K620 : Keep h0 T604.heap [] := K601.trans KK604 (allS (Or.inr sz_b546) (allS (Or.inr sz_r552_0_0) (allS (Or.inr sz_r552_0_1) (allS (Or.inr sz_r552_0_2) all0))))
        have Z620 : n0 ≤ T604.heap.size := Nat.le_trans Z601 KK604.1
        refine G2 st604 ?_
        show Goes _ _ _ _ _ _ _ (T604.setTop (mkF m 135 _ [(.ref r586)]))
        refine G1 (fun _ => XS.pop X604.here hx rfl (hb hby at_135) rfl rfl) ?_
        show Goes _ _ _ _ _ _ _ (T604.setTop (mkF m 136 _ []))
        show Goes _ _ _ _ _ _ _ (T604.setTop (mkF m 136 #[.val (.int p0), .val (.int p1), .val (.int p2), .val (.int p3), .val (.int p4), .val (.int (3 : Int32)), .val (.int vn6), .val (.int vs7), .val (.ref b29), .val (.int vq9), .val (.int (8 : Int32)), .val (.int (((vn6 - (1 : Int32)) % (3 : Int32)) + (1 : Int32))), .val (.ref b546), .unset, .unset, .unset] []))
        rcases hnA with rfl | hnB
        · show Goes _ _ _ _ _ _ _ (T604.setTop (mkF m 136 #[.val (.int p0), .val (.int p1), .val (.int p2), .val (.int p3), .val (.int p4), .val (.int (3 : Int32)), .val (.int (1 : Int32)), .val (.int vs7), .val (.ref b29), .val (.int vq9), .val (.int (8 : Int32)), .val (.int (1 : Int32)), .val (.ref b546), .unset, .unset, .unset] []))
          refine G1 (fun _ => XS.iload X604.here hx rfl (hb hby at_136) rfl ) ?_
          refine G1 (fun _ => XS.iconst X604.here hx rfl (hb hby at_138)) ?_
          refine G1 (fun _ => XS.icmpYes X604.here hx rfl (pc0 := 139) (pc' := 161) rfl (hb hby at_139) rfl (tlt (by decide : (1 : Int32) < (2 : Int32))).1 (by decide) (by decide)) ?_
          show Goes _ _ _ _ _ _ _ (T604.setTop (mkF m 161 _ []))
          show Goes _ _ _ _ _ _ _ (T604.setTop (mkF m 161 #[.val (.int p0), .val (.int p1), .val (.int p2), .val (.int p3), .val (.int p4), .val (.int (3 : Int32)), .val (.int (1 : Int32)), .val (.int vs7), .val (.ref b29), .val (.int vq9), .val (.int (8 : Int32)), .val (.int (1 : Int32)), .val (.ref b546), .unset, .unset, .unset] []))
          refine G1 (fun _ => XS.iload X604.here hx rfl (hb hby at_161) rfl ) ?_
          refine G1 (fun _ => XS.iconst X604.here hx rfl (hb hby at_163)) ?_
          refine G1 (fun _ => XS.icmpYes X604.here hx rfl (pc0 := 164) (pc' := 186) rfl (hb hby at_164) rfl (tlt (by decide : (1 : Int32) < (3 : Int32))).1 (by decide) (by decide)) ?_
          show Goes _ _ _ _ _ _ _ (T604.setTop (mkF m 186 _ []))
          refine G1 (fun _ => XS.iconst X604.here hx rfl (hb hby at_186)) ?_
          refine G1 (fun _ => XS.istore X604.here hx rfl (hb hby at_187) rfl (l' := #[.val (.int p0), .val (.int p1), .val (.int p2), .val (.int p3), .val (.int p4), .val (.int (3 : Int32)), .val (.int (1 : Int32)), .val (.int vs7), .val (.ref b29), .val (.int vq9), .val (.int (8 : Int32)), .val (.int (1 : Int32)), .val (.ref b546), .val (.int (0 : Int32)), .unset, .unset]) rfl) ?_
          show Goes _ _ _ _ _ _ _ (T604.setTop (mkF m 189 _ []))
          show Goes _ _ _ _ _ _ _ (T604.setTop (mkF m 189 #[.val (.int p0), .val (.int p1), .val (.int p2), .val (.int p3), .val (.int p4), .val (.int (3 : Int32)), .val (.int (1 : Int32)), .val (.int vs7), .val (.ref b29), .val (.int vq9), .val (.int (8 : Int32)), .val (.int (1 : Int32)), .val (.ref b546), .val (.int (0 : Int32)), .unset, .unset] []))
          have lw := own_s8 f1 f4 0 (decide (p1 = vq9)) (decide (p2 = vq9)) (decide (p3 = vq9)) ee1
          rw [Bool.and_eq_true] at lw
          obtain ⟨pp, hsk0, hpb0⟩ := own_satE lw.1
          have hpb : own_b ((own_put own_t0 f1.val 0) pp) = own_i (decide (p1 = vq9)) := own_beq hpb0
          have hcn : own_b ((own_put own_t0 f1.val 0) ((0 : Int32)).toNatClampNeg) + own_b ((own_put own_t0 f1.val 0) ((1 : Int32)).toNatClampNeg) + own_b ((own_put own_t0 f1.val 0) ((2 : Int32)).toNatClampNeg) + own_b ((own_put own_t0 f1.val 0) ((3 : Int32)).toNatClampNeg) + own_b ((own_put own_t0 f1.val 0) ((4 : Int32)).toNatClampNeg) + own_b ((own_put own_t0 f1.val 0) ((5 : Int32)).toNatClampNeg) + own_b ((own_put own_t0 f1.val 0) ((6 : Int32)).toNatClampNeg) + own_b ((own_put own_t0 f1.val 0) ((7 : Int32)).toNatClampNeg) = (1 : Int32) := own_beq lw.2
          have hsk : seekP (own_put own_t0 f1.val 0) (fun j => decide (own_H p1 p2 p3 j = vq9)) 8 9 (own_f vq9 (29 : Int32)).toNatClampNeg = some pp := by rw [own_e3H, ← hf4]; exact hsk0
          have hH : ∀ p j, (own_put own_t0 f1.val 0) p = some j → (own_hp (fun _ => (0 : Int32)) f1.val p1) p = own_H p1 p2 p3 j := (own_hH own_hH0 (by rfl))
          have J252 : ∀ ex : Int32, own_i (decide (p1 = vq9)) = ex → Goes p e below s room_1.cells room_1.slots (fun v h L => Q0 Z p0 p1 p2 p3 p4 ca cc h0 n0 v h L) (T604.setTop (mkF m 252 #[.val (.int p0), .val (.int p1), .val (.int p2), .val (.int p3), .val (.int p4), .val (.int (3 : Int32)), .val (.int (1 : Int32)), .val (.int vs7), .val (.ref b29), .val (.int vq9), .val (.int (8 : Int32)), .val (.int (1 : Int32)), .val (.ref b546), .val (.int ex), .unset, .unset] [])) := by
            intro ex hex
            refine G1 (fun _ => XS.aload X604.here hx rfl (hb hby at_252) rfl rfl) ?_
            refine G1 (fun _ => XS.aload X604.here hx rfl (hb hby at_254) rfl rfl) ?_
            refine G1 (fun _ => XS.iload X604.here hx rfl (hb hby at_256) rfl ) ?_
            obtain ⟨cq621, kq621, q621a, q621b, q621c⟩ := isOf hZ rfl pf604_0
            obtain ⟨_, _, ⟨T621, L621, k621, n621⟩, -, X621, ⟨Lc621, hQ621, l621, y621, z621⟩, st621⟩ := X604.virtualBack hx (y := mN8) (z := mN8) hown (mvT hZ w_33) (mvT hZ w_34) (notFace_of_selects (args := #[]) (mvT hZ w_36)) (mvT hZ w_36) (mvT hZ w_35) (by decide) (backOf (W := 1) (rm5 l Z a0 hw [] b546 vq9 r552_0_0 r552_0_1 r552_0_2 kk552_0_0 kk552_0_1 kk552_0_2 8 (own_put own_t0 f1.val 0) (own_hp (fun _ => (0 : Int32)) f1.val p1) (own_K r571 r571 r571) (own_K r586 r586 r586) (29 : Int32) (3 : Int32) (1 : Int32) (own_H p1 p2 p3) 9 pp T604.heap n0 Z620 pf604_0 pf604_1 pf604_2 pf604_3 pf604_4 pf604_5 pf604_6 pf604_7 pf604_8 pf604_9 hN hH hS hsk) hZ w_37 w_3 (by decide) (by decide)) q621a q621c (g := (mkF m 258 #[.val (.int p0), .val (.int p1), .val (.int p2), .val (.int p3), .val (.int p4), .val (.int (3 : Int32)), .val (.int (1 : Int32)), .val (.int vs7), .val (.ref b29), .val (.int vq9), .val (.int (8 : Int32)), .val (.int (1 : Int32)), .val (.ref b546), .val (.int ex), .unset, .unset] [(.int vq9), (.ref b546), (.ref b546)])) rfl (by rw [hml]; rfl) (Steps.refl _) (argsL := [(.int vq9)]) (rest := [(.ref b546)]) (lenOf pd_2 rfl) rfl (by show 2 * 0 + _ ≤ _; exact Nat.le_of_eq rfl) (hb hby at_258) (fun _ _ => ⟨rfl, rfl, (by decide : 5 + 0 ≤ _), (by decide : 33 + 0 ≤ _)⟩)
            dsimp only [Pt.U, Pt.locs, Pt.cells, Pt.slots] at X621 l621 y621 z621 st621 hQ621
            rw [l621, y621, z621] at X621
            obtain ⟨N621, eh621, r621, rfl, r1_621, r2_621, r3_621⟩ := hQ621
            have NA621 := Fr.app NA604 N621
            refine G2 st621 ?_
            show Goes _ _ _ _ _ _ _ (T621.setTop (mkF m 261 _ [(.int r621), (.ref b546)]))
            obtain ⟨cq622, kq622, q622a, q622b, q622c⟩ := isOf hZ eh621 pf604_0
            obtain ⟨_, _, ⟨T622, L622, k622, n622⟩, -, X622, ⟨Lc622, hQ622, l622, y622, z622⟩, st622⟩ := X621.virtualBack hx (y := mN6) (z := mN6) hown (mvT hZ w_47) (mvT hZ w_48) (notFace_of_selects (args := #[]) (mvT hZ w_50)) (mvT hZ w_50) (mvT hZ w_49) (by decide) (backOf (W := 0) (rm8 l Z a0 hw [] b546 r621 r552_0_0 r552_0_1 r552_0_2 kk552_0_0 kk552_0_1 kk552_0_2 8 (own_put own_t0 f1.val 0) (own_hp (fun _ => (0 : Int32)) f1.val p1) (own_K r571 r571 r571) (own_K r586 r586 r586) (29 : Int32) (3 : Int32) (1 : Int32) T604.heap n0 Z620 pf604_0 pf604_1 pf604_2 pf604_3 pf604_4 pf604_5 pf604_6 pf604_7 pf604_8 pf604_9 r1_621 r3_621) hZ w_51 w_3 (by decide) (by decide)) q622a q622c (g := (mkF m 261 #[.val (.int p0), .val (.int p1), .val (.int p2), .val (.int p3), .val (.int p4), .val (.int (3 : Int32)), .val (.int (1 : Int32)), .val (.int vs7), .val (.ref b29), .val (.int vq9), .val (.int (8 : Int32)), .val (.int (1 : Int32)), .val (.ref b546), .val (.int ex), .unset, .unset] [(.int r621), (.ref b546)])) rfl (by rw [hml]; rfl) (Steps.refl _) (argsL := [(.int r621)]) (rest := []) (lenOf pd_4 rfl) rfl (by show 2 * 0 + _ ≤ _; exact Nat.le_of_eq rfl) (hb hby at_261) (fun _ _ => ⟨rfl, eh621, (by decide : 5 + 0 ≤ _), (by decide : 33 + 0 ≤ _)⟩)
            dsimp only [Pt.U, Pt.locs, Pt.cells, Pt.slots] at X622 l622 y622 z622 st622 hQ622
            rw [l622, y622, z622] at X622
            obtain ⟨N622, eh622, hv622⟩ := hQ622
            have NA622 := Fr.app NA621 N622
            subst hv622
            refine G2 st622 ?_
            show Goes _ _ _ _ _ _ _ (T622.setTop (mkF m 264 _ [(.int (own_b ((own_put own_t0 f1.val 0) (r621).toNatClampNeg)))]))
            refine G1 (fun _ => XS.istore X622.here hx rfl (hb hby at_264) rfl (l' := #[.val (.int p0), .val (.int p1), .val (.int p2), .val (.int p3), .val (.int p4), .val (.int (3 : Int32)), .val (.int (1 : Int32)), .val (.int vs7), .val (.ref b29), .val (.int vq9), .val (.int (8 : Int32)), .val (.int (1 : Int32)), .val (.ref b546), .val (.int ex), .val (.int (own_b ((own_put own_t0 f1.val 0) (r621).toNatClampNeg))), .unset]) rfl) ?_
            show Goes _ _ _ _ _ _ _ (T622.setTop (mkF m 266 _ []))
            show Goes _ _ _ _ _ _ _ (T622.setTop (mkF m 266 #[.val (.int p0), .val (.int p1), .val (.int p2), .val (.int p3), .val (.int p4), .val (.int (3 : Int32)), .val (.int (1 : Int32)), .val (.int vs7), .val (.ref b29), .val (.int vq9), .val (.int (8 : Int32)), .val (.int (1 : Int32)), .val (.ref b546), .val (.int ex), .val (.int (own_b ((own_put own_t0 f1.val 0) (r621).toNatClampNeg))), .unset] []))
            have hfx : (own_b ((own_put own_t0 f1.val 0) (r621).toNatClampNeg)) = ex := by rw [r2_621]; exact hpb.trans hex
            rw [hfx]
            exact J266_8 _ _ _ _ _ ex _ _ r552_0_0 r552_0_1 r552_0_2 kk552_0_0 kk552_0_1 kk552_0_2 (own_put own_t0 f1.val 0) (own_hp (fun _ => (0 : Int32)) f1.val p1) (own_K r571 r571 r571) (own_K r586 r586 r586) (1 : Int32) T604.heap _ _ X622 eh622 NA622 Z620 pf604_0 pf604_1 pf604_2 pf604_3 pf604_4 pf604_5 pf604_6 pf604_7 pf604_8 pf604_9 hcn
          show Goes _ _ _ _ _ _ _ (T604.setTop (mkF m 189 #[.val (.int p0), .val (.int p1), .val (.int p2), .val (.int p3), .val (.int p4), .val (.int (3 : Int32)), .val (.int (1 : Int32)), .val (.int vs7), .val (.ref b29), .val (.int vq9), .val (.int (8 : Int32)), .val (.int (1 : Int32)), .val (.ref b546), .val (.int (0 : Int32)), .unset, .unset] []))
          refine G1 (fun _ => XS.iload X604.here hx rfl (hb hby at_189) rfl ) ?_
          refine G1 (fun _ => XS.iconst X604.here hx rfl (hb hby at_191)) ?_
          refine G1 (fun _ => XS.icmpNo X604.here hx rfl (hb hby at_192) rfl (flt (by decide : ¬ ((1 : Int32) < (1 : Int32)))).1) ?_
          show Goes _ _ _ _ _ _ _ (T604.setTop (mkF m 195 _ []))
          refine G1 (fun _ => XS.aload X604.here hx rfl (hb hby at_195) rfl rfl) ?_
          refine G1 (fun _ => XS.iload X604.here hx rfl (hb hby at_197) rfl ) ?_
          refine G1 (fun _ => XS.iconst X604.here hx rfl (hb hby at_199)) ?_
          refine G1 (fun _ => XS.isub X604.here hx rfl (hb hby at_200) rfl) ?_
          show Goes _ _ _ _ _ _ _ (T604.setTop (mkF m 201 _ [(.int (0 : Int32)), (.ref b29)]))
          obtain ⟨cl623, Ar623, q623, S623, P623, H623, G623⟩ := id f607
          have hin623 : ¬ ((0 : Int32) < 0 ∨ cl623.slots.size ≤ ((0 : Int32)).toNatClampNeg) := inb_of S623 ⟨by decide, by decide⟩
          have hat623 : cl623.slots[((0 : Int32)).toNatClampNeg]? = some (.int p1) := H623 _ (by rw [S623]; decide)
          refine G1 (fun _ => X604.iaload hx (j := (0 : Int32)) (v := (.int p1)) (by exact Ar623.1) (State.isArrayOf_alike hZ.alike Ar623.2.1) Ar623.2.2 hin623 hat623 (g := (mkF m 201 #[.val (.int p0), .val (.int p1), .val (.int p2), .val (.int p3), .val (.int p4), .val (.int (3 : Int32)), .val (.int (1 : Int32)), .val (.int vs7), .val (.ref b29), .val (.int vq9), .val (.int (8 : Int32)), .val (.int (1 : Int32)), .val (.ref b546), .val (.int (0 : Int32)), .unset, .unset] [(.int (0 : Int32)), (.ref b29)])) rfl rfl (hb hby at_201) _) ?_
          show Goes _ _ _ _ _ _ _ (T604.setTop (mkF m 202 _ [(.int p1)]))
          refine G1 (fun _ => XS.iload X604.here hx rfl (hb hby at_202) rfl ) ?_
          by_cases c204_624 : p1 = vq9
          · refine G1 (fun _ => XS.icmpNo X604.here hx rfl (hb hby at_204) rfl (teq c204_624).2) ?_
            show Goes _ _ _ _ _ _ _ (T604.setTop (mkF m 207 _ []))
            refine G1 (fun _ => XS.iconst X604.here hx rfl (hb hby at_207)) ?_
            refine G1 (fun _ => XS.istore X604.here hx rfl (hb hby at_208) rfl (l' := #[.val (.int p0), .val (.int p1), .val (.int p2), .val (.int p3), .val (.int p4), .val (.int (3 : Int32)), .val (.int (1 : Int32)), .val (.int vs7), .val (.ref b29), .val (.int vq9), .val (.int (8 : Int32)), .val (.int (1 : Int32)), .val (.ref b546), .val (.int (1 : Int32)), .unset, .unset]) rfl) ?_
            show Goes _ _ _ _ _ _ _ (T604.setTop (mkF m 210 _ []))
            refine G1 (fun _ => XS.iload X604.here hx rfl (hb hby at_210) rfl ) ?_
            refine G1 (fun _ => XS.iconst X604.here hx rfl (hb hby at_212)) ?_
            refine G1 (fun _ => XS.icmpYes X604.here hx rfl (pc0 := 213) (pc' := 231) rfl (hb hby at_213) rfl (tlt (by decide : (1 : Int32) < (2 : Int32))).1 (by decide) (by decide)) ?_
            show Goes _ _ _ _ _ _ _ (T604.setTop (mkF m 231 _ []))
            refine G1 (fun _ => XS.iload X604.here hx rfl (hb hby at_231) rfl ) ?_
            refine G1 (fun _ => XS.iconst X604.here hx rfl (hb hby at_233)) ?_
            refine G1 (fun _ => XS.icmpYes X604.here hx rfl (pc0 := 234) (pc' := 252) rfl (hb hby at_234) rfl (tlt (by decide : (1 : Int32) < (3 : Int32))).1 (by decide) (by decide)) ?_
            show Goes _ _ _ _ _ _ _ (T604.setTop (mkF m 252 _ []))
            show Goes _ _ _ _ _ _ _ (T604.setTop (mkF m 252 #[.val (.int p0), .val (.int p1), .val (.int p2), .val (.int p3), .val (.int p4), .val (.int (3 : Int32)), .val (.int (1 : Int32)), .val (.int vs7), .val (.ref b29), .val (.int vq9), .val (.int (8 : Int32)), .val (.int (1 : Int32)), .val (.ref b546), .val (.int (1 : Int32)), .unset, .unset] []))
            exact J252 _ (by simp only [decide_eq_true c204_624]; rfl)
          · refine G1 (fun _ => XS.icmpYes X604.here hx rfl (pc0 := 204) (pc' := 210) rfl (hb hby at_204) rfl (feq c204_624).2 (by decide) (by decide)) ?_
            show Goes _ _ _ _ _ _ _ (T604.setTop (mkF m 210 _ []))
            refine G1 (fun _ => XS.iload X604.here hx rfl (hb hby at_210) rfl ) ?_
            refine G1 (fun _ => XS.iconst X604.here hx rfl (hb hby at_212)) ?_
            refine G1 (fun _ => XS.icmpYes X604.here hx rfl (pc0 := 213) (pc' := 231) rfl (hb hby at_213) rfl (tlt (by decide : (1 : Int32) < (2 : Int32))).1 (by decide) (by decide)) ?_
            show Goes _ _ _ _ _ _ _ (T604.setTop (mkF m 231 _ []))
            refine G1 (fun _ => XS.iload X604.here hx rfl (hb hby at_231) rfl ) ?_
            refine G1 (fun _ => XS.iconst X604.here hx rfl (hb hby at_233)) ?_
            refine G1 (fun _ => XS.icmpYes X604.here hx rfl (pc0 := 234) (pc' := 252) rfl (hb hby at_234) rfl (tlt (by decide : (1 : Int32) < (3 : Int32))).1 (by decide) (by decide)) ?_
            show Goes _ _ _ _ _ _ _ (T604.setTop (mkF m 252 _ []))
            show Goes _ _ _ _ _ _ _ (T604.setTop (mkF m 252 #[.val (.int p0), .val (.int p1), .val (.int p2), .val (.int p3), .val (.int p4), .val (.int (3 : Int32)), .val (.int (1 : Int32)), .val (.int vs7), .val (.ref b29), .val (.int vq9), .val (.int (8 : Int32)), .val (.int (1 : Int32)), .val (.ref b546), .val (.int (0 : Int32)), .unset, .unset] []))
            exact J252 _ (by simp only [decide_eq_false c204_624]; rfl)
        · obtain ⟨q2, pr2, -⟩ := own_satE (own_d8 f1 f2 f1 false false nofun nofun)
          show Goes _ _ _ _ _ _ _ (T604.setTop (mkF m 136 #[.val (.int p0), .val (.int p1), .val (.int p2), .val (.int p3), .val (.int p4), .val (.int (3 : Int32)), .val (.int vn6), .val (.int vs7), .val (.ref b29), .val (.int vq9), .val (.int (8 : Int32)), .val (.int (((vn6 - (1 : Int32)) % (3 : Int32)) + (1 : Int32))), .val (.ref b546), .unset, .unset, .unset] []))
          refine G1 (fun _ => XS.iload X604.here hx rfl (hb hby at_136) rfl ) ?_
          refine G1 (fun _ => XS.iconst X604.here hx rfl (hb hby at_138)) ?_
          refine G1 (fun _ => XS.icmpNo X604.here hx rfl (hb hby at_139) rfl (flt (own_nB hnB)).1) ?_
          show Goes _ _ _ _ _ _ _ (T604.setTop (mkF m 142 _ []))
          refine G1 (fun _ => XS.aload X604.here hx rfl (hb hby at_142) rfl rfl) ?_
          refine G1 (fun _ => XS.aload X604.here hx rfl (hb hby at_144) rfl rfl) ?_
          refine G1 (fun _ => XS.iconst X604.here hx rfl (hb hby at_146)) ?_
          obtain ⟨cl625, Ar625, q625, S625, P625, H625, G625⟩ := id f607
          have hin625 : ¬ ((1 : Int32) < 0 ∨ cl625.slots.size ≤ ((1 : Int32)).toNatClampNeg) := inb_of S625 ⟨by decide, by decide⟩
          have hat625 : cl625.slots[((1 : Int32)).toNatClampNeg]? = some (.int p2) := H625 _ (by rw [S625]; decide)
          refine G1 (fun _ => X604.iaload hx (j := (1 : Int32)) (v := (.int p2)) (by exact Ar625.1) (State.isArrayOf_alike hZ.alike Ar625.2.1) Ar625.2.2 hin625 hat625 (g := (mkF m 147 #[.val (.int p0), .val (.int p1), .val (.int p2), .val (.int p3), .val (.int p4), .val (.int (3 : Int32)), .val (.int vn6), .val (.int vs7), .val (.ref b29), .val (.int vq9), .val (.int (8 : Int32)), .val (.int (((vn6 - (1 : Int32)) % (3 : Int32)) + (1 : Int32))), .val (.ref b546), .unset, .unset, .unset] [(.int (1 : Int32)), (.ref b29), (.ref b546)])) rfl rfl (hb hby at_147) _) ?_
          show Goes _ _ _ _ _ _ _ (T604.setTop (mkF m 148 _ [(.int p2), (.ref b546)]))
          refine G1 (fun _ => XS.iconst X604.here hx rfl (hb hby at_148)) ?_
          obtain ⟨_, _, ⟨T626, L626, k626, n626⟩, -, X626, ⟨Lc626, hQ626, l626, y626, z626⟩, st626⟩ := Jvm.LawKit.callS X604 hx (y := mN9) hown (mvT hZ w_52) (mvT hZ w_53) (mvT hZ w_15) (mvT hZ w_54) (by decide) (backOf (W := 2) (rm9 l Z a0 hw [] (1 : Int32) ca cc T604.heap n0 Z620 (S_high.ext XO605.2) (S_cache.ext XO605.2) BX XO605 (by decide) (by decide)) hZ w_54 w_15 (by decide) (by decide)) (g := (mkF m 149 #[.val (.int p0), .val (.int p1), .val (.int p2), .val (.int p3), .val (.int p4), .val (.int (3 : Int32)), .val (.int vn6), .val (.int vs7), .val (.ref b29), .val (.int vq9), .val (.int (8 : Int32)), .val (.int (((vn6 - (1 : Int32)) % (3 : Int32)) + (1 : Int32))), .val (.ref b546), .unset, .unset, .unset] [(.int (1 : Int32)), (.int p2), (.ref b546)])) rfl (by rw [hml]; rfl) (argsL := [(.int (1 : Int32))]) (rest := [(.int p2), (.ref b546)]) (lenOf pd_5 rfl) rfl (by show 2 * 0 + _ ≤ _; exact Nat.le_of_eq rfl) (hb hby at_149) (fun _ _ => ⟨rfl, rfl, (by decide : 5 + 0 ≤ _), (by decide : 33 + 0 ≤ _)⟩)
          dsimp only [Pt.U, Pt.locs, Pt.cells, Pt.slots] at X626 l626 y626 z626 st626 hQ626
          rw [l626, y626, z626] at X626
          obtain ⟨N626, KK626, r626, rfl, ex626⟩ := hQ626
          have NA626 := Fr.app NA604 N626
          have XO627 : Old Z n0 T626.heap := XO605.keep KK626 all0
          have f628 := f606.keep KK626
          have f629 := f607.keep KK626 nin0
          have f630 := pf604_0.keep KK626
          have f631 := f618.keep KK626
          have f632 := f619.keep KK626
          have f633 := pf604_1.keep KK626 nin0
          have f634 := pf604_2.keep KK626 nin0
          have f635 := pf604_3.keep KK626 nin0
          have f636 := pf604_4.keep KK626 nin0
          have f637 := pf604_5.keep KK626 nin0
          have f638 := pf604_6.keep KK626 nin0
          have f639 := pf604_7.keep KK626 nin0
          have f640 := pf604_8.keep KK626 nin0
          have f641 := pf604_9.keep KK626 nin0
          have K642 : Keep h0 T626.heap [] := K620.trans KK626 all0
          have Z642 : n0 ≤ T626.heap.size := Nat.le_trans Z620 KK626.1
          refine G1 st626 ?_
          show Goes _ _ _ _ _ _ _ (T626.setTop (mkF m 152 _ [(.ref r626), (.int p2), (.ref b546)]))
          refine G1 (fun _ => XS.bipush X626.here hx rfl (hb hby at_152)) ?_
          obtain ⟨_, _, ⟨T643, L643, k643, n643⟩, -, X643, ⟨Lc643, hQ643, l643, y643, z643⟩, st643⟩ := Jvm.LawKit.callS X626 hx (y := mN9) hown (mvT hZ w_52) (mvT hZ w_53) (mvT hZ w_15) (mvT hZ w_54) (by decide) (backOf (W := 3) (rm9 l Z a0 hw [] (11 : Int32) ca cc T626.heap n0 Z642 (S_high.ext XO627.2) (S_cache.ext XO627.2) BX XO627 (by decide) (by decide)) hZ w_54 w_15 (by decide) (by decide)) (g := (mkF m 154 #[.val (.int p0), .val (.int p1), .val (.int p2), .val (.int p3), .val (.int p4), .val (.int (3 : Int32)), .val (.int vn6), .val (.int vs7), .val (.ref b29), .val (.int vq9), .val (.int (8 : Int32)), .val (.int (((vn6 - (1 : Int32)) % (3 : Int32)) + (1 : Int32))), .val (.ref b546), .unset, .unset, .unset] [(.int (11 : Int32)), (.ref r626), (.int p2), (.ref b546)])) rfl (by rw [hml]; rfl) (argsL := [(.int (11 : Int32))]) (rest := [(.ref r626), (.int p2), (.ref b546)]) (lenOf pd_5 rfl) rfl (by show 2 * 0 + _ ≤ _; exact Nat.le_of_eq rfl) (hb hby at_154) (fun _ _ => ⟨rfl, rfl, (by decide : 5 + 0 ≤ _), (by decide : 33 + 0 ≤ _)⟩)
          dsimp only [Pt.U, Pt.locs, Pt.cells, Pt.slots] at X643 l643 y643 z643 st643 hQ643
          rw [l643, y643, z643] at X643
          obtain ⟨N643, KK643, r643, rfl, ex643⟩ := hQ643
          have NA643 := Fr.app NA626 N643
          have XO644 : Old Z n0 T643.heap := XO627.keep KK643 all0
          have f645 := f628.keep KK643
          have f646 := f629.keep KK643 nin0
          have f647 := f630.keep KK643
          have f648 := f631.keep KK643
          have f649 := f632.keep KK643
          have f650 := f633.keep KK643 nin0
          have f651 := f634.keep KK643 nin0
          have f652 := f635.keep KK643 nin0
          have f653 := f636.keep KK643 nin0
          have f654 := f637.keep KK643 nin0
          have f655 := f638.keep KK643 nin0
          have f656 := f639.keep KK643 nin0
          have f657 := f640.keep KK643 nin0
          have f658 := f641.keep KK643 nin0
          have f659 := ex626.keep KK643
          have K660 : Keep h0 T643.heap [] := K642.trans KK643 all0
          have Z660 : n0 ≤ T643.heap.size := Nat.le_trans Z642 KK643.1
          refine G1 st643 ?_
          show Goes _ _ _ _ _ _ _ (T643.setTop (mkF m 157 _ [(.ref r643), (.ref r626), (.int p2), (.ref b546)]))
          have rc661 : ArF Z T643.heap r552_0_0 kk552_0_0 (.object "java/lang/Object") 8 (fun j => rfv (own_K r571 r626 r626) ((own_put own_t0 f1.val 0) j)) := f656.congr (own_recast (own_cP own_c0 (by rfl)))
          have rc662 : ArF Z T643.heap r552_0_2 kk552_0_2 (.object "java/lang/Object") 8 (fun j => rfv (own_K r586 r643 r643) ((own_put own_t0 f1.val 0) j)) := f658.congr (own_recast (own_cP own_c0 (by rfl)))
          obtain ⟨cq663, kq663, q663a, q663b, q663c⟩ := isOf hZ rfl f647
          obtain ⟨_, _, ⟨T663, L663, k663, n663⟩, -, X663, ⟨Lc663, hQ663, l663, y663, z663⟩, st663⟩ := X643.virtualBack hx (y := mN10) (z := mN10) hown (mvT hZ w_58) (mvT hZ w_59) (notFace_of_selects (args := #[]) (mvT hZ w_61)) (mvT hZ w_61) (mvT hZ w_60) (by decide) (backOf (W := 0) (rm10_n l Z a0 hw [] b546 p2 r626 r643 r552_0_0 r552_0_1 r552_0_2 kk552_0_0 kk552_0_1 kk552_0_2 8 (own_put own_t0 f1.val 0) (own_hp (fun _ => (0 : Int32)) f1.val p1) (own_K r571 r626 r626) (own_K r586 r643 r643) (29 : Int32) (3 : Int32) (1 : Int32) 1 9 q2 T643.heap n0 Z660 f647 f650 f651 f652 f653 f654 f655 rc661 f657 rc662 oo552_0_0 oo552_0_1 (Ins.of_exa f659 w_65) (Ins.of_exa ex643 w_65) rfl rfl g_b546 g_r552_0_0 g_r552_0_1 g_r552_0_2 (Ne.symm ne565) (Ne.symm ne567) nn552_0_0 (Ne.symm ne569) nn552_0_1 nn552_0_2 (by decide) hN hS (by rw [← hf2]; exact pr2)) hZ w_62 w_3 (by decide) (by decide)) q663a q663c (g := (mkF m 157 #[.val (.int p0), .val (.int p1), .val (.int p2), .val (.int p3), .val (.int p4), .val (.int (3 : Int32)), .val (.int vn6), .val (.int vs7), .val (.ref b29), .val (.int vq9), .val (.int (8 : Int32)), .val (.int (((vn6 - (1 : Int32)) % (3 : Int32)) + (1 : Int32))), .val (.ref b546), .unset, .unset, .unset] [(.ref r643), (.ref r626), (.int p2), (.ref b546)])) rfl (by rw [hml]; rfl) (Steps.refl _) (argsL := [(.int p2), (.ref r626), (.ref r643)]) (rest := []) (lenOf pd_6 rfl) rfl (by show 2 * 0 + _ ≤ _; exact Nat.le_of_eq rfl) (hb hby at_157) (fun _ _ => ⟨rfl, rfl, (by decide : 5 + 0 ≤ _), (by decide : 33 + 0 ≤ _)⟩)
          dsimp only [Pt.U, Pt.locs, Pt.cells, Pt.slots] at X663 l663 y663 z663 st663 hQ663
          rw [l663, y663, z663] at X663
          obtain ⟨N663, KK663, rfl, pf663_0, pf663_1, pf663_2, pf663_3, pf663_4, pf663_5, pf663_6, pf663_7, pf663_8, pf663_9⟩ := hQ663
          have NA663 := Fr.app NA643 N663
          have XO664 : Old Z n0 T663.heap := XO644.keep KK663 (allS g_b546 (allS g_r552_0_0 (allS g_r552_0_1 (allS g_r552_0_2 all0))))
          have f665 := f645.keep KK663
          have f666 := f646.keep KK663 (ninS ne547 (ninS ne564 (ninS ne566 (ninS ne568 nin0))))
          have f667 := f647.keep KK663
          have f668 := f648.keep KK663
          have f669 := f649.keep KK663
          have f679 := f659.keep KK663
          have f680 := ex643.keep KK663
          have K681 : Keep h0 T663.heap [] := K660.trans KK663 (allS (Or.inr sz_b546) (allS (Or.inr sz_r552_0_0) (allS (Or.inr sz_r552_0_1) (allS (Or.inr sz_r552_0_2) all0))))
          have Z681 : n0 ≤ T663.heap.size := Nat.le_trans Z660 KK663.1
          refine G2 st663 ?_
          show Goes _ _ _ _ _ _ _ (T663.setTop (mkF m 160 _ [(.ref r643)]))
          refine G1 (fun _ => XS.pop X663.here hx rfl (hb hby at_160) rfl rfl) ?_
          show Goes _ _ _ _ _ _ _ (T663.setTop (mkF m 161 _ []))
          show Goes _ _ _ _ _ _ _ (T663.setTop (mkF m 161 #[.val (.int p0), .val (.int p1), .val (.int p2), .val (.int p3), .val (.int p4), .val (.int (3 : Int32)), .val (.int vn6), .val (.int vs7), .val (.ref b29), .val (.int vq9), .val (.int (8 : Int32)), .val (.int (((vn6 - (1 : Int32)) % (3 : Int32)) + (1 : Int32))), .val (.ref b546), .unset, .unset, .unset] []))
          rcases hnB with rfl | rfl
          · show Goes _ _ _ _ _ _ _ (T663.setTop (mkF m 161 #[.val (.int p0), .val (.int p1), .val (.int p2), .val (.int p3), .val (.int p4), .val (.int (3 : Int32)), .val (.int (2 : Int32)), .val (.int vs7), .val (.ref b29), .val (.int vq9), .val (.int (8 : Int32)), .val (.int (2 : Int32)), .val (.ref b546), .unset, .unset, .unset] []))
            refine G1 (fun _ => XS.iload X663.here hx rfl (hb hby at_161) rfl ) ?_
            refine G1 (fun _ => XS.iconst X663.here hx rfl (hb hby at_163)) ?_
            refine G1 (fun _ => XS.icmpYes X663.here hx rfl (pc0 := 164) (pc' := 186) rfl (hb hby at_164) rfl (tlt (by decide : (2 : Int32) < (3 : Int32))).1 (by decide) (by decide)) ?_
            show Goes _ _ _ _ _ _ _ (T663.setTop (mkF m 186 _ []))
            refine G1 (fun _ => XS.iconst X663.here hx rfl (hb hby at_186)) ?_
            refine G1 (fun _ => XS.istore X663.here hx rfl (hb hby at_187) rfl (l' := #[.val (.int p0), .val (.int p1), .val (.int p2), .val (.int p3), .val (.int p4), .val (.int (3 : Int32)), .val (.int (2 : Int32)), .val (.int vs7), .val (.ref b29), .val (.int vq9), .val (.int (8 : Int32)), .val (.int (2 : Int32)), .val (.ref b546), .val (.int (0 : Int32)), .unset, .unset]) rfl) ?_
            show Goes _ _ _ _ _ _ _ (T663.setTop (mkF m 189 _ []))
            show Goes _ _ _ _ _ _ _ (T663.setTop (mkF m 189 #[.val (.int p0), .val (.int p1), .val (.int p2), .val (.int p3), .val (.int p4), .val (.int (3 : Int32)), .val (.int (2 : Int32)), .val (.int vs7), .val (.ref b29), .val (.int vq9), .val (.int (8 : Int32)), .val (.int (2 : Int32)), .val (.ref b546), .val (.int (0 : Int32)), .unset, .unset] []))
            obtain ⟨qy, py, lw⟩ := own_satE (own_d8 f1 f2 f4 (decide (p1 = vq9)) (decide (p2 = vq9)) ee1 ee2)
            cases pr2.symm.trans py
            rw [Bool.and_eq_true] at lw
            obtain ⟨pp, hsk0, hpb0⟩ := own_satE lw.1
            have hpb : own_b ((own_put (own_put own_t0 f1.val 0) q2 1) pp) = own_i ((decide (p1 = vq9)) || (decide (p2 = vq9))) := own_beq hpb0
            have hcn : own_b ((own_put (own_put own_t0 f1.val 0) q2 1) ((0 : Int32)).toNatClampNeg) + own_b ((own_put (own_put own_t0 f1.val 0) q2 1) ((1 : Int32)).toNatClampNeg) + own_b ((own_put (own_put own_t0 f1.val 0) q2 1) ((2 : Int32)).toNatClampNeg) + own_b ((own_put (own_put own_t0 f1.val 0) q2 1) ((3 : Int32)).toNatClampNeg) + own_b ((own_put (own_put own_t0 f1.val 0) q2 1) ((4 : Int32)).toNatClampNeg) + own_b ((own_put (own_put own_t0 f1.val 0) q2 1) ((5 : Int32)).toNatClampNeg) + own_b ((own_put (own_put own_t0 f1.val 0) q2 1) ((6 : Int32)).toNatClampNeg) + own_b ((own_put (own_put own_t0 f1.val 0) q2 1) ((7 : Int32)).toNatClampNeg) = (2 : Int32) := own_beq lw.2
            have hsk : seekP (own_put (own_put own_t0 f1.val 0) q2 1) (fun j => decide (own_H p1 p2 p3 j = vq9)) 8 9 (own_f vq9 (29 : Int32)).toNatClampNeg = some pp := by rw [own_e3H, own_seekCongr (e' := own_e3 (decide (p1 = vq9)) (decide (p2 = vq9)) false) (own_cE (own_cE own_cE0 (by rfl)) (by rfl)), ← hf4]; exact hsk0
            have hH : ∀ p j, (own_put (own_put own_t0 f1.val 0) q2 1) p = some j → (own_hp (own_hp (fun _ => (0 : Int32)) f1.val p1) q2 p2) p = own_H p1 p2 p3 j := (own_hH (own_hH own_hH0 (by rfl)) (by rfl))
            have J252 : ∀ ex : Int32, own_i ((decide (p1 = vq9)) || (decide (p2 = vq9))) = ex → Goes p e below s room_1.cells room_1.slots (fun v h L => Q0 Z p0 p1 p2 p3 p4 ca cc h0 n0 v h L) (T663.setTop (mkF m 252 #[.val (.int p0), .val (.int p1), .val (.int p2), .val (.int p3), .val (.int p4), .val (.int (3 : Int32)), .val (.int (2 : Int32)), .val (.int vs7), .val (.ref b29), .val (.int vq9), .val (.int (8 : Int32)), .val (.int (2 : Int32)), .val (.ref b546), .val (.int ex), .unset, .unset] [])) := by
              intro ex hex
              refine G1 (fun _ => XS.aload X663.here hx rfl (hb hby at_252) rfl rfl) ?_
              refine G1 (fun _ => XS.aload X663.here hx rfl (hb hby at_254) rfl rfl) ?_
              refine G1 (fun _ => XS.iload X663.here hx rfl (hb hby at_256) rfl ) ?_
              obtain ⟨cq682, kq682, q682a, q682b, q682c⟩ := isOf hZ rfl pf663_0
              obtain ⟨_, _, ⟨T682, L682, k682, n682⟩, -, X682, ⟨Lc682, hQ682, l682, y682, z682⟩, st682⟩ := X663.virtualBack hx (y := mN8) (z := mN8) hown (mvT hZ w_33) (mvT hZ w_34) (notFace_of_selects (args := #[]) (mvT hZ w_36)) (mvT hZ w_36) (mvT hZ w_35) (by decide) (backOf (W := 1) (rm5 l Z a0 hw [] b546 vq9 r552_0_0 r552_0_1 r552_0_2 kk552_0_0 kk552_0_1 kk552_0_2 8 (own_put (own_put own_t0 f1.val 0) q2 1) (own_hp (own_hp (fun _ => (0 : Int32)) f1.val p1) q2 p2) (own_K r571 r626 r626) (own_K r586 r643 r643) (29 : Int32) (3 : Int32) (2 : Int32) (own_H p1 p2 p3) 9 pp T663.heap n0 Z681 pf663_0 pf663_1 pf663_2 pf663_3 pf663_4 pf663_5 pf663_6 pf663_7 pf663_8 pf663_9 hN hH hS hsk) hZ w_37 w_3 (by decide) (by decide)) q682a q682c (g := (mkF m 258 #[.val (.int p0), .val (.int p1), .val (.int p2), .val (.int p3), .val (.int p4), .val (.int (3 : Int32)), .val (.int (2 : Int32)), .val (.int vs7), .val (.ref b29), .val (.int vq9), .val (.int (8 : Int32)), .val (.int (2 : Int32)), .val (.ref b546), .val (.int ex), .unset, .unset] [(.int vq9), (.ref b546), (.ref b546)])) rfl (by rw [hml]; rfl) (Steps.refl _) (argsL := [(.int vq9)]) (rest := [(.ref b546)]) (lenOf pd_2 rfl) rfl (by show 2 * 0 + _ ≤ _; exact Nat.le_of_eq rfl) (hb hby at_258) (fun _ _ => ⟨rfl, rfl, (by decide : 5 + 0 ≤ _), (by decide : 33 + 0 ≤ _)⟩)
              dsimp only [Pt.U, Pt.locs, Pt.cells, Pt.slots] at X682 l682 y682 z682 st682 hQ682
              rw [l682, y682, z682] at X682
              obtain ⟨N682, eh682, r682, rfl, r1_682, r2_682, r3_682⟩ := hQ682
              have NA682 := Fr.app NA663 N682
              refine G2 st682 ?_
              show Goes _ _ _ _ _ _ _ (T682.setTop (mkF m 261 _ [(.int r682), (.ref b546)]))
              obtain ⟨cq683, kq683, q683a, q683b, q683c⟩ := isOf hZ eh682 pf663_0
              obtain ⟨_, _, ⟨T683, L683, k683, n683⟩, -, X683, ⟨Lc683, hQ683, l683, y683, z683⟩, st683⟩ := X682.virtualBack hx (y := mN6) (z := mN6) hown (mvT hZ w_47) (mvT hZ w_48) (notFace_of_selects (args := #[]) (mvT hZ w_50)) (mvT hZ w_50) (mvT hZ w_49) (by decide) (backOf (W := 0) (rm8 l Z a0 hw [] b546 r682 r552_0_0 r552_0_1 r552_0_2 kk552_0_0 kk552_0_1 kk552_0_2 8 (own_put (own_put own_t0 f1.val 0) q2 1) (own_hp (own_hp (fun _ => (0 : Int32)) f1.val p1) q2 p2) (own_K r571 r626 r626) (own_K r586 r643 r643) (29 : Int32) (3 : Int32) (2 : Int32) T663.heap n0 Z681 pf663_0 pf663_1 pf663_2 pf663_3 pf663_4 pf663_5 pf663_6 pf663_7 pf663_8 pf663_9 r1_682 r3_682) hZ w_51 w_3 (by decide) (by decide)) q683a q683c (g := (mkF m 261 #[.val (.int p0), .val (.int p1), .val (.int p2), .val (.int p3), .val (.int p4), .val (.int (3 : Int32)), .val (.int (2 : Int32)), .val (.int vs7), .val (.ref b29), .val (.int vq9), .val (.int (8 : Int32)), .val (.int (2 : Int32)), .val (.ref b546), .val (.int ex), .unset, .unset] [(.int r682), (.ref b546)])) rfl (by rw [hml]; rfl) (Steps.refl _) (argsL := [(.int r682)]) (rest := []) (lenOf pd_4 rfl) rfl (by show 2 * 0 + _ ≤ _; exact Nat.le_of_eq rfl) (hb hby at_261) (fun _ _ => ⟨rfl, eh682, (by decide : 5 + 0 ≤ _), (by decide : 33 + 0 ≤ _)⟩)
              dsimp only [Pt.U, Pt.locs, Pt.cells, Pt.slots] at X683 l683 y683 z683 st683 hQ683
              rw [l683, y683, z683] at X683
              obtain ⟨N683, eh683, hv683⟩ := hQ683
              have NA683 := Fr.app NA682 N683
              subst hv683
              refine G2 st683 ?_
              show Goes _ _ _ _ _ _ _ (T683.setTop (mkF m 264 _ [(.int (own_b ((own_put (own_put own_t0 f1.val 0) q2 1) (r682).toNatClampNeg)))]))
              refine G1 (fun _ => XS.istore X683.here hx rfl (hb hby at_264) rfl (l' := #[.val (.int p0), .val (.int p1), .val (.int p2), .val (.int p3), .val (.int p4), .val (.int (3 : Int32)), .val (.int (2 : Int32)), .val (.int vs7), .val (.ref b29), .val (.int vq9), .val (.int (8 : Int32)), .val (.int (2 : Int32)), .val (.ref b546), .val (.int ex), .val (.int (own_b ((own_put (own_put own_t0 f1.val 0) q2 1) (r682).toNatClampNeg))), .unset]) rfl) ?_
              show Goes _ _ _ _ _ _ _ (T683.setTop (mkF m 266 _ []))
              show Goes _ _ _ _ _ _ _ (T683.setTop (mkF m 266 #[.val (.int p0), .val (.int p1), .val (.int p2), .val (.int p3), .val (.int p4), .val (.int (3 : Int32)), .val (.int (2 : Int32)), .val (.int vs7), .val (.ref b29), .val (.int vq9), .val (.int (8 : Int32)), .val (.int (2 : Int32)), .val (.ref b546), .val (.int ex), .val (.int (own_b ((own_put (own_put own_t0 f1.val 0) q2 1) (r682).toNatClampNeg))), .unset] []))
              have hfx : (own_b ((own_put (own_put own_t0 f1.val 0) q2 1) (r682).toNatClampNeg)) = ex := by rw [r2_682]; exact hpb.trans hex
              rw [hfx]
              exact J266_8 _ _ _ _ _ ex _ _ r552_0_0 r552_0_1 r552_0_2 kk552_0_0 kk552_0_1 kk552_0_2 (own_put (own_put own_t0 f1.val 0) q2 1) (own_hp (own_hp (fun _ => (0 : Int32)) f1.val p1) q2 p2) (own_K r571 r626 r626) (own_K r586 r643 r643) (2 : Int32) T663.heap _ _ X683 eh683 NA683 Z681 pf663_0 pf663_1 pf663_2 pf663_3 pf663_4 pf663_5 pf663_6 pf663_7 pf663_8 pf663_9 hcn
            show Goes _ _ _ _ _ _ _ (T663.setTop (mkF m 189 #[.val (.int p0), .val (.int p1), .val (.int p2), .val (.int p3), .val (.int p4), .val (.int (3 : Int32)), .val (.int (2 : Int32)), .val (.int vs7), .val (.ref b29), .val (.int vq9), .val (.int (8 : Int32)), .val (.int (2 : Int32)), .val (.ref b546), .val (.int (0 : Int32)), .unset, .unset] []))
            refine G1 (fun _ => XS.iload X663.here hx rfl (hb hby at_189) rfl ) ?_
            refine G1 (fun _ => XS.iconst X663.here hx rfl (hb hby at_191)) ?_
            refine G1 (fun _ => XS.icmpNo X663.here hx rfl (hb hby at_192) rfl (flt (by decide : ¬ ((2 : Int32) < (1 : Int32)))).1) ?_
            show Goes _ _ _ _ _ _ _ (T663.setTop (mkF m 195 _ []))
            refine G1 (fun _ => XS.aload X663.here hx rfl (hb hby at_195) rfl rfl) ?_
            refine G1 (fun _ => XS.iload X663.here hx rfl (hb hby at_197) rfl ) ?_
            refine G1 (fun _ => XS.iconst X663.here hx rfl (hb hby at_199)) ?_
            refine G1 (fun _ => XS.isub X663.here hx rfl (hb hby at_200) rfl) ?_
            show Goes _ _ _ _ _ _ _ (T663.setTop (mkF m 201 _ [(.int (1 : Int32)), (.ref b29)]))
            obtain ⟨cl684, Ar684, q684, S684, P684, H684, G684⟩ := id f666
            have hin684 : ¬ ((1 : Int32) < 0 ∨ cl684.slots.size ≤ ((1 : Int32)).toNatClampNeg) := inb_of S684 ⟨by decide, by decide⟩
            have hat684 : cl684.slots[((1 : Int32)).toNatClampNeg]? = some (.int p2) := H684 _ (by rw [S684]; decide)
            refine G1 (fun _ => X663.iaload hx (j := (1 : Int32)) (v := (.int p2)) (by exact Ar684.1) (State.isArrayOf_alike hZ.alike Ar684.2.1) Ar684.2.2 hin684 hat684 (g := (mkF m 201 #[.val (.int p0), .val (.int p1), .val (.int p2), .val (.int p3), .val (.int p4), .val (.int (3 : Int32)), .val (.int (2 : Int32)), .val (.int vs7), .val (.ref b29), .val (.int vq9), .val (.int (8 : Int32)), .val (.int (2 : Int32)), .val (.ref b546), .val (.int (0 : Int32)), .unset, .unset] [(.int (1 : Int32)), (.ref b29)])) rfl rfl (hb hby at_201) _) ?_
            show Goes _ _ _ _ _ _ _ (T663.setTop (mkF m 202 _ [(.int p2)]))
            refine G1 (fun _ => XS.iload X663.here hx rfl (hb hby at_202) rfl ) ?_
            by_cases c204_685 : p2 = vq9
            · refine G1 (fun _ => XS.icmpNo X663.here hx rfl (hb hby at_204) rfl (teq c204_685).2) ?_
              show Goes _ _ _ _ _ _ _ (T663.setTop (mkF m 207 _ []))
              refine G1 (fun _ => XS.iconst X663.here hx rfl (hb hby at_207)) ?_
              refine G1 (fun _ => XS.istore X663.here hx rfl (hb hby at_208) rfl (l' := #[.val (.int p0), .val (.int p1), .val (.int p2), .val (.int p3), .val (.int p4), .val (.int (3 : Int32)), .val (.int (2 : Int32)), .val (.int vs7), .val (.ref b29), .val (.int vq9), .val (.int (8 : Int32)), .val (.int (2 : Int32)), .val (.ref b546), .val (.int (1 : Int32)), .unset, .unset]) rfl) ?_
              show Goes _ _ _ _ _ _ _ (T663.setTop (mkF m 210 _ []))
              refine G1 (fun _ => XS.iload X663.here hx rfl (hb hby at_210) rfl ) ?_
              refine G1 (fun _ => XS.iconst X663.here hx rfl (hb hby at_212)) ?_
              refine G1 (fun _ => XS.icmpNo X663.here hx rfl (hb hby at_213) rfl (flt (by decide : ¬ ((2 : Int32) < (2 : Int32)))).1) ?_
              show Goes _ _ _ _ _ _ _ (T663.setTop (mkF m 216 _ []))
              refine G1 (fun _ => XS.aload X663.here hx rfl (hb hby at_216) rfl rfl) ?_
              refine G1 (fun _ => XS.iload X663.here hx rfl (hb hby at_218) rfl ) ?_
              refine G1 (fun _ => XS.iconst X663.here hx rfl (hb hby at_220)) ?_
              refine G1 (fun _ => XS.isub X663.here hx rfl (hb hby at_221) rfl) ?_
              show Goes _ _ _ _ _ _ _ (T663.setTop (mkF m 222 _ [(.int (0 : Int32)), (.ref b29)]))
              obtain ⟨cl686, Ar686, q686, S686, P686, H686, G686⟩ := id f666
              have hin686 : ¬ ((0 : Int32) < 0 ∨ cl686.slots.size ≤ ((0 : Int32)).toNatClampNeg) := inb_of S686 ⟨by decide, by decide⟩
              have hat686 : cl686.slots[((0 : Int32)).toNatClampNeg]? = some (.int p1) := H686 _ (by rw [S686]; decide)
              refine G1 (fun _ => X663.iaload hx (j := (0 : Int32)) (v := (.int p1)) (by exact Ar686.1) (State.isArrayOf_alike hZ.alike Ar686.2.1) Ar686.2.2 hin686 hat686 (g := (mkF m 222 #[.val (.int p0), .val (.int p1), .val (.int p2), .val (.int p3), .val (.int p4), .val (.int (3 : Int32)), .val (.int (2 : Int32)), .val (.int vs7), .val (.ref b29), .val (.int vq9), .val (.int (8 : Int32)), .val (.int (2 : Int32)), .val (.ref b546), .val (.int (1 : Int32)), .unset, .unset] [(.int (0 : Int32)), (.ref b29)])) rfl rfl (hb hby at_222) _) ?_
              show Goes _ _ _ _ _ _ _ (T663.setTop (mkF m 223 _ [(.int p1)]))
              refine G1 (fun _ => XS.iload X663.here hx rfl (hb hby at_223) rfl ) ?_
              by_cases c225_687 : p1 = vq9
              · refine G1 (fun _ => XS.icmpNo X663.here hx rfl (hb hby at_225) rfl (teq c225_687).2) ?_
                show Goes _ _ _ _ _ _ _ (T663.setTop (mkF m 228 _ []))
                refine G1 (fun _ => XS.iconst X663.here hx rfl (hb hby at_228)) ?_
                refine G1 (fun _ => XS.istore X663.here hx rfl (hb hby at_229) rfl (l' := #[.val (.int p0), .val (.int p1), .val (.int p2), .val (.int p3), .val (.int p4), .val (.int (3 : Int32)), .val (.int (2 : Int32)), .val (.int vs7), .val (.ref b29), .val (.int vq9), .val (.int (8 : Int32)), .val (.int (2 : Int32)), .val (.ref b546), .val (.int (1 : Int32)), .unset, .unset]) rfl) ?_
                show Goes _ _ _ _ _ _ _ (T663.setTop (mkF m 231 _ []))
                refine G1 (fun _ => XS.iload X663.here hx rfl (hb hby at_231) rfl ) ?_
                refine G1 (fun _ => XS.iconst X663.here hx rfl (hb hby at_233)) ?_
                refine G1 (fun _ => XS.icmpYes X663.here hx rfl (pc0 := 234) (pc' := 252) rfl (hb hby at_234) rfl (tlt (by decide : (2 : Int32) < (3 : Int32))).1 (by decide) (by decide)) ?_
                show Goes _ _ _ _ _ _ _ (T663.setTop (mkF m 252 _ []))
                show Goes _ _ _ _ _ _ _ (T663.setTop (mkF m 252 #[.val (.int p0), .val (.int p1), .val (.int p2), .val (.int p3), .val (.int p4), .val (.int (3 : Int32)), .val (.int (2 : Int32)), .val (.int vs7), .val (.ref b29), .val (.int vq9), .val (.int (8 : Int32)), .val (.int (2 : Int32)), .val (.ref b546), .val (.int (1 : Int32)), .unset, .unset] []))
                exact J252 _ (by simp only [decide_eq_true c204_685, decide_eq_true c225_687]; rfl)
              · refine G1 (fun _ => XS.icmpYes X663.here hx rfl (pc0 := 225) (pc' := 231) rfl (hb hby at_225) rfl (feq c225_687).2 (by decide) (by decide)) ?_
                show Goes _ _ _ _ _ _ _ (T663.setTop (mkF m 231 _ []))
                refine G1 (fun _ => XS.iload X663.here hx rfl (hb hby at_231) rfl ) ?_
                refine G1 (fun _ => XS.iconst X663.here hx rfl (hb hby at_233)) ?_
                refine G1 (fun _ => XS.icmpYes X663.here hx rfl (pc0 := 234) (pc' := 252) rfl (hb hby at_234) rfl (tlt (by decide : (2 : Int32) < (3 : Int32))).1 (by decide) (by decide)) ?_
                show Goes _ _ _ _ _ _ _ (T663.setTop (mkF m 252 _ []))
                show Goes _ _ _ _ _ _ _ (T663.setTop (mkF m 252 #[.val (.int p0), .val (.int p1), .val (.int p2), .val (.int p3), .val (.int p4), .val (.int (3 : Int32)), .val (.int (2 : Int32)), .val (.int vs7), .val (.ref b29), .val (.int vq9), .val (.int (8 : Int32)), .val (.int (2 : Int32)), .val (.ref b546), .val (.int (1 : Int32)), .unset, .unset] []))
                exact J252 _ (by simp only [decide_eq_true c204_685, decide_eq_false c225_687]; rfl)
            · refine G1 (fun _ => XS.icmpYes X663.here hx rfl (pc0 := 204) (pc' := 210) rfl (hb hby at_204) rfl (feq c204_685).2 (by decide) (by decide)) ?_
              show Goes _ _ _ _ _ _ _ (T663.setTop (mkF m 210 _ []))
              refine G1 (fun _ => XS.iload X663.here hx rfl (hb hby at_210) rfl ) ?_
              refine G1 (fun _ => XS.iconst X663.here hx rfl (hb hby at_212)) ?_
              refine G1 (fun _ => XS.icmpNo X663.here hx rfl (hb hby at_213) rfl (flt (by decide : ¬ ((2 : Int32) < (2 : Int32)))).1) ?_
              show Goes _ _ _ _ _ _ _ (T663.setTop (mkF m 216 _ []))
              refine G1 (fun _ => XS.aload X663.here hx rfl (hb hby at_216) rfl rfl) ?_
              refine G1 (fun _ => XS.iload X663.here hx rfl (hb hby at_218) rfl ) ?_
              refine G1 (fun _ => XS.iconst X663.here hx rfl (hb hby at_220)) ?_
              refine G1 (fun _ => XS.isub X663.here hx rfl (hb hby at_221) rfl) ?_
              show Goes _ _ _ _ _ _ _ (T663.setTop (mkF m 222 _ [(.int (0 : Int32)), (.ref b29)]))
              obtain ⟨cl688, Ar688, q688, S688, P688, H688, G688⟩ := id f666
              have hin688 : ¬ ((0 : Int32) < 0 ∨ cl688.slots.size ≤ ((0 : Int32)).toNatClampNeg) := inb_of S688 ⟨by decide, by decide⟩
              have hat688 : cl688.slots[((0 : Int32)).toNatClampNeg]? = some (.int p1) := H688 _ (by rw [S688]; decide)
              refine G1 (fun _ => X663.iaload hx (j := (0 : Int32)) (v := (.int p1)) (by exact Ar688.1) (State.isArrayOf_alike hZ.alike Ar688.2.1) Ar688.2.2 hin688 hat688 (g := (mkF m 222 #[.val (.int p0), .val (.int p1), .val (.int p2), .val (.int p3), .val (.int p4), .val (.int (3 : Int32)), .val (.int (2 : Int32)), .val (.int vs7), .val (.ref b29), .val (.int vq9), .val (.int (8 : Int32)), .val (.int (2 : Int32)), .val (.ref b546), .val (.int (0 : Int32)), .unset, .unset] [(.int (0 : Int32)), (.ref b29)])) rfl rfl (hb hby at_222) _) ?_
              show Goes _ _ _ _ _ _ _ (T663.setTop (mkF m 223 _ [(.int p1)]))
              refine G1 (fun _ => XS.iload X663.here hx rfl (hb hby at_223) rfl ) ?_
              by_cases c225_689 : p1 = vq9
              · refine G1 (fun _ => XS.icmpNo X663.here hx rfl (hb hby at_225) rfl (teq c225_689).2) ?_
                show Goes _ _ _ _ _ _ _ (T663.setTop (mkF m 228 _ []))
                refine G1 (fun _ => XS.iconst X663.here hx rfl (hb hby at_228)) ?_
                refine G1 (fun _ => XS.istore X663.here hx rfl (hb hby at_229) rfl (l' := #[.val (.int p0), .val (.int p1), .val (.int p2), .val (.int p3), .val (.int p4), .val (.int (3 : Int32)), .val (.int (2 : Int32)), .val (.int vs7), .val (.ref b29), .val (.int vq9), .val (.int (8 : Int32)), .val (.int (2 : Int32)), .val (.ref b546), .val (.int (1 : Int32)), .unset, .unset]) rfl) ?_
                show Goes _ _ _ _ _ _ _ (T663.setTop (mkF m 231 _ []))
                refine G1 (fun _ => XS.iload X663.here hx rfl (hb hby at_231) rfl ) ?_
                refine G1 (fun _ => XS.iconst X663.here hx rfl (hb hby at_233)) ?_
                refine G1 (fun _ => XS.icmpYes X663.here hx rfl (pc0 := 234) (pc' := 252) rfl (hb hby at_234) rfl (tlt (by decide : (2 : Int32) < (3 : Int32))).1 (by decide) (by decide)) ?_
                show Goes _ _ _ _ _ _ _ (T663.setTop (mkF m 252 _ []))
                show Goes _ _ _ _ _ _ _ (T663.setTop (mkF m 252 #[.val (.int p0), .val (.int p1), .val (.int p2), .val (.int p3), .val (.int p4), .val (.int (3 : Int32)), .val (.int (2 : Int32)), .val (.int vs7), .val (.ref b29), .val (.int vq9), .val (.int (8 : Int32)), .val (.int (2 : Int32)), .val (.ref b546), .val (.int (1 : Int32)), .unset, .unset] []))
                exact J252 _ (by simp only [decide_eq_false c204_685, decide_eq_true c225_689]; rfl)
              · refine G1 (fun _ => XS.icmpYes X663.here hx rfl (pc0 := 225) (pc' := 231) rfl (hb hby at_225) rfl (feq c225_689).2 (by decide) (by decide)) ?_
                show Goes _ _ _ _ _ _ _ (T663.setTop (mkF m 231 _ []))
                refine G1 (fun _ => XS.iload X663.here hx rfl (hb hby at_231) rfl ) ?_
                refine G1 (fun _ => XS.iconst X663.here hx rfl (hb hby at_233)) ?_
                refine G1 (fun _ => XS.icmpYes X663.here hx rfl (pc0 := 234) (pc' := 252) rfl (hb hby at_234) rfl (tlt (by decide : (2 : Int32) < (3 : Int32))).1 (by decide) (by decide)) ?_
                show Goes _ _ _ _ _ _ _ (T663.setTop (mkF m 252 _ []))
                show Goes _ _ _ _ _ _ _ (T663.setTop (mkF m 252 #[.val (.int p0), .val (.int p1), .val (.int p2), .val (.int p3), .val (.int p4), .val (.int (3 : Int32)), .val (.int (2 : Int32)), .val (.int vs7), .val (.ref b29), .val (.int vq9), .val (.int (8 : Int32)), .val (.int (2 : Int32)), .val (.ref b546), .val (.int (0 : Int32)), .unset, .unset] []))
                exact J252 _ (by simp only [decide_eq_false c204_685, decide_eq_false c225_689]; rfl)
          · obtain ⟨qx, px, rx⟩ := own_satE (own_t8 f1 f2 f3 f1 false false false nofun nofun nofun)
            cases pr2.symm.trans px
            obtain ⟨q3, pr3, -⟩ := own_satE rx
            show Goes _ _ _ _ _ _ _ (T663.setTop (mkF m 161 #[.val (.int p0), .val (.int p1), .val (.int p2), .val (.int p3), .val (.int p4), .val (.int (3 : Int32)), .val (.int (3 : Int32)), .val (.int vs7), .val (.ref b29), .val (.int vq9), .val (.int (8 : Int32)), .val (.int (3 : Int32)), .val (.ref b546), .unset, .unset, .unset] []))
            refine G1 (fun _ => XS.iload X663.here hx rfl (hb hby at_161) rfl ) ?_
            refine G1 (fun _ => XS.iconst X663.here hx rfl (hb hby at_163)) ?_
            refine G1 (fun _ => XS.icmpNo X663.here hx rfl (hb hby at_164) rfl (flt (by decide : ¬ ((3 : Int32) < (3 : Int32)))).1) ?_
            show Goes _ _ _ _ _ _ _ (T663.setTop (mkF m 167 _ []))
            refine G1 (fun _ => XS.aload X663.here hx rfl (hb hby at_167) rfl rfl) ?_
            refine G1 (fun _ => XS.aload X663.here hx rfl (hb hby at_169) rfl rfl) ?_
            refine G1 (fun _ => XS.iconst X663.here hx rfl (hb hby at_171)) ?_
            obtain ⟨cl690, Ar690, q690, S690, P690, H690, G690⟩ := id f666
            have hin690 : ¬ ((2 : Int32) < 0 ∨ cl690.slots.size ≤ ((2 : Int32)).toNatClampNeg) := inb_of S690 ⟨by decide, by decide⟩
            have hat690 : cl690.slots[((2 : Int32)).toNatClampNeg]? = some (.int p3) := H690 _ (by rw [S690]; decide)
            refine G1 (fun _ => X663.iaload hx (j := (2 : Int32)) (v := (.int p3)) (by exact Ar690.1) (State.isArrayOf_alike hZ.alike Ar690.2.1) Ar690.2.2 hin690 hat690 (g := (mkF m 172 #[.val (.int p0), .val (.int p1), .val (.int p2), .val (.int p3), .val (.int p4), .val (.int (3 : Int32)), .val (.int (3 : Int32)), .val (.int vs7), .val (.ref b29), .val (.int vq9), .val (.int (8 : Int32)), .val (.int (3 : Int32)), .val (.ref b546), .unset, .unset, .unset] [(.int (2 : Int32)), (.ref b29), (.ref b546)])) rfl rfl (hb hby at_172) _) ?_
            show Goes _ _ _ _ _ _ _ (T663.setTop (mkF m 173 _ [(.int p3), (.ref b546)]))
            refine G1 (fun _ => XS.iconst X663.here hx rfl (hb hby at_173)) ?_
            obtain ⟨_, _, ⟨T691, L691, k691, n691⟩, -, X691, ⟨Lc691, hQ691, l691, y691, z691⟩, st691⟩ := Jvm.LawKit.callS X663 hx (y := mN9) hown (mvT hZ w_52) (mvT hZ w_53) (mvT hZ w_15) (mvT hZ w_54) (by decide) (backOf (W := 2) (rm9 l Z a0 hw [] (2 : Int32) ca cc T663.heap n0 Z681 (S_high.ext XO664.2) (S_cache.ext XO664.2) BX XO664 (by decide) (by decide)) hZ w_54 w_15 (by decide) (by decide)) (g := (mkF m 174 #[.val (.int p0), .val (.int p1), .val (.int p2), .val (.int p3), .val (.int p4), .val (.int (3 : Int32)), .val (.int (3 : Int32)), .val (.int vs7), .val (.ref b29), .val (.int vq9), .val (.int (8 : Int32)), .val (.int (3 : Int32)), .val (.ref b546), .unset, .unset, .unset] [(.int (2 : Int32)), (.int p3), (.ref b546)])) rfl (by rw [hml]; rfl) (argsL := [(.int (2 : Int32))]) (rest := [(.int p3), (.ref b546)]) (lenOf pd_5 rfl) rfl (by show 2 * 0 + _ ≤ _; exact Nat.le_of_eq rfl) (hb hby at_174) (fun _ _ => ⟨rfl, rfl, (by decide : 5 + 0 ≤ _), (by decide : 33 + 0 ≤ _)⟩)
            dsimp only [Pt.U, Pt.locs, Pt.cells, Pt.slots] at X691 l691 y691 z691 st691 hQ691
            rw [l691, y691, z691] at X691
            obtain ⟨N691, KK691, r691, rfl, ex691⟩ := hQ691
            have NA691 := Fr.app NA663 N691
            have XO692 : Old Z n0 T691.heap := XO664.keep KK691 all0
            have f693 := f665.keep KK691
            have f694 := f666.keep KK691 nin0
            have f695 := pf663_0.keep KK691
            have f696 := f668.keep KK691
            have f697 := f669.keep KK691
            have f698 := f679.keep KK691
            have f699 := f680.keep KK691
            have f700 := pf663_1.keep KK691 nin0
            have f701 := pf663_2.keep KK691 nin0
            have f702 := pf663_3.keep KK691 nin0
            have f703 := pf663_4.keep KK691 nin0
            have f704 := pf663_5.keep KK691 nin0
            have f705 := pf663_6.keep KK691 nin0
            have f706 := pf663_7.keep KK691 nin0
            have f707 := pf663_8.keep KK691 nin0
            have f708 := pf663_9.keep KK691 nin0
            have K709 : Keep h0 T691.heap [] := K681.trans KK691 all0
            have Z709 : n0 ≤ T691.heap.size := Nat.le_trans Z681 KK691.1
            refine G1 st691 ?_
            show Goes _ _ _ _ _ _ _ (T691.setTop (mkF m 177 _ [(.ref r691), (.int p3), (.ref b546)]))
            refine G1 (fun _ => XS.bipush X691.here hx rfl (hb hby at_177)) ?_
            obtain ⟨_, _, ⟨T710, L710, k710, n710⟩, -, X710, ⟨Lc710, hQ710, l710, y710, z710⟩, st710⟩ := Jvm.LawKit.callS X691 hx (y := mN9) hown (mvT hZ w_52) (mvT hZ w_53) (mvT hZ w_15) (mvT hZ w_54) (by decide) (backOf (W := 3) (rm9 l Z a0 hw [] (12 : Int32) ca cc T691.heap n0 Z709 (S_high.ext XO692.2) (S_cache.ext XO692.2) BX XO692 (by decide) (by decide)) hZ w_54 w_15 (by decide) (by decide)) (g := (mkF m 179 #[.val (.int p0), .val (.int p1), .val (.int p2), .val (.int p3), .val (.int p4), .val (.int (3 : Int32)), .val (.int (3 : Int32)), .val (.int vs7), .val (.ref b29), .val (.int vq9), .val (.int (8 : Int32)), .val (.int (3 : Int32)), .val (.ref b546), .unset, .unset, .unset] [(.int (12 : Int32)), (.ref r691), (.int p3), (.ref b546)])) rfl (by rw [hml]; rfl) (argsL := [(.int (12 : Int32))]) (rest := [(.ref r691), (.int p3), (.ref b546)]) (lenOf pd_5 rfl) rfl (by show 2 * 0 + _ ≤ _; exact Nat.le_of_eq rfl) (hb hby at_179) (fun _ _ => ⟨rfl, rfl, (by decide : 5 + 0 ≤ _), (by decide : 33 + 0 ≤ _)⟩)
            dsimp only [Pt.U, Pt.locs, Pt.cells, Pt.slots] at X710 l710 y710 z710 st710 hQ710
            rw [l710, y710, z710] at X710
            obtain ⟨N710, KK710, r710, rfl, ex710⟩ := hQ710
            have NA710 := Fr.app NA691 N710
            have XO711 : Old Z n0 T710.heap := XO692.keep KK710 all0
            have f712 := f693.keep KK710
            have f713 := f694.keep KK710 nin0
            have f714 := f695.keep KK710
            have f715 := f696.keep KK710
            have f716 := f697.keep KK710
            have f717 := f698.keep KK710
            have f718 := f699.keep KK710
            have f719 := f700.keep KK710 nin0
            have f720 := f701.keep KK710 nin0
            have f721 := f702.keep KK710 nin0
            have f722 := f703.keep KK710 nin0
            have f723 := f704.keep KK710 nin0
            have f724 := f705.keep KK710 nin0
            have f725 := f706.keep KK710 nin0
            have f726 := f707.keep KK710 nin0
            have f727 := f708.keep KK710 nin0
            have f728 := ex691.keep KK710
            have K729 : Keep h0 T710.heap [] := K709.trans KK710 all0
            have Z729 : n0 ≤ T710.heap.size := Nat.le_trans Z709 KK710.1
            refine G1 st710 ?_
            show Goes _ _ _ _ _ _ _ (T710.setTop (mkF m 182 _ [(.ref r710), (.ref r691), (.int p3), (.ref b546)]))
            have rc730 : ArF Z T710.heap r552_0_0 kk552_0_0 (.object "java/lang/Object") 8 (fun j => rfv (own_K r571 r626 r691) ((own_put (own_put own_t0 f1.val 0) q2 1) j)) := f725.congr (own_recast (own_cP (own_cP own_c0 (by rfl)) (by rfl)))
            have rc731 : ArF Z T710.heap r552_0_2 kk552_0_2 (.object "java/lang/Object") 8 (fun j => rfv (own_K r586 r643 r710) ((own_put (own_put own_t0 f1.val 0) q2 1) j)) := f727.congr (own_recast (own_cP (own_cP own_c0 (by rfl)) (by rfl)))
            obtain ⟨cq732, kq732, q732a, q732b, q732c⟩ := isOf hZ rfl f714
            obtain ⟨_, _, ⟨T732, L732, k732, n732⟩, -, X732, ⟨Lc732, hQ732, l732, y732, z732⟩, st732⟩ := X710.virtualBack hx (y := mN10) (z := mN10) hown (mvT hZ w_58) (mvT hZ w_59) (notFace_of_selects (args := #[]) (mvT hZ w_61)) (mvT hZ w_61) (mvT hZ w_60) (by decide) (backOf (W := 0) (rm10_n l Z a0 hw [] b546 p3 r691 r710 r552_0_0 r552_0_1 r552_0_2 kk552_0_0 kk552_0_1 kk552_0_2 8 (own_put (own_put own_t0 f1.val 0) q2 1) (own_hp (own_hp (fun _ => (0 : Int32)) f1.val p1) q2 p2) (own_K r571 r626 r691) (own_K r586 r643 r710) (29 : Int32) (3 : Int32) (2 : Int32) 2 9 q3 T710.heap n0 Z729 f714 f719 f720 f721 f722 f723 f724 rc730 f726 rc731 oo552_0_0 oo552_0_1 (Ins.of_exa f728 w_65) (Ins.of_exa ex710 w_65) rfl rfl g_b546 g_r552_0_0 g_r552_0_1 g_r552_0_2 (Ne.symm ne565) (Ne.symm ne567) nn552_0_0 (Ne.symm ne569) nn552_0_1 nn552_0_2 (by decide) hN hS (by rw [← hf3]; exact pr3)) hZ w_62 w_3 (by decide) (by decide)) q732a q732c (g := (mkF m 182 #[.val (.int p0), .val (.int p1), .val (.int p2), .val (.int p3), .val (.int p4), .val (.int (3 : Int32)), .val (.int (3 : Int32)), .val (.int vs7), .val (.ref b29), .val (.int vq9), .val (.int (8 : Int32)), .val (.int (3 : Int32)), .val (.ref b546), .unset, .unset, .unset] [(.ref r710), (.ref r691), (.int p3), (.ref b546)])) rfl (by rw [hml]; rfl) (Steps.refl _) (argsL := [(.int p3), (.ref r691), (.ref r710)]) (rest := []) (lenOf pd_6 rfl) rfl (by show 2 * 0 + _ ≤ _; exact Nat.le_of_eq rfl) (hb hby at_182) (fun _ _ => ⟨rfl, rfl, (by decide : 5 + 0 ≤ _), (by decide : 33 + 0 ≤ _)⟩)
            dsimp only [Pt.U, Pt.locs, Pt.cells, Pt.slots] at X732 l732 y732 z732 st732 hQ732
            rw [l732, y732, z732] at X732
            obtain ⟨N732, KK732, rfl, pf732_0, pf732_1, pf732_2, pf732_3, pf732_4, pf732_5, pf732_6, pf732_7, pf732_8, pf732_9⟩ := hQ732
            have NA732 := Fr.app NA710 N732
            have XO733 : Old Z n0 T732.heap := XO711.keep KK732 (allS g_b546 (allS g_r552_0_0 (allS g_r552_0_1 (allS g_r552_0_2 all0))))
            have f734 := f712.keep KK732
            have f735 := f713.keep KK732 (ninS ne547 (ninS ne564 (ninS ne566 (ninS ne568 nin0))))
            have f736 := f714.keep KK732
            have f737 := f715.keep KK732
            have f738 := f716.keep KK732
            have f739 := f717.keep KK732
            have f740 := f718.keep KK732
            have f750 := f728.keep KK732
            have f751 := ex710.keep KK732
            have K752 : Keep h0 T732.heap [] := K729.trans KK732 (allS (Or.inr sz_b546) (allS (Or.inr sz_r552_0_0) (allS (Or.inr sz_r552_0_1) (allS (Or.inr sz_r552_0_2) all0))))
            have Z752 : n0 ≤ T732.heap.size := Nat.le_trans Z729 KK732.1
            refine G2 st732 ?_
            show Goes _ _ _ _ _ _ _ (T732.setTop (mkF m 185 _ [(.ref r710)]))
            refine G1 (fun _ => XS.pop X732.here hx rfl (hb hby at_185) rfl rfl) ?_
            show Goes _ _ _ _ _ _ _ (T732.setTop (mkF m 186 _ []))
            refine G1 (fun _ => XS.iconst X732.here hx rfl (hb hby at_186)) ?_
            refine G1 (fun _ => XS.istore X732.here hx rfl (hb hby at_187) rfl (l' := #[.val (.int p0), .val (.int p1), .val (.int p2), .val (.int p3), .val (.int p4), .val (.int (3 : Int32)), .val (.int (3 : Int32)), .val (.int vs7), .val (.ref b29), .val (.int vq9), .val (.int (8 : Int32)), .val (.int (3 : Int32)), .val (.ref b546), .val (.int (0 : Int32)), .unset, .unset]) rfl) ?_
            show Goes _ _ _ _ _ _ _ (T732.setTop (mkF m 189 _ []))
            show Goes _ _ _ _ _ _ _ (T732.setTop (mkF m 189 #[.val (.int p0), .val (.int p1), .val (.int p2), .val (.int p3), .val (.int p4), .val (.int (3 : Int32)), .val (.int (3 : Int32)), .val (.int vs7), .val (.ref b29), .val (.int vq9), .val (.int (8 : Int32)), .val (.int (3 : Int32)), .val (.ref b546), .val (.int (0 : Int32)), .unset, .unset] []))
            obtain ⟨qy, py, lw0⟩ := own_satE (own_t8 f1 f2 f3 f4 (decide (p1 = vq9)) (decide (p2 = vq9)) (decide (p3 = vq9)) ee1 ee2 ee3)
            cases pr2.symm.trans py
            obtain ⟨qz, pz, lw⟩ := own_satE lw0
            cases pr3.symm.trans pz
            rw [Bool.and_eq_true] at lw
            obtain ⟨pp, hsk0, hpb0⟩ := own_satE lw.1
            have hpb : own_b ((own_put (own_put (own_put own_t0 f1.val 0) q2 1) q3 2) pp) = own_i ((decide (p1 = vq9)) || (decide (p2 = vq9)) || (decide (p3 = vq9))) := own_beq hpb0
            have hcn : own_b ((own_put (own_put (own_put own_t0 f1.val 0) q2 1) q3 2) ((0 : Int32)).toNatClampNeg) + own_b ((own_put (own_put (own_put own_t0 f1.val 0) q2 1) q3 2) ((1 : Int32)).toNatClampNeg) + own_b ((own_put (own_put (own_put own_t0 f1.val 0) q2 1) q3 2) ((2 : Int32)).toNatClampNeg) + own_b ((own_put (own_put (own_put own_t0 f1.val 0) q2 1) q3 2) ((3 : Int32)).toNatClampNeg) + own_b ((own_put (own_put (own_put own_t0 f1.val 0) q2 1) q3 2) ((4 : Int32)).toNatClampNeg) + own_b ((own_put (own_put (own_put own_t0 f1.val 0) q2 1) q3 2) ((5 : Int32)).toNatClampNeg) + own_b ((own_put (own_put (own_put own_t0 f1.val 0) q2 1) q3 2) ((6 : Int32)).toNatClampNeg) + own_b ((own_put (own_put (own_put own_t0 f1.val 0) q2 1) q3 2) ((7 : Int32)).toNatClampNeg) = (3 : Int32) := own_beq lw.2
            have hsk : seekP (own_put (own_put (own_put own_t0 f1.val 0) q2 1) q3 2) (fun j => decide (own_H p1 p2 p3 j = vq9)) 8 9 (own_f vq9 (29 : Int32)).toNatClampNeg = some pp := by rw [own_e3H, ← hf4]; exact hsk0
            have hH : ∀ p j, (own_put (own_put (own_put own_t0 f1.val 0) q2 1) q3 2) p = some j → (own_hp (own_hp (own_hp (fun _ => (0 : Int32)) f1.val p1) q2 p2) q3 p3) p = own_H p1 p2 p3 j := (own_hH (own_hH (own_hH own_hH0 (by rfl)) (by rfl)) (by rfl))
            have J252 : ∀ ex : Int32, own_i ((decide (p1 = vq9)) || (decide (p2 = vq9)) || (decide (p3 = vq9))) = ex → Goes p e below s room_1.cells room_1.slots (fun v h L => Q0 Z p0 p1 p2 p3 p4 ca cc h0 n0 v h L) (T732.setTop (mkF m 252 #[.val (.int p0), .val (.int p1), .val (.int p2), .val (.int p3), .val (.int p4), .val (.int (3 : Int32)), .val (.int (3 : Int32)), .val (.int vs7), .val (.ref b29), .val (.int vq9), .val (.int (8 : Int32)), .val (.int (3 : Int32)), .val (.ref b546), .val (.int ex), .unset, .unset] [])) := by
              intro ex hex
              refine G1 (fun _ => XS.aload X732.here hx rfl (hb hby at_252) rfl rfl) ?_
              refine G1 (fun _ => XS.aload X732.here hx rfl (hb hby at_254) rfl rfl) ?_
              refine G1 (fun _ => XS.iload X732.here hx rfl (hb hby at_256) rfl ) ?_
              obtain ⟨cq753, kq753, q753a, q753b, q753c⟩ := isOf hZ rfl pf732_0
              obtain ⟨_, _, ⟨T753, L753, k753, n753⟩, -, X753, ⟨Lc753, hQ753, l753, y753, z753⟩, st753⟩ := X732.virtualBack hx (y := mN8) (z := mN8) hown (mvT hZ w_33) (mvT hZ w_34) (notFace_of_selects (args := #[]) (mvT hZ w_36)) (mvT hZ w_36) (mvT hZ w_35) (by decide) (backOf (W := 1) (rm5 l Z a0 hw [] b546 vq9 r552_0_0 r552_0_1 r552_0_2 kk552_0_0 kk552_0_1 kk552_0_2 8 (own_put (own_put (own_put own_t0 f1.val 0) q2 1) q3 2) (own_hp (own_hp (own_hp (fun _ => (0 : Int32)) f1.val p1) q2 p2) q3 p3) (own_K r571 r626 r691) (own_K r586 r643 r710) (29 : Int32) (3 : Int32) (3 : Int32) (own_H p1 p2 p3) 9 pp T732.heap n0 Z752 pf732_0 pf732_1 pf732_2 pf732_3 pf732_4 pf732_5 pf732_6 pf732_7 pf732_8 pf732_9 hN hH hS hsk) hZ w_37 w_3 (by decide) (by decide)) q753a q753c (g := (mkF m 258 #[.val (.int p0), .val (.int p1), .val (.int p2), .val (.int p3), .val (.int p4), .val (.int (3 : Int32)), .val (.int (3 : Int32)), .val (.int vs7), .val (.ref b29), .val (.int vq9), .val (.int (8 : Int32)), .val (.int (3 : Int32)), .val (.ref b546), .val (.int ex), .unset, .unset] [(.int vq9), (.ref b546), (.ref b546)])) rfl (by rw [hml]; rfl) (Steps.refl _) (argsL := [(.int vq9)]) (rest := [(.ref b546)]) (lenOf pd_2 rfl) rfl (by show 2 * 0 + _ ≤ _; exact Nat.le_of_eq rfl) (hb hby at_258) (fun _ _ => ⟨rfl, rfl, (by decide : 5 + 0 ≤ _), (by decide : 33 + 0 ≤ _)⟩)
              dsimp only [Pt.U, Pt.locs, Pt.cells, Pt.slots] at X753 l753 y753 z753 st753 hQ753
              rw [l753, y753, z753] at X753
              obtain ⟨N753, eh753, r753, rfl, r1_753, r2_753, r3_753⟩ := hQ753
              have NA753 := Fr.app NA732 N753
              refine G2 st753 ?_
              show Goes _ _ _ _ _ _ _ (T753.setTop (mkF m 261 _ [(.int r753), (.ref b546)]))
              obtain ⟨cq754, kq754, q754a, q754b, q754c⟩ := isOf hZ eh753 pf732_0
              obtain ⟨_, _, ⟨T754, L754, k754, n754⟩, -, X754, ⟨Lc754, hQ754, l754, y754, z754⟩, st754⟩ := X753.virtualBack hx (y := mN6) (z := mN6) hown (mvT hZ w_47) (mvT hZ w_48) (notFace_of_selects (args := #[]) (mvT hZ w_50)) (mvT hZ w_50) (mvT hZ w_49) (by decide) (backOf (W := 0) (rm8 l Z a0 hw [] b546 r753 r552_0_0 r552_0_1 r552_0_2 kk552_0_0 kk552_0_1 kk552_0_2 8 (own_put (own_put (own_put own_t0 f1.val 0) q2 1) q3 2) (own_hp (own_hp (own_hp (fun _ => (0 : Int32)) f1.val p1) q2 p2) q3 p3) (own_K r571 r626 r691) (own_K r586 r643 r710) (29 : Int32) (3 : Int32) (3 : Int32) T732.heap n0 Z752 pf732_0 pf732_1 pf732_2 pf732_3 pf732_4 pf732_5 pf732_6 pf732_7 pf732_8 pf732_9 r1_753 r3_753) hZ w_51 w_3 (by decide) (by decide)) q754a q754c (g := (mkF m 261 #[.val (.int p0), .val (.int p1), .val (.int p2), .val (.int p3), .val (.int p4), .val (.int (3 : Int32)), .val (.int (3 : Int32)), .val (.int vs7), .val (.ref b29), .val (.int vq9), .val (.int (8 : Int32)), .val (.int (3 : Int32)), .val (.ref b546), .val (.int ex), .unset, .unset] [(.int r753), (.ref b546)])) rfl (by rw [hml]; rfl) (Steps.refl _) (argsL := [(.int r753)]) (rest := []) (lenOf pd_4 rfl) rfl (by show 2 * 0 + _ ≤ _; exact Nat.le_of_eq rfl) (hb hby at_261) (fun _ _ => ⟨rfl, eh753, (by decide : 5 + 0 ≤ _), (by decide : 33 + 0 ≤ _)⟩)
              dsimp only [Pt.U, Pt.locs, Pt.cells, Pt.slots] at X754 l754 y754 z754 st754 hQ754
              rw [l754, y754, z754] at X754
              obtain ⟨N754, eh754, hv754⟩ := hQ754
              have NA754 := Fr.app NA753 N754
              subst hv754
              refine G2 st754 ?_
              show Goes _ _ _ _ _ _ _ (T754.setTop (mkF m 264 _ [(.int (own_b ((own_put (own_put (own_put own_t0 f1.val 0) q2 1) q3 2) (r753).toNatClampNeg)))]))
              refine G1 (fun _ => XS.istore X754.here hx rfl (hb hby at_264) rfl (l' := #[.val (.int p0), .val (.int p1), .val (.int p2), .val (.int p3), .val (.int p4), .val (.int (3 : Int32)), .val (.int (3 : Int32)), .val (.int vs7), .val (.ref b29), .val (.int vq9), .val (.int (8 : Int32)), .val (.int (3 : Int32)), .val (.ref b546), .val (.int ex), .val (.int (own_b ((own_put (own_put (own_put own_t0 f1.val 0) q2 1) q3 2) (r753).toNatClampNeg))), .unset]) rfl) ?_
              show Goes _ _ _ _ _ _ _ (T754.setTop (mkF m 266 _ []))
              show Goes _ _ _ _ _ _ _ (T754.setTop (mkF m 266 #[.val (.int p0), .val (.int p1), .val (.int p2), .val (.int p3), .val (.int p4), .val (.int (3 : Int32)), .val (.int (3 : Int32)), .val (.int vs7), .val (.ref b29), .val (.int vq9), .val (.int (8 : Int32)), .val (.int (3 : Int32)), .val (.ref b546), .val (.int ex), .val (.int (own_b ((own_put (own_put (own_put own_t0 f1.val 0) q2 1) q3 2) (r753).toNatClampNeg))), .unset] []))
              have hfx : (own_b ((own_put (own_put (own_put own_t0 f1.val 0) q2 1) q3 2) (r753).toNatClampNeg)) = ex := by rw [r2_753]; exact hpb.trans hex
              rw [hfx]
              exact J266_8 _ _ _ _ _ ex _ _ r552_0_0 r552_0_1 r552_0_2 kk552_0_0 kk552_0_1 kk552_0_2 (own_put (own_put (own_put own_t0 f1.val 0) q2 1) q3 2) (own_hp (own_hp (own_hp (fun _ => (0 : Int32)) f1.val p1) q2 p2) q3 p3) (own_K r571 r626 r691) (own_K r586 r643 r710) (3 : Int32) T732.heap _ _ X754 eh754 NA754 Z752 pf732_0 pf732_1 pf732_2 pf732_3 pf732_4 pf732_5 pf732_6 pf732_7 pf732_8 pf732_9 hcn
            show Goes _ _ _ _ _ _ _ (T732.setTop (mkF m 189 #[.val (.int p0), .val (.int p1), .val (.int p2), .val (.int p3), .val (.int p4), .val (.int (3 : Int32)), .val (.int (3 : Int32)), .val (.int vs7), .val (.ref b29), .val (.int vq9), .val (.int (8 : Int32)), .val (.int (3 : Int32)), .val (.ref b546), .val (.int (0 : Int32)), .unset, .unset] []))
            refine G1 (fun _ => XS.iload X732.here hx rfl (hb hby at_189) rfl ) ?_
            refine G1 (fun _ => XS.iconst X732.here hx rfl (hb hby at_191)) ?_
            refine G1 (fun _ => XS.icmpNo X732.here hx rfl (hb hby at_192) rfl (flt (by decide : ¬ ((3 : Int32) < (1 : Int32)))).1) ?_
            show Goes _ _ _ _ _ _ _ (T732.setTop (mkF m 195 _ []))
            refine G1 (fun _ => XS.aload X732.here hx rfl (hb hby at_195) rfl rfl) ?_
            refine G1 (fun _ => XS.iload X732.here hx rfl (hb hby at_197) rfl ) ?_
            refine G1 (fun _ => XS.iconst X732.here hx rfl (hb hby at_199)) ?_
            refine G1 (fun _ => XS.isub X732.here hx rfl (hb hby at_200) rfl) ?_
            show Goes _ _ _ _ _ _ _ (T732.setTop (mkF m 201 _ [(.int (2 : Int32)), (.ref b29)]))
            obtain ⟨cl755, Ar755, q755, S755, P755, H755, G755⟩ := id f735
            have hin755 : ¬ ((2 : Int32) < 0 ∨ cl755.slots.size ≤ ((2 : Int32)).toNatClampNeg) := inb_of S755 ⟨by decide, by decide⟩
            have hat755 : cl755.slots[((2 : Int32)).toNatClampNeg]? = some (.int p3) := H755 _ (by rw [S755]; decide)
            refine G1 (fun _ => X732.iaload hx (j := (2 : Int32)) (v := (.int p3)) (by exact Ar755.1) (State.isArrayOf_alike hZ.alike Ar755.2.1) Ar755.2.2 hin755 hat755 (g := (mkF m 201 #[.val (.int p0), .val (.int p1), .val (.int p2), .val (.int p3), .val (.int p4), .val (.int (3 : Int32)), .val (.int (3 : Int32)), .val (.int vs7), .val (.ref b29), .val (.int vq9), .val (.int (8 : Int32)), .val (.int (3 : Int32)), .val (.ref b546), .val (.int (0 : Int32)), .unset, .unset] [(.int (2 : Int32)), (.ref b29)])) rfl rfl (hb hby at_201) _) ?_
            show Goes _ _ _ _ _ _ _ (T732.setTop (mkF m 202 _ [(.int p3)]))
            refine G1 (fun _ => XS.iload X732.here hx rfl (hb hby at_202) rfl ) ?_
            by_cases c204_756 : p3 = vq9
            · refine G1 (fun _ => XS.icmpNo X732.here hx rfl (hb hby at_204) rfl (teq c204_756).2) ?_
              show Goes _ _ _ _ _ _ _ (T732.setTop (mkF m 207 _ []))
              refine G1 (fun _ => XS.iconst X732.here hx rfl (hb hby at_207)) ?_
              refine G1 (fun _ => XS.istore X732.here hx rfl (hb hby at_208) rfl (l' := #[.val (.int p0), .val (.int p1), .val (.int p2), .val (.int p3), .val (.int p4), .val (.int (3 : Int32)), .val (.int (3 : Int32)), .val (.int vs7), .val (.ref b29), .val (.int vq9), .val (.int (8 : Int32)), .val (.int (3 : Int32)), .val (.ref b546), .val (.int (1 : Int32)), .unset, .unset]) rfl) ?_
              show Goes _ _ _ _ _ _ _ (T732.setTop (mkF m 210 _ []))
              refine G1 (fun _ => XS.iload X732.here hx rfl (hb hby at_210) rfl ) ?_
              refine G1 (fun _ => XS.iconst X732.here hx rfl (hb hby at_212)) ?_
              refine G1 (fun _ => XS.icmpNo X732.here hx rfl (hb hby at_213) rfl (flt (by decide : ¬ ((3 : Int32) < (2 : Int32)))).1) ?_
              show Goes _ _ _ _ _ _ _ (T732.setTop (mkF m 216 _ []))
              refine G1 (fun _ => XS.aload X732.here hx rfl (hb hby at_216) rfl rfl) ?_
              refine G1 (fun _ => XS.iload X732.here hx rfl (hb hby at_218) rfl ) ?_
              refine G1 (fun _ => XS.iconst X732.here hx rfl (hb hby at_220)) ?_
              refine G1 (fun _ => XS.isub X732.here hx rfl (hb hby at_221) rfl) ?_
              show Goes _ _ _ _ _ _ _ (T732.setTop (mkF m 222 _ [(.int (1 : Int32)), (.ref b29)]))
              obtain ⟨cl757, Ar757, q757, S757, P757, H757, G757⟩ := id f735
              have hin757 : ¬ ((1 : Int32) < 0 ∨ cl757.slots.size ≤ ((1 : Int32)).toNatClampNeg) := inb_of S757 ⟨by decide, by decide⟩
              have hat757 : cl757.slots[((1 : Int32)).toNatClampNeg]? = some (.int p2) := H757 _ (by rw [S757]; decide)
              refine G1 (fun _ => X732.iaload hx (j := (1 : Int32)) (v := (.int p2)) (by exact Ar757.1) (State.isArrayOf_alike hZ.alike Ar757.2.1) Ar757.2.2 hin757 hat757 (g := (mkF m 222 #[.val (.int p0), .val (.int p1), .val (.int p2), .val (.int p3), .val (.int p4), .val (.int (3 : Int32)), .val (.int (3 : Int32)), .val (.int vs7), .val (.ref b29), .val (.int vq9), .val (.int (8 : Int32)), .val (.int (3 : Int32)), .val (.ref b546), .val (.int (1 : Int32)), .unset, .unset] [(.int (1 : Int32)), (.ref b29)])) rfl rfl (hb hby at_222) _) ?_
              show Goes _ _ _ _ _ _ _ (T732.setTop (mkF m 223 _ [(.int p2)]))
              refine G1 (fun _ => XS.iload X732.here hx rfl (hb hby at_223) rfl ) ?_
              by_cases c225_758 : p2 = vq9
              · refine G1 (fun _ => XS.icmpNo X732.here hx rfl (hb hby at_225) rfl (teq c225_758).2) ?_
                show Goes _ _ _ _ _ _ _ (T732.setTop (mkF m 228 _ []))
                refine G1 (fun _ => XS.iconst X732.here hx rfl (hb hby at_228)) ?_
                refine G1 (fun _ => XS.istore X732.here hx rfl (hb hby at_229) rfl (l' := #[.val (.int p0), .val (.int p1), .val (.int p2), .val (.int p3), .val (.int p4), .val (.int (3 : Int32)), .val (.int (3 : Int32)), .val (.int vs7), .val (.ref b29), .val (.int vq9), .val (.int (8 : Int32)), .val (.int (3 : Int32)), .val (.ref b546), .val (.int (1 : Int32)), .unset, .unset]) rfl) ?_
                show Goes _ _ _ _ _ _ _ (T732.setTop (mkF m 231 _ []))
                refine G1 (fun _ => XS.iload X732.here hx rfl (hb hby at_231) rfl ) ?_
                refine G1 (fun _ => XS.iconst X732.here hx rfl (hb hby at_233)) ?_
                refine G1 (fun _ => XS.icmpNo X732.here hx rfl (hb hby at_234) rfl (flt (by decide : ¬ ((3 : Int32) < (3 : Int32)))).1) ?_
                show Goes _ _ _ _ _ _ _ (T732.setTop (mkF m 237 _ []))
                refine G1 (fun _ => XS.aload X732.here hx rfl (hb hby at_237) rfl rfl) ?_
                refine G1 (fun _ => XS.iload X732.here hx rfl (hb hby at_239) rfl ) ?_
                refine G1 (fun _ => XS.iconst X732.here hx rfl (hb hby at_241)) ?_
                refine G1 (fun _ => XS.isub X732.here hx rfl (hb hby at_242) rfl) ?_
                show Goes _ _ _ _ _ _ _ (T732.setTop (mkF m 243 _ [(.int (0 : Int32)), (.ref b29)]))
                obtain ⟨cl759, Ar759, q759, S759, P759, H759, G759⟩ := id f735
                have hin759 : ¬ ((0 : Int32) < 0 ∨ cl759.slots.size ≤ ((0 : Int32)).toNatClampNeg) := inb_of S759 ⟨by decide, by decide⟩
                have hat759 : cl759.slots[((0 : Int32)).toNatClampNeg]? = some (.int p1) := H759 _ (by rw [S759]; decide)
                refine G1 (fun _ => X732.iaload hx (j := (0 : Int32)) (v := (.int p1)) (by exact Ar759.1) (State.isArrayOf_alike hZ.alike Ar759.2.1) Ar759.2.2 hin759 hat759 (g := (mkF m 243 #[.val (.int p0), .val (.int p1), .val (.int p2), .val (.int p3), .val (.int p4), .val (.int (3 : Int32)), .val (.int (3 : Int32)), .val (.int vs7), .val (.ref b29), .val (.int vq9), .val (.int (8 : Int32)), .val (.int (3 : Int32)), .val (.ref b546), .val (.int (1 : Int32)), .unset, .unset] [(.int (0 : Int32)), (.ref b29)])) rfl rfl (hb hby at_243) _) ?_
                show Goes _ _ _ _ _ _ _ (T732.setTop (mkF m 244 #[.val (.int p0), .val (.int p1), .val (.int p2), .val (.int p3), .val (.int p4), .val (.int (3 : Int32)), .val (.int (3 : Int32)), .val (.int vs7), .val (.ref b29), .val (.int vq9), .val (.int (8 : Int32)), .val (.int (3 : Int32)), .val (.ref b546), .val (.int (1 : Int32)), .unset, .unset] [(.int p1)]))
                refine G1 (fun _ => XS.iload X732.here hx rfl (hb hby at_244) rfl ) ?_
                by_cases c246_760 : p1 = vq9
                · refine G1 (fun _ => XS.icmpNo X732.here hx rfl (hb hby at_246) rfl (teq c246_760).2) ?_
                  show Goes _ _ _ _ _ _ _ (T732.setTop (mkF m 249 _ []))
                  refine G1 (fun _ => XS.iconst X732.here hx rfl (hb hby at_249)) ?_
                  refine G1 (fun _ => XS.istore X732.here hx rfl (hb hby at_250) rfl (l' := #[.val (.int p0), .val (.int p1), .val (.int p2), .val (.int p3), .val (.int p4), .val (.int (3 : Int32)), .val (.int (3 : Int32)), .val (.int vs7), .val (.ref b29), .val (.int vq9), .val (.int (8 : Int32)), .val (.int (3 : Int32)), .val (.ref b546), .val (.int (1 : Int32)), .unset, .unset]) rfl) ?_
                  show Goes _ _ _ _ _ _ _ (T732.setTop (mkF m 252 _ []))
                  show Goes _ _ _ _ _ _ _ (T732.setTop (mkF m 252 #[.val (.int p0), .val (.int p1), .val (.int p2), .val (.int p3), .val (.int p4), .val (.int (3 : Int32)), .val (.int (3 : Int32)), .val (.int vs7), .val (.ref b29), .val (.int vq9), .val (.int (8 : Int32)), .val (.int (3 : Int32)), .val (.ref b546), .val (.int (1 : Int32)), .unset, .unset] []))
                  exact J252 _ (by simp only [decide_eq_true c204_756, decide_eq_true c225_758, decide_eq_true c246_760]; rfl)
                · refine G1 (fun _ => XS.icmpYes X732.here hx rfl (pc0 := 246) (pc' := 252) rfl (hb hby at_246) rfl (feq c246_760).2 (by decide) (by decide)) ?_
                  show Goes _ _ _ _ _ _ _ (T732.setTop (mkF m 252 _ []))
                  show Goes _ _ _ _ _ _ _ (T732.setTop (mkF m 252 #[.val (.int p0), .val (.int p1), .val (.int p2), .val (.int p3), .val (.int p4), .val (.int (3 : Int32)), .val (.int (3 : Int32)), .val (.int vs7), .val (.ref b29), .val (.int vq9), .val (.int (8 : Int32)), .val (.int (3 : Int32)), .val (.ref b546), .val (.int (1 : Int32)), .unset, .unset] []))
                  exact J252 _ (by simp only [decide_eq_true c204_756, decide_eq_true c225_758, decide_eq_false c246_760]; rfl)
              · refine G1 (fun _ => XS.icmpYes X732.here hx rfl (pc0 := 225) (pc' := 231) rfl (hb hby at_225) rfl (feq c225_758).2 (by decide) (by decide)) ?_
                show Goes _ _ _ _ _ _ _ (T732.setTop (mkF m 231 _ []))
                refine G1 (fun _ => XS.iload X732.here hx rfl (hb hby at_231) rfl ) ?_
                refine G1 (fun _ => XS.iconst X732.here hx rfl (hb hby at_233)) ?_
                refine G1 (fun _ => XS.icmpNo X732.here hx rfl (hb hby at_234) rfl (flt (by decide : ¬ ((3 : Int32) < (3 : Int32)))).1) ?_
                show Goes _ _ _ _ _ _ _ (T732.setTop (mkF m 237 _ []))
                refine G1 (fun _ => XS.aload X732.here hx rfl (hb hby at_237) rfl rfl) ?_
                refine G1 (fun _ => XS.iload X732.here hx rfl (hb hby at_239) rfl ) ?_
                refine G1 (fun _ => XS.iconst X732.here hx rfl (hb hby at_241)) ?_
                refine G1 (fun _ => XS.isub X732.here hx rfl (hb hby at_242) rfl) ?_
                show Goes _ _ _ _ _ _ _ (T732.setTop (mkF m 243 _ [(.int (0 : Int32)), (.ref b29)]))
                obtain ⟨cl761, Ar761, q761, S761, P761, H761, G761⟩ := id f735
                have hin761 : ¬ ((0 : Int32) < 0 ∨ cl761.slots.size ≤ ((0 : Int32)).toNatClampNeg) := inb_of S761 ⟨by decide, by decide⟩
                have hat761 : cl761.slots[((0 : Int32)).toNatClampNeg]? = some (.int p1) := H761 _ (by rw [S761]; decide)
                refine G1 (fun _ => X732.iaload hx (j := (0 : Int32)) (v := (.int p1)) (by exact Ar761.1) (State.isArrayOf_alike hZ.alike Ar761.2.1) Ar761.2.2 hin761 hat761 (g := (mkF m 243 #[.val (.int p0), .val (.int p1), .val (.int p2), .val (.int p3), .val (.int p4), .val (.int (3 : Int32)), .val (.int (3 : Int32)), .val (.int vs7), .val (.ref b29), .val (.int vq9), .val (.int (8 : Int32)), .val (.int (3 : Int32)), .val (.ref b546), .val (.int (1 : Int32)), .unset, .unset] [(.int (0 : Int32)), (.ref b29)])) rfl rfl (hb hby at_243) _) ?_
                show Goes _ _ _ _ _ _ _ (T732.setTop (mkF m 244 _ [(.int p1)]))
                refine G1 (fun _ => XS.iload X732.here hx rfl (hb hby at_244) rfl ) ?_
                by_cases c246_762 : p1 = vq9
                · refine G1 (fun _ => XS.icmpNo X732.here hx rfl (hb hby at_246) rfl (teq c246_762).2) ?_
                  show Goes _ _ _ _ _ _ _ (T732.setTop (mkF m 249 #[.val (.int p0), .val (.int p1), .val (.int p2), .val (.int p3), .val (.int p4), .val (.int (3 : Int32)), .val (.int (3 : Int32)), .val (.int vs7), .val (.ref b29), .val (.int vq9), .val (.int (8 : Int32)), .val (.int (3 : Int32)), .val (.ref b546), .val (.int (1 : Int32)), .unset, .unset] []))
                  refine G1 (fun _ => XS.iconst X732.here hx rfl (hb hby at_249)) ?_
                  refine G1 (fun _ => XS.istore X732.here hx rfl (hb hby at_250) rfl (l' := #[.val (.int p0), .val (.int p1), .val (.int p2), .val (.int p3), .val (.int p4), .val (.int (3 : Int32)), .val (.int (3 : Int32)), .val (.int vs7), .val (.ref b29), .val (.int vq9), .val (.int (8 : Int32)), .val (.int (3 : Int32)), .val (.ref b546), .val (.int (1 : Int32)), .unset, .unset]) rfl) ?_
                  show Goes _ _ _ _ _ _ _ (T732.setTop (mkF m 252 _ []))
                  show Goes _ _ _ _ _ _ _ (T732.setTop (mkF m 252 #[.val (.int p0), .val (.int p1), .val (.int p2), .val (.int p3), .val (.int p4), .val (.int (3 : Int32)), .val (.int (3 : Int32)), .val (.int vs7), .val (.ref b29), .val (.int vq9), .val (.int (8 : Int32)), .val (.int (3 : Int32)), .val (.ref b546), .val (.int (1 : Int32)), .unset, .unset] []))
                  exact J252 _ (by simp only [decide_eq_true c204_756, decide_eq_false c225_758, decide_eq_true c246_762]; rfl)
                · refine G1 (fun _ => XS.icmpYes X732.here hx rfl (pc0 := 246) (pc' := 252) rfl (hb hby at_246) rfl (feq c246_762).2 (by decide) (by decide)) ?_
                  show Goes _ _ _ _ _ _ _ (T732.setTop (mkF m 252 #[.val (.int p0), .val (.int p1), .val (.int p2), .val (.int p3), .val (.int p4), .val (.int (3 : Int32)), .val (.int (3 : Int32)), .val (.int vs7), .val (.ref b29), .val (.int vq9), .val (.int (8 : Int32)), .val (.int (3 : Int32)), .val (.ref b546), .val (.int (1 : Int32)), .unset, .unset] []))
                  exact J252 _ (by simp only [decide_eq_true c204_756, decide_eq_false c225_758, decide_eq_false c246_762]; rfl)
            · refine G1 (fun _ => XS.icmpYes X732.here hx rfl (pc0 := 204) (pc' := 210) rfl (hb hby at_204) rfl (feq c204_756).2 (by decide) (by decide)) ?_
              show Goes _ _ _ _ _ _ _ (T732.setTop (mkF m 210 _ []))
              refine G1 (fun _ => XS.iload X732.here hx rfl (hb hby at_210) rfl ) ?_
              refine G1 (fun _ => XS.iconst X732.here hx rfl (hb hby at_212)) ?_
              refine G1 (fun _ => XS.icmpNo X732.here hx rfl (hb hby at_213) rfl (flt (by decide : ¬ ((3 : Int32) < (2 : Int32)))).1) ?_
              show Goes _ _ _ _ _ _ _ (T732.setTop (mkF m 216 _ []))
              refine G1 (fun _ => XS.aload X732.here hx rfl (hb hby at_216) rfl rfl) ?_
              refine G1 (fun _ => XS.iload X732.here hx rfl (hb hby at_218) rfl ) ?_
              refine G1 (fun _ => XS.iconst X732.here hx rfl (hb hby at_220)) ?_
              refine G1 (fun _ => XS.isub X732.here hx rfl (hb hby at_221) rfl) ?_
              show Goes _ _ _ _ _ _ _ (T732.setTop (mkF m 222 _ [(.int (1 : Int32)), (.ref b29)]))
              obtain ⟨cl763, Ar763, q763, S763, P763, H763, G763⟩ := id f735
              have hin763 : ¬ ((1 : Int32) < 0 ∨ cl763.slots.size ≤ ((1 : Int32)).toNatClampNeg) := inb_of S763 ⟨by decide, by decide⟩
              have hat763 : cl763.slots[((1 : Int32)).toNatClampNeg]? = some (.int p2) := H763 _ (by rw [S763]; decide)
              refine G1 (fun _ => X732.iaload hx (j := (1 : Int32)) (v := (.int p2)) (by exact Ar763.1) (State.isArrayOf_alike hZ.alike Ar763.2.1) Ar763.2.2 hin763 hat763 (g := (mkF m 222 #[.val (.int p0), .val (.int p1), .val (.int p2), .val (.int p3), .val (.int p4), .val (.int (3 : Int32)), .val (.int (3 : Int32)), .val (.int vs7), .val (.ref b29), .val (.int vq9), .val (.int (8 : Int32)), .val (.int (3 : Int32)), .val (.ref b546), .val (.int (0 : Int32)), .unset, .unset] [(.int (1 : Int32)), (.ref b29)])) rfl rfl (hb hby at_222) _) ?_
              show Goes _ _ _ _ _ _ _ (T732.setTop (mkF m 223 _ [(.int p2)]))
              refine G1 (fun _ => XS.iload X732.here hx rfl (hb hby at_223) rfl ) ?_
              by_cases c225_764 : p2 = vq9
              · refine G1 (fun _ => XS.icmpNo X732.here hx rfl (hb hby at_225) rfl (teq c225_764).2) ?_
                show Goes _ _ _ _ _ _ _ (T732.setTop (mkF m 228 _ []))
                refine G1 (fun _ => XS.iconst X732.here hx rfl (hb hby at_228)) ?_
                refine G1 (fun _ => XS.istore X732.here hx rfl (hb hby at_229) rfl (l' := #[.val (.int p0), .val (.int p1), .val (.int p2), .val (.int p3), .val (.int p4), .val (.int (3 : Int32)), .val (.int (3 : Int32)), .val (.int vs7), .val (.ref b29), .val (.int vq9), .val (.int (8 : Int32)), .val (.int (3 : Int32)), .val (.ref b546), .val (.int (1 : Int32)), .unset, .unset]) rfl) ?_
                show Goes _ _ _ _ _ _ _ (T732.setTop (mkF m 231 _ []))
                refine G1 (fun _ => XS.iload X732.here hx rfl (hb hby at_231) rfl ) ?_
                refine G1 (fun _ => XS.iconst X732.here hx rfl (hb hby at_233)) ?_
                refine G1 (fun _ => XS.icmpNo X732.here hx rfl (hb hby at_234) rfl (flt (by decide : ¬ ((3 : Int32) < (3 : Int32)))).1) ?_
                show Goes _ _ _ _ _ _ _ (T732.setTop (mkF m 237 _ []))
                refine G1 (fun _ => XS.aload X732.here hx rfl (hb hby at_237) rfl rfl) ?_
                refine G1 (fun _ => XS.iload X732.here hx rfl (hb hby at_239) rfl ) ?_
                refine G1 (fun _ => XS.iconst X732.here hx rfl (hb hby at_241)) ?_
                refine G1 (fun _ => XS.isub X732.here hx rfl (hb hby at_242) rfl) ?_
                show Goes _ _ _ _ _ _ _ (T732.setTop (mkF m 243 _ [(.int (0 : Int32)), (.ref b29)]))
                obtain ⟨cl765, Ar765, q765, S765, P765, H765, G765⟩ := id f735
                have hin765 : ¬ ((0 : Int32) < 0 ∨ cl765.slots.size ≤ ((0 : Int32)).toNatClampNeg) := inb_of S765 ⟨by decide, by decide⟩
                have hat765 : cl765.slots[((0 : Int32)).toNatClampNeg]? = some (.int p1) := H765 _ (by rw [S765]; decide)
                refine G1 (fun _ => X732.iaload hx (j := (0 : Int32)) (v := (.int p1)) (by exact Ar765.1) (State.isArrayOf_alike hZ.alike Ar765.2.1) Ar765.2.2 hin765 hat765 (g := (mkF m 243 #[.val (.int p0), .val (.int p1), .val (.int p2), .val (.int p3), .val (.int p4), .val (.int (3 : Int32)), .val (.int (3 : Int32)), .val (.int vs7), .val (.ref b29), .val (.int vq9), .val (.int (8 : Int32)), .val (.int (3 : Int32)), .val (.ref b546), .val (.int (1 : Int32)), .unset, .unset] [(.int (0 : Int32)), (.ref b29)])) rfl rfl (hb hby at_243) _) ?_
                show Goes _ _ _ _ _ _ _ (T732.setTop (mkF m 244 _ [(.int p1)]))
                refine G1 (fun _ => XS.iload X732.here hx rfl (hb hby at_244) rfl ) ?_
                by_cases c246_766 : p1 = vq9
                · refine G1 (fun _ => XS.icmpNo X732.here hx rfl (hb hby at_246) rfl (teq c246_766).2) ?_
                  show Goes _ _ _ _ _ _ _ (T732.setTop (mkF m 249 #[.val (.int p0), .val (.int p1), .val (.int p2), .val (.int p3), .val (.int p4), .val (.int (3 : Int32)), .val (.int (3 : Int32)), .val (.int vs7), .val (.ref b29), .val (.int vq9), .val (.int (8 : Int32)), .val (.int (3 : Int32)), .val (.ref b546), .val (.int (1 : Int32)), .unset, .unset] []))
                  refine G1 (fun _ => XS.iconst X732.here hx rfl (hb hby at_249)) ?_
                  refine G1 (fun _ => XS.istore X732.here hx rfl (hb hby at_250) rfl (l' := #[.val (.int p0), .val (.int p1), .val (.int p2), .val (.int p3), .val (.int p4), .val (.int (3 : Int32)), .val (.int (3 : Int32)), .val (.int vs7), .val (.ref b29), .val (.int vq9), .val (.int (8 : Int32)), .val (.int (3 : Int32)), .val (.ref b546), .val (.int (1 : Int32)), .unset, .unset]) rfl) ?_
                  show Goes _ _ _ _ _ _ _ (T732.setTop (mkF m 252 _ []))
                  show Goes _ _ _ _ _ _ _ (T732.setTop (mkF m 252 #[.val (.int p0), .val (.int p1), .val (.int p2), .val (.int p3), .val (.int p4), .val (.int (3 : Int32)), .val (.int (3 : Int32)), .val (.int vs7), .val (.ref b29), .val (.int vq9), .val (.int (8 : Int32)), .val (.int (3 : Int32)), .val (.ref b546), .val (.int (1 : Int32)), .unset, .unset] []))
                  exact J252 _ (by simp only [decide_eq_false c204_756, decide_eq_true c225_764, decide_eq_true c246_766]; rfl)
                · refine G1 (fun _ => XS.icmpYes X732.here hx rfl (pc0 := 246) (pc' := 252) rfl (hb hby at_246) rfl (feq c246_766).2 (by decide) (by decide)) ?_
                  show Goes _ _ _ _ _ _ _ (T732.setTop (mkF m 252 #[.val (.int p0), .val (.int p1), .val (.int p2), .val (.int p3), .val (.int p4), .val (.int (3 : Int32)), .val (.int (3 : Int32)), .val (.int vs7), .val (.ref b29), .val (.int vq9), .val (.int (8 : Int32)), .val (.int (3 : Int32)), .val (.ref b546), .val (.int (1 : Int32)), .unset, .unset] []))
                  exact J252 _ (by simp only [decide_eq_false c204_756, decide_eq_true c225_764, decide_eq_false c246_766]; rfl)
              · refine G1 (fun _ => XS.icmpYes X732.here hx rfl (pc0 := 225) (pc' := 231) rfl (hb hby at_225) rfl (feq c225_764).2 (by decide) (by decide)) ?_
                show Goes _ _ _ _ _ _ _ (T732.setTop (mkF m 231 _ []))
                refine G1 (fun _ => XS.iload X732.here hx rfl (hb hby at_231) rfl ) ?_
                refine G1 (fun _ => XS.iconst X732.here hx rfl (hb hby at_233)) ?_
                refine G1 (fun _ => XS.icmpNo X732.here hx rfl (hb hby at_234) rfl (flt (by decide : ¬ ((3 : Int32) < (3 : Int32)))).1) ?_
                show Goes _ _ _ _ _ _ _ (T732.setTop (mkF m 237 _ []))
                refine G1 (fun _ => XS.aload X732.here hx rfl (hb hby at_237) rfl rfl) ?_
                refine G1 (fun _ => XS.iload X732.here hx rfl (hb hby at_239) rfl ) ?_
                refine G1 (fun _ => XS.iconst X732.here hx rfl (hb hby at_241)) ?_
                refine G1 (fun _ => XS.isub X732.here hx rfl (hb hby at_242) rfl) ?_
                show Goes _ _ _ _ _ _ _ (T732.setTop (mkF m 243 _ [(.int (0 : Int32)), (.ref b29)]))
                obtain ⟨cl767, Ar767, q767, S767, P767, H767, G767⟩ := id f735
                have hin767 : ¬ ((0 : Int32) < 0 ∨ cl767.slots.size ≤ ((0 : Int32)).toNatClampNeg) := inb_of S767 ⟨by decide, by decide⟩
                have hat767 : cl767.slots[((0 : Int32)).toNatClampNeg]? = some (.int p1) := H767 _ (by rw [S767]; decide)
                refine G1 (fun _ => X732.iaload hx (j := (0 : Int32)) (v := (.int p1)) (by exact Ar767.1) (State.isArrayOf_alike hZ.alike Ar767.2.1) Ar767.2.2 hin767 hat767 (g := (mkF m 243 #[.val (.int p0), .val (.int p1), .val (.int p2), .val (.int p3), .val (.int p4), .val (.int (3 : Int32)), .val (.int (3 : Int32)), .val (.int vs7), .val (.ref b29), .val (.int vq9), .val (.int (8 : Int32)), .val (.int (3 : Int32)), .val (.ref b546), .val (.int (0 : Int32)), .unset, .unset] [(.int (0 : Int32)), (.ref b29)])) rfl rfl (hb hby at_243) _) ?_
                show Goes _ _ _ _ _ _ _ (T732.setTop (mkF m 244 _ [(.int p1)]))
                refine G1 (fun _ => XS.iload X732.here hx rfl (hb hby at_244) rfl ) ?_
                by_cases c246_768 : p1 = vq9
                · refine G1 (fun _ => XS.icmpNo X732.here hx rfl (hb hby at_246) rfl (teq c246_768).2) ?_
                  show Goes _ _ _ _ _ _ _ (T732.setTop (mkF m 249 _ []))
                  refine G1 (fun _ => XS.iconst X732.here hx rfl (hb hby at_249)) ?_
                  refine G1 (fun _ => XS.istore X732.here hx rfl (hb hby at_250) rfl (l' := #[.val (.int p0), .val (.int p1), .val (.int p2), .val (.int p3), .val (.int p4), .val (.int (3 : Int32)), .val (.int (3 : Int32)), .val (.int vs7), .val (.ref b29), .val (.int vq9), .val (.int (8 : Int32)), .val (.int (3 : Int32)), .val (.ref b546), .val (.int (1 : Int32)), .unset, .unset]) rfl) ?_
                  show Goes _ _ _ _ _ _ _ (T732.setTop (mkF m 252 #[.val (.int p0), .val (.int p1), .val (.int p2), .val (.int p3), .val (.int p4), .val (.int (3 : Int32)), .val (.int (3 : Int32)), .val (.int vs7), .val (.ref b29), .val (.int vq9), .val (.int (8 : Int32)), .val (.int (3 : Int32)), .val (.ref b546), .val (.int (1 : Int32)), .unset, .unset] []))
                  exact J252 _ (by simp only [decide_eq_false c204_756, decide_eq_false c225_764, decide_eq_true c246_768]; rfl)
                · refine G1 (fun _ => XS.icmpYes X732.here hx rfl (pc0 := 246) (pc' := 252) rfl (hb hby at_246) rfl (feq c246_768).2 (by decide) (by decide)) ?_
                  show Goes _ _ _ _ _ _ _ (T732.setTop (mkF m 252 _ []))
                  show Goes _ _ _ _ _ _ _ (T732.setTop (mkF m 252 #[.val (.int p0), .val (.int p1), .val (.int p2), .val (.int p3), .val (.int p4), .val (.int (3 : Int32)), .val (.int (3 : Int32)), .val (.int vs7), .val (.ref b29), .val (.int vq9), .val (.int (8 : Int32)), .val (.int (3 : Int32)), .val (.ref b546), .val (.int (0 : Int32)), .unset, .unset] []))
                  exact J252 _ (by simp only [decide_eq_false c204_756, decide_eq_false c225_764, decide_eq_false c246_768]; rfl)
    · rcases hn with rfl | hnA
      · show Goes _ _ _ _ _ _ _ (T45.setTop (mkF m 56 #[.val (.int p0), .val (.int p1), .val (.int p2), .val (.int p3), .val (.int p4), .val (.int (4 : Int32)), .val (.int (0 : Int32)), .val (.int vs7), .val (.ref b29), .val (.int vq9), .unset, .unset, .unset, .unset, .unset, .unset] []))
        refine G1 (fun _ => XS.iload X45.here hx rfl (hb hby at_56) rfl ) ?_
        refine G1 (fun _ => XS.iconst X45.here hx rfl (hb hby at_58)) ?_
        refine G1 (fun _ => XS.icmpYes X45.here hx rfl (pc0 := 59) (pc' := 66) rfl (hb hby at_59) rfl (feq (by decide : ¬ ((4 : Int32) = (1 : Int32)))).2 (by decide) (by decide)) ?_
        show Goes _ _ _ _ _ _ _ (T45.setTop (mkF m 66 _ []))
        refine G1 (fun _ => XS.iload X45.here hx rfl (hb hby at_66) rfl ) ?_
        refine G1 (fun _ => XS.iconst X45.here hx rfl (hb hby at_68)) ?_
        refine G1 (fun _ => XS.icmpYes X45.here hx rfl (pc0 := 69) (pc' := 76) rfl (hb hby at_69) rfl (feq (by decide : ¬ ((4 : Int32) = (2 : Int32)))).2 (by decide) (by decide)) ?_
        show Goes _ _ _ _ _ _ _ (T45.setTop (mkF m 76 _ []))
        refine G1 (fun _ => XS.bipush X45.here hx rfl (hb hby at_76)) ?_
        refine G1 (fun _ => XS.istore X45.here hx rfl (hb hby at_78) rfl (l' := #[.val (.int p0), .val (.int p1), .val (.int p2), .val (.int p3), .val (.int p4), .val (.int (4 : Int32)), .val (.int (0 : Int32)), .val (.int vs7), .val (.ref b29), .val (.int vq9), .val (.int (8 : Int32)), .unset, .unset, .unset, .unset, .unset]) rfl) ?_
        show Goes _ _ _ _ _ _ _ (T45.setTop (mkF m 80 _ []))
        refine G1 (fun _ => XS.iload X45.here hx rfl (hb hby at_80) rfl ) ?_
        refine G1 (fun _ => XS.ifNo X45.here hx rfl (hb hby at_82) rfl ((if0 _ _).trans (teq (by decide : (0 : Int32) = (0 : Int32))).2)) ?_
        show Goes _ _ _ _ _ _ _ (T45.setTop (mkF m 85 _ []))
        refine G1 (fun _ => XS.iconst X45.here hx rfl (hb hby at_85)) ?_
        refine G1 (fun _ => XS.goto X45.here hx rfl (pc0 := 86) (pc' := 98) rfl (hb hby at_86) (by decide) (by decide)) ?_
        show Goes _ _ _ _ _ _ _ (T45.setTop (mkF m 98 _ [(.int (0 : Int32))]))
        refine G1 (fun _ => XS.istore X45.here hx rfl (hb hby at_98) rfl (l' := #[.val (.int p0), .val (.int p1), .val (.int p2), .val (.int p3), .val (.int p4), .val (.int (4 : Int32)), .val (.int (0 : Int32)), .val (.int vs7), .val (.ref b29), .val (.int vq9), .val (.int (8 : Int32)), .val (.int (0 : Int32)), .unset, .unset, .unset, .unset]) rfl) ?_
        show Goes _ _ _ _ _ _ _ (T45.setTop (mkF m 100 _ []))
        obtain ⟨T769, h769, X769, e769, E769, A769, D769, -, st769⟩ := newO X45 hx hZ hown w_1 w_2 w_3 e45 (g := (mkF m 100 #[.val (.int p0), .val (.int p1), .val (.int p2), .val (.int p3), .val (.int p4), .val (.int (4 : Int32)), .val (.int (0 : Int32)), .val (.int vs7), .val (.ref b29), .val (.int vq9), .val (.int (8 : Int32)), .val (.int (0 : Int32)), .unset, .unset, .unset, .unset] [])) rfl (hb hby at_100) (by decide) (by decide)
        obtain ⟨b769, g769⟩ : ∃ z, z = h45.size := ⟨_, rfl⟩
        rw [← g769] at A769 D769 st769
        refine G1 st769 ?_
        have g_b769 : n0 ≤ b769 := Nat.le_trans Z49 (Nat.le_of_eq g769.symm)
        have sz_b769 : h0.size ≤ b769 := Nat.le_trans K49.1 (Nat.le_of_eq g769.symm)
        have ne770 : b29 ≠ b769 := Nat.ne_of_lt (Nat.lt_of_lt_of_le f47.lt (Nat.le_of_eq g769.symm))
        have XO771 : Old Z n0 h769 := XO46.ext E769
        have f772 := f47.ext E769
        have f773 := f48.ext E769
        have K774 : Keep h0 h769 [] := K49.ext E769
        have Z774 : n0 ≤ h769.size := Nat.le_trans Z49 E769.1
        have E_b769 := A769
        have F_most_b769 : Fld Z h769 b769 "com/example/nehaba/nehaba/input/KeptValues" "most" "I" (.int (0 : Int32)) := D769 (Or.inr w_12) (ty := .int) (by decide)
        have F_keys_b769 : Fld Z h769 b769 "com/example/nehaba/nehaba/input/KeptValues" "keys" "[Ljava/lang/Object;" .null := D769 (Or.inr w_25) (ty := (.array (.object "java/lang/Object"))) (by decide)
        have F_hashes_b769 : Fld Z h769 b769 "com/example/nehaba/nehaba/input/KeptValues" "hashes" "[I" .null := D769 (Or.inr w_27) (ty := (.array .int)) (by decide)
        have F_values_b769 : Fld Z h769 b769 "com/example/nehaba/nehaba/input/KeptValues" "values" "[Ljava/lang/Object;" .null := D769 (Or.inr w_29) (ty := (.array (.object "java/lang/Object"))) (by decide)
        have F_shift_b769 : Fld Z h769 b769 "com/example/nehaba/nehaba/input/KeptValues" "shift" "I" (.int (0 : Int32)) := D769 (Or.inr w_32) (ty := .int) (by decide)
        have F_size_b769 : Fld Z h769 b769 "com/example/nehaba/nehaba/input/KeptValues" "size" "I" (.int (0 : Int32)) := D769 (Or.inl w_64) (ty := .int) (by decide)
        show Goes _ _ _ _ _ _ _ (T769.setTop (mkF m 103 _ [(.ref b769)]))
        refine G1 (fun _ => XS.dup X769.here hx rfl (hb hby at_103) rfl rfl) ?_
        refine G1 (fun _ => XS.iload X769.here hx rfl (hb hby at_104) rfl ) ?_
        obtain ⟨_, _, ⟨T775, L775, k775, n775⟩, -, X775, ⟨Lc775, hQ775, l775, y775, z775⟩, st775⟩ := X769.specialBack hx (y := mN7) rfl hown (mvT hZ w_4) (mvT hZ w_5) (mvT hZ w_6) (by decide) (backOf (W := 1) (rm1_4 l Z a0 hw [] b769 h769 n0 Z774 F_most_b769 F_keys_b769 F_hashes_b769 F_values_b769 F_shift_b769 F_size_b769 E_b769 g_b769) hZ w_6 w_3 (by decide) (by decide)) (g := (mkF m 106 #[.val (.int p0), .val (.int p1), .val (.int p2), .val (.int p3), .val (.int p4), .val (.int (4 : Int32)), .val (.int (0 : Int32)), .val (.int vs7), .val (.ref b29), .val (.int vq9), .val (.int (8 : Int32)), .val (.int (0 : Int32)), .unset, .unset, .unset, .unset] [(.int (4 : Int32)), (.ref b769), (.ref b769)])) rfl (by rw [hml]; rfl) (Steps.refl _) (a := b769) (argsL := [(.int (4 : Int32))]) (rest := [(.ref b769)]) (lenOf pd_0 rfl) rfl (by show 2 * 0 + _ ≤ _; exact Nat.le_of_eq rfl) (hb hby at_106) (fun _ _ => ⟨rfl, e769, (by decide : 2 + 3 ≤ _), (by decide : 9 + 24 ≤ _)⟩)
        dsimp only [Pt.U, Pt.locs, Pt.cells, Pt.slots] at X775 l775 y775 z775 st775 hQ775
        rw [l775, y775, z775] at X775
        obtain ⟨N775, KK775, hR775⟩ := hQ775
        have NA775 := Fr.app N49 N775
        have XO776 : Old Z n0 T775.heap := XO771.keep KK775 (allS g_b769 all0)
        have f777 := f772.keep KK775
        have f778 := f773.keep KK775 (ninS ne770 nin0)
        have f779 := E_b769.keep KK775
        have K786 : Keep h0 T775.heap [] := K774.trans KK775 (allS (Or.inr sz_b769) all0)
        have Z786 : n0 ≤ T775.heap.size := Nat.le_trans Z774 KK775.1
        obtain ⟨r775_0_0, r775_0_1, r775_0_2, kk775_0_0, kk775_0_1, kk775_0_2, rfl, g_r775_0_0, le_r775_0_0, g_r775_0_1, le_r775_0_1, g_r775_0_2, le_r775_0_2, nn775_0_0, nn775_0_1, nn775_0_2, v775_0_0, v775_0_1, v775_0_2, v775_0_3, v775_0_4, v775_0_5, v775_0_6, v775_0_7, v775_0_8, v775_0_9, oo775_0_0, oo775_0_1⟩ := hR775
        have ne787 : b29 ≠ r775_0_0 := Nat.ne_of_lt (Nat.lt_of_lt_of_le f772.lt le_r775_0_0)
        have ne788 : b769 ≠ r775_0_0 := Nat.ne_of_lt (Nat.lt_of_lt_of_le E_b769.lt le_r775_0_0)
        have sz_r775_0_0 : h0.size ≤ r775_0_0 := Nat.le_trans K774.1 le_r775_0_0
        have ne789 : b29 ≠ r775_0_1 := Nat.ne_of_lt (Nat.lt_of_lt_of_le f772.lt le_r775_0_1)
        have ne790 : b769 ≠ r775_0_1 := Nat.ne_of_lt (Nat.lt_of_lt_of_le E_b769.lt le_r775_0_1)
        have sz_r775_0_1 : h0.size ≤ r775_0_1 := Nat.le_trans K774.1 le_r775_0_1
        have ne791 : b29 ≠ r775_0_2 := Nat.ne_of_lt (Nat.lt_of_lt_of_le f772.lt le_r775_0_2)
        have ne792 : b769 ≠ r775_0_2 := Nat.ne_of_lt (Nat.lt_of_lt_of_le E_b769.lt le_r775_0_2)
        have sz_r775_0_2 : h0.size ≤ r775_0_2 := Nat.le_trans K774.1 le_r775_0_2
        refine G2 st775 ?_
        show Goes _ _ _ _ _ _ _ (T775.setTop (mkF m 109 _ [(.ref b769)]))
        show Goes _ _ _ _ _ _ _ (T775.setTop (mkF m 109 #[.val (.int p0), .val (.int p1), .val (.int p2), .val (.int p3), .val (.int p4), .val (.int (4 : Int32)), .val (.int (0 : Int32)), .val (.int vs7), .val (.ref b29), .val (.int vq9), .val (.int (8 : Int32)), .val (.int (0 : Int32)), .unset, .unset, .unset, .unset] [(.ref b769)]))
        have hN : 8 = 2 ∨ 8 = 4 ∨ 8 = 8 := (Or.inr (Or.inr rfl))
        have hS : (8 = 2 ∧ (29 : Int32) = 31) ∨ (8 = 4 ∧ (29 : Int32) = 30) ∨ (8 = 8 ∧ (29 : Int32) = 29) := (Or.inr (Or.inr ⟨rfl, rfl⟩))
        obtain ⟨f1, hf1⟩ : ∃ z : Fin 8, z.val = (own_f p1 (29 : Int32)).toNatClampNeg := ⟨⟨_, (own_first (N := 8) p1 hS).2⟩, rfl⟩
        obtain ⟨f2, hf2⟩ : ∃ z : Fin 8, z.val = (own_f p2 (29 : Int32)).toNatClampNeg := ⟨⟨_, (own_first (N := 8) p2 hS).2⟩, rfl⟩
        obtain ⟨f3, hf3⟩ : ∃ z : Fin 8, z.val = (own_f p3 (29 : Int32)).toNatClampNeg := ⟨⟨_, (own_first (N := 8) p3 hS).2⟩, rfl⟩
        obtain ⟨f4, hf4⟩ : ∃ z : Fin 8, z.val = (own_f vq9 (29 : Int32)).toNatClampNeg := ⟨⟨_, (own_first (N := 8) vq9 hS).2⟩, rfl⟩
        have ee1 : decide (p1 = vq9) = true → f1 = f4 := fun z => Fin.ext (by rw [hf1, hf4, of_decide_eq_true z])
        have ee2 : decide (p2 = vq9) = true → f2 = f4 := fun z => Fin.ext (by rw [hf2, hf4, of_decide_eq_true z])
        have ee3 : decide (p3 = vq9) = true → f3 = f4 := fun z => Fin.ext (by rw [hf3, hf4, of_decide_eq_true z])
        show Goes _ _ _ _ _ _ _ (T775.setTop (mkF m 109 #[.val (.int p0), .val (.int p1), .val (.int p2), .val (.int p3), .val (.int p4), .val (.int (4 : Int32)), .val (.int (0 : Int32)), .val (.int vs7), .val (.ref b29), .val (.int vq9), .val (.int (8 : Int32)), .val (.int (0 : Int32)), .unset, .unset, .unset, .unset] [(.ref b769)]))
        refine G1 (fun _ => XS.astore X775.here hx rfl (hb hby at_109) rfl rfl (l' := #[.val (.int p0), .val (.int p1), .val (.int p2), .val (.int p3), .val (.int p4), .val (.int (4 : Int32)), .val (.int (0 : Int32)), .val (.int vs7), .val (.ref b29), .val (.int vq9), .val (.int (8 : Int32)), .val (.int (0 : Int32)), .val (.ref b769), .unset, .unset, .unset]) rfl) ?_
        show Goes _ _ _ _ _ _ _ (T775.setTop (mkF m 111 _ []))
        refine G1 (fun _ => XS.iload X775.here hx rfl (hb hby at_111) rfl ) ?_
        refine G1 (fun _ => XS.iconst X775.here hx rfl (hb hby at_113)) ?_
        refine G1 (fun _ => XS.icmpYes X775.here hx rfl (pc0 := 114) (pc' := 136) rfl (hb hby at_114) rfl (tlt (by decide : (0 : Int32) < (1 : Int32))).1 (by decide) (by decide)) ?_
        show Goes _ _ _ _ _ _ _ (T775.setTop (mkF m 136 _ []))
        show Goes _ _ _ _ _ _ _ (T775.setTop (mkF m 136 #[.val (.int p0), .val (.int p1), .val (.int p2), .val (.int p3), .val (.int p4), .val (.int (4 : Int32)), .val (.int (0 : Int32)), .val (.int vs7), .val (.ref b29), .val (.int vq9), .val (.int (8 : Int32)), .val (.int (0 : Int32)), .val (.ref b769), .unset, .unset, .unset] []))
        refine G1 (fun _ => XS.iload X775.here hx rfl (hb hby at_136) rfl ) ?_
        refine G1 (fun _ => XS.iconst X775.here hx rfl (hb hby at_138)) ?_
        refine G1 (fun _ => XS.icmpYes X775.here hx rfl (pc0 := 139) (pc' := 161) rfl (hb hby at_139) rfl (tlt (by decide : (0 : Int32) < (2 : Int32))).1 (by decide) (by decide)) ?_
        show Goes _ _ _ _ _ _ _ (T775.setTop (mkF m 161 _ []))
        show Goes _ _ _ _ _ _ _ (T775.setTop (mkF m 161 #[.val (.int p0), .val (.int p1), .val (.int p2), .val (.int p3), .val (.int p4), .val (.int (4 : Int32)), .val (.int (0 : Int32)), .val (.int vs7), .val (.ref b29), .val (.int vq9), .val (.int (8 : Int32)), .val (.int (0 : Int32)), .val (.ref b769), .unset, .unset, .unset] []))
        refine G1 (fun _ => XS.iload X775.here hx rfl (hb hby at_161) rfl ) ?_
        refine G1 (fun _ => XS.iconst X775.here hx rfl (hb hby at_163)) ?_
        refine G1 (fun _ => XS.icmpYes X775.here hx rfl (pc0 := 164) (pc' := 186) rfl (hb hby at_164) rfl (tlt (by decide : (0 : Int32) < (3 : Int32))).1 (by decide) (by decide)) ?_
        show Goes _ _ _ _ _ _ _ (T775.setTop (mkF m 186 _ []))
        refine G1 (fun _ => XS.iconst X775.here hx rfl (hb hby at_186)) ?_
        refine G1 (fun _ => XS.istore X775.here hx rfl (hb hby at_187) rfl (l' := #[.val (.int p0), .val (.int p1), .val (.int p2), .val (.int p3), .val (.int p4), .val (.int (4 : Int32)), .val (.int (0 : Int32)), .val (.int vs7), .val (.ref b29), .val (.int vq9), .val (.int (8 : Int32)), .val (.int (0 : Int32)), .val (.ref b769), .val (.int (0 : Int32)), .unset, .unset]) rfl) ?_
        show Goes _ _ _ _ _ _ _ (T775.setTop (mkF m 189 _ []))
        show Goes _ _ _ _ _ _ _ (T775.setTop (mkF m 189 #[.val (.int p0), .val (.int p1), .val (.int p2), .val (.int p3), .val (.int p4), .val (.int (4 : Int32)), .val (.int (0 : Int32)), .val (.int vs7), .val (.ref b29), .val (.int vq9), .val (.int (8 : Int32)), .val (.int (0 : Int32)), .val (.ref b769), .val (.int (0 : Int32)), .unset, .unset] []))
        have hsk0 : seekP own_t0 (own_e3 (decide (p1 = vq9)) (decide (p2 = vq9)) (decide (p3 = vq9))) 8 9 f4.val = some f4.val := rfl
        have hpb : own_b (own_t0 f4.val) = own_i false := rfl
        have hcn : own_b (own_t0 ((0 : Int32)).toNatClampNeg) + own_b (own_t0 ((1 : Int32)).toNatClampNeg) + own_b (own_t0 ((2 : Int32)).toNatClampNeg) + own_b (own_t0 ((3 : Int32)).toNatClampNeg) + own_b (own_t0 ((4 : Int32)).toNatClampNeg) + own_b (own_t0 ((5 : Int32)).toNatClampNeg) + own_b (own_t0 ((6 : Int32)).toNatClampNeg) + own_b (own_t0 ((7 : Int32)).toNatClampNeg) = (0 : Int32) := rfl
        have hsk : seekP own_t0 (fun j => decide (own_H p1 p2 p3 j = vq9)) 8 9 (own_f vq9 (29 : Int32)).toNatClampNeg = some f4.val := by rw [own_e3H, ← hf4]; exact hsk0
        have hH : ∀ p j, own_t0 p = some j → (fun _ => (0 : Int32)) p = own_H p1 p2 p3 j := own_hH0
        have J252 : ∀ ex : Int32, own_i false = ex → Goes p e below s room_1.cells room_1.slots (fun v h L => Q0 Z p0 p1 p2 p3 p4 ca cc h0 n0 v h L) (T775.setTop (mkF m 252 #[.val (.int p0), .val (.int p1), .val (.int p2), .val (.int p3), .val (.int p4), .val (.int (4 : Int32)), .val (.int (0 : Int32)), .val (.int vs7), .val (.ref b29), .val (.int vq9), .val (.int (8 : Int32)), .val (.int (0 : Int32)), .val (.ref b769), .val (.int ex), .unset, .unset] [])) := by
          intro ex hex
          refine G1 (fun _ => XS.aload X775.here hx rfl (hb hby at_252) rfl rfl) ?_
          refine G1 (fun _ => XS.aload X775.here hx rfl (hb hby at_254) rfl rfl) ?_
          refine G1 (fun _ => XS.iload X775.here hx rfl (hb hby at_256) rfl ) ?_
          obtain ⟨cq793, kq793, q793a, q793b, q793c⟩ := isOf hZ rfl v775_0_6
          obtain ⟨_, _, ⟨T793, L793, k793, n793⟩, -, X793, ⟨Lc793, hQ793, l793, y793, z793⟩, st793⟩ := X775.virtualBack hx (y := mN8) (z := mN8) hown (mvT hZ w_33) (mvT hZ w_34) (notFace_of_selects (args := #[]) (mvT hZ w_36)) (mvT hZ w_36) (mvT hZ w_35) (by decide) (backOf (W := 1) (rm5 l Z a0 hw [] b769 vq9 r775_0_0 r775_0_1 r775_0_2 kk775_0_0 kk775_0_1 kk775_0_2 8 own_t0 (fun _ => (0 : Int32)) (fun _ => r775_0_0) (fun _ => r775_0_0) (29 : Int32) (4 : Int32) (0 : Int32) (own_H p1 p2 p3) 9 f4.val T775.heap n0 Z786 v775_0_6 v775_0_1 v775_0_2 v775_0_3 v775_0_0 v775_0_5 v775_0_4 v775_0_7 v775_0_8 v775_0_9 hN hH hS hsk) hZ w_37 w_3 (by decide) (by decide)) q793a q793c (g := (mkF m 258 #[.val (.int p0), .val (.int p1), .val (.int p2), .val (.int p3), .val (.int p4), .val (.int (4 : Int32)), .val (.int (0 : Int32)), .val (.int vs7), .val (.ref b29), .val (.int vq9), .val (.int (8 : Int32)), .val (.int (0 : Int32)), .val (.ref b769), .val (.int ex), .unset, .unset] [(.int vq9), (.ref b769), (.ref b769)])) rfl (by rw [hml]; rfl) (Steps.refl _) (argsL := [(.int vq9)]) (rest := [(.ref b769)]) (lenOf pd_2 rfl) rfl (by show 2 * 0 + _ ≤ _; exact Nat.le_of_eq rfl) (hb hby at_258) (fun _ _ => ⟨rfl, rfl, (by decide : 5 + 0 ≤ _), (by decide : 33 + 0 ≤ _)⟩)
          dsimp only [Pt.U, Pt.locs, Pt.cells, Pt.slots] at X793 l793 y793 z793 st793 hQ793
          rw [l793, y793, z793] at X793
          obtain ⟨N793, eh793, r793, rfl, r1_793, r2_793, r3_793⟩ := hQ793
          have NA793 := Fr.app NA775 N793
          refine G2 st793 ?_
          show Goes _ _ _ _ _ _ _ (T793.setTop (mkF m 261 _ [(.int r793), (.ref b769)]))
          obtain ⟨cq794, kq794, q794a, q794b, q794c⟩ := isOf hZ eh793 v775_0_6
          obtain ⟨_, _, ⟨T794, L794, k794, n794⟩, -, X794, ⟨Lc794, hQ794, l794, y794, z794⟩, st794⟩ := X793.virtualBack hx (y := mN6) (z := mN6) hown (mvT hZ w_47) (mvT hZ w_48) (notFace_of_selects (args := #[]) (mvT hZ w_50)) (mvT hZ w_50) (mvT hZ w_49) (by decide) (backOf (W := 0) (rm8 l Z a0 hw [] b769 r793 r775_0_0 r775_0_1 r775_0_2 kk775_0_0 kk775_0_1 kk775_0_2 8 own_t0 (fun _ => (0 : Int32)) (fun _ => r775_0_0) (fun _ => r775_0_0) (29 : Int32) (4 : Int32) (0 : Int32) T775.heap n0 Z786 v775_0_6 v775_0_1 v775_0_2 v775_0_3 v775_0_0 v775_0_5 v775_0_4 v775_0_7 v775_0_8 v775_0_9 r1_793 r3_793) hZ w_51 w_3 (by decide) (by decide)) q794a q794c (g := (mkF m 261 #[.val (.int p0), .val (.int p1), .val (.int p2), .val (.int p3), .val (.int p4), .val (.int (4 : Int32)), .val (.int (0 : Int32)), .val (.int vs7), .val (.ref b29), .val (.int vq9), .val (.int (8 : Int32)), .val (.int (0 : Int32)), .val (.ref b769), .val (.int ex), .unset, .unset] [(.int r793), (.ref b769)])) rfl (by rw [hml]; rfl) (Steps.refl _) (argsL := [(.int r793)]) (rest := []) (lenOf pd_4 rfl) rfl (by show 2 * 0 + _ ≤ _; exact Nat.le_of_eq rfl) (hb hby at_261) (fun _ _ => ⟨rfl, eh793, (by decide : 5 + 0 ≤ _), (by decide : 33 + 0 ≤ _)⟩)
          dsimp only [Pt.U, Pt.locs, Pt.cells, Pt.slots] at X794 l794 y794 z794 st794 hQ794
          rw [l794, y794, z794] at X794
          obtain ⟨N794, eh794, hv794⟩ := hQ794
          have NA794 := Fr.app NA793 N794
          subst hv794
          refine G2 st794 ?_
          show Goes _ _ _ _ _ _ _ (T794.setTop (mkF m 264 _ [(.int (own_b (own_t0 (r793).toNatClampNeg)))]))
          refine G1 (fun _ => XS.istore X794.here hx rfl (hb hby at_264) rfl (l' := #[.val (.int p0), .val (.int p1), .val (.int p2), .val (.int p3), .val (.int p4), .val (.int (4 : Int32)), .val (.int (0 : Int32)), .val (.int vs7), .val (.ref b29), .val (.int vq9), .val (.int (8 : Int32)), .val (.int (0 : Int32)), .val (.ref b769), .val (.int ex), .val (.int (own_b (own_t0 (r793).toNatClampNeg))), .unset]) rfl) ?_
          show Goes _ _ _ _ _ _ _ (T794.setTop (mkF m 266 _ []))
          show Goes _ _ _ _ _ _ _ (T794.setTop (mkF m 266 #[.val (.int p0), .val (.int p1), .val (.int p2), .val (.int p3), .val (.int p4), .val (.int (4 : Int32)), .val (.int (0 : Int32)), .val (.int vs7), .val (.ref b29), .val (.int vq9), .val (.int (8 : Int32)), .val (.int (0 : Int32)), .val (.ref b769), .val (.int ex), .val (.int (own_b (own_t0 (r793).toNatClampNeg))), .unset] []))
          have hfx : (own_b (own_t0 (r793).toNatClampNeg)) = ex := by rw [r2_793]; exact hpb.trans hex
          rw [hfx]
          exact J266_8 _ _ _ _ _ ex _ _ r775_0_0 r775_0_1 r775_0_2 kk775_0_0 kk775_0_1 kk775_0_2 own_t0 (fun _ => (0 : Int32)) (fun _ => r775_0_0) (fun _ => r775_0_0) (0 : Int32) T775.heap _ _ X794 eh794 NA794 Z786 v775_0_6 v775_0_1 v775_0_2 v775_0_3 v775_0_0 v775_0_5 v775_0_4 v775_0_7 v775_0_8 v775_0_9 hcn
        show Goes _ _ _ _ _ _ _ (T775.setTop (mkF m 189 #[.val (.int p0), .val (.int p1), .val (.int p2), .val (.int p3), .val (.int p4), .val (.int (4 : Int32)), .val (.int (0 : Int32)), .val (.int vs7), .val (.ref b29), .val (.int vq9), .val (.int (8 : Int32)), .val (.int (0 : Int32)), .val (.ref b769), .val (.int (0 : Int32)), .unset, .unset] []))
        refine G1 (fun _ => XS.iload X775.here hx rfl (hb hby at_189) rfl ) ?_
        refine G1 (fun _ => XS.iconst X775.here hx rfl (hb hby at_191)) ?_
        refine G1 (fun _ => XS.icmpYes X775.here hx rfl (pc0 := 192) (pc' := 210) rfl (hb hby at_192) rfl (tlt (by decide : (0 : Int32) < (1 : Int32))).1 (by decide) (by decide)) ?_
        show Goes _ _ _ _ _ _ _ (T775.setTop (mkF m 210 _ []))
        refine G1 (fun _ => XS.iload X775.here hx rfl (hb hby at_210) rfl ) ?_
        refine G1 (fun _ => XS.iconst X775.here hx rfl (hb hby at_212)) ?_
        refine G1 (fun _ => XS.icmpYes X775.here hx rfl (pc0 := 213) (pc' := 231) rfl (hb hby at_213) rfl (tlt (by decide : (0 : Int32) < (2 : Int32))).1 (by decide) (by decide)) ?_
        show Goes _ _ _ _ _ _ _ (T775.setTop (mkF m 231 _ []))
        refine G1 (fun _ => XS.iload X775.here hx rfl (hb hby at_231) rfl ) ?_
        refine G1 (fun _ => XS.iconst X775.here hx rfl (hb hby at_233)) ?_
        refine G1 (fun _ => XS.icmpYes X775.here hx rfl (pc0 := 234) (pc' := 252) rfl (hb hby at_234) rfl (tlt (by decide : (0 : Int32) < (3 : Int32))).1 (by decide) (by decide)) ?_
        show Goes _ _ _ _ _ _ _ (T775.setTop (mkF m 252 _ []))
        show Goes _ _ _ _ _ _ _ (T775.setTop (mkF m 252 #[.val (.int p0), .val (.int p1), .val (.int p2), .val (.int p3), .val (.int p4), .val (.int (4 : Int32)), .val (.int (0 : Int32)), .val (.int vs7), .val (.ref b29), .val (.int vq9), .val (.int (8 : Int32)), .val (.int (0 : Int32)), .val (.ref b769), .val (.int (0 : Int32)), .unset, .unset] []))
        exact J252 _ rfl
      · show Goes _ _ _ _ _ _ _ (T45.setTop (mkF m 56 #[.val (.int p0), .val (.int p1), .val (.int p2), .val (.int p3), .val (.int p4), .val (.int (4 : Int32)), .val (.int vn6), .val (.int vs7), .val (.ref b29), .val (.int vq9), .unset, .unset, .unset, .unset, .unset, .unset] []))
        refine G1 (fun _ => XS.iload X45.here hx rfl (hb hby at_56) rfl ) ?_
        refine G1 (fun _ => XS.iconst X45.here hx rfl (hb hby at_58)) ?_
        refine G1 (fun _ => XS.icmpYes X45.here hx rfl (pc0 := 59) (pc' := 66) rfl (hb hby at_59) rfl (feq (by decide : ¬ ((4 : Int32) = (1 : Int32)))).2 (by decide) (by decide)) ?_
        show Goes _ _ _ _ _ _ _ (T45.setTop (mkF m 66 _ []))
        refine G1 (fun _ => XS.iload X45.here hx rfl (hb hby at_66) rfl ) ?_
        refine G1 (fun _ => XS.iconst X45.here hx rfl (hb hby at_68)) ?_
        refine G1 (fun _ => XS.icmpYes X45.here hx rfl (pc0 := 69) (pc' := 76) rfl (hb hby at_69) rfl (feq (by decide : ¬ ((4 : Int32) = (2 : Int32)))).2 (by decide) (by decide)) ?_
        show Goes _ _ _ _ _ _ _ (T45.setTop (mkF m 76 _ []))
        refine G1 (fun _ => XS.bipush X45.here hx rfl (hb hby at_76)) ?_
        refine G1 (fun _ => XS.istore X45.here hx rfl (hb hby at_78) rfl (l' := #[.val (.int p0), .val (.int p1), .val (.int p2), .val (.int p3), .val (.int p4), .val (.int (4 : Int32)), .val (.int vn6), .val (.int vs7), .val (.ref b29), .val (.int vq9), .val (.int (8 : Int32)), .unset, .unset, .unset, .unset, .unset]) rfl) ?_
        show Goes _ _ _ _ _ _ _ (T45.setTop (mkF m 80 _ []))
        refine G1 (fun _ => XS.iload X45.here hx rfl (hb hby at_80) rfl ) ?_
        refine G1 (fun _ => XS.ifYes X45.here hx rfl (pc0 := 82) (pc' := 89) rfl (hb hby at_82) rfl ((if0 _ _).trans (feq (own_nA hnA).1).2) (by decide) (by decide)) ?_
        show Goes _ _ _ _ _ _ _ (T45.setTop (mkF m 89 _ []))
        refine G1 (fun _ => XS.iload X45.here hx rfl (hb hby at_89) rfl ) ?_
        refine G1 (fun _ => XS.iconst X45.here hx rfl (hb hby at_91)) ?_
        refine G1 (fun _ => XS.isub X45.here hx rfl (hb hby at_92) rfl) ?_
        show Goes _ _ _ _ _ _ _ (T45.setTop (mkF m 93 _ [(.int (vn6 - (1 : Int32)))]))
        refine G1 (fun _ => XS.iload X45.here hx rfl (hb hby at_93) rfl ) ?_
        refine G1 (fun _ => iremM X45 hx rfl (hb hby at_95) rfl (by decide)) ?_
        show Goes _ _ _ _ _ _ _ (T45.setTop (mkF m 96 _ [(.int ((vn6 - (1 : Int32)) % (4 : Int32)))]))
        refine G1 (fun _ => XS.iconst X45.here hx rfl (hb hby at_96)) ?_
        refine G1 (fun _ => XS.iadd X45.here hx rfl (hb hby at_97) rfl) ?_
        show Goes _ _ _ _ _ _ _ (T45.setTop (mkF m 98 _ [(.int (((vn6 - (1 : Int32)) % (4 : Int32)) + (1 : Int32)))]))
        refine G1 (fun _ => XS.istore X45.here hx rfl (hb hby at_98) rfl (l' := #[.val (.int p0), .val (.int p1), .val (.int p2), .val (.int p3), .val (.int p4), .val (.int (4 : Int32)), .val (.int vn6), .val (.int vs7), .val (.ref b29), .val (.int vq9), .val (.int (8 : Int32)), .val (.int (((vn6 - (1 : Int32)) % (4 : Int32)) + (1 : Int32))), .unset, .unset, .unset, .unset]) rfl) ?_
        show Goes _ _ _ _ _ _ _ (T45.setTop (mkF m 100 _ []))
        obtain ⟨T795, h795, X795, e795, E795, A795, D795, -, st795⟩ := newO X45 hx hZ hown w_1 w_2 w_3 e45 (g := (mkF m 100 #[.val (.int p0), .val (.int p1), .val (.int p2), .val (.int p3), .val (.int p4), .val (.int (4 : Int32)), .val (.int vn6), .val (.int vs7), .val (.ref b29), .val (.int vq9), .val (.int (8 : Int32)), .val (.int (((vn6 - (1 : Int32)) % (4 : Int32)) + (1 : Int32))), .unset, .unset, .unset, .unset] [])) rfl (hb hby at_100) (by decide) (by decide)
        obtain ⟨b795, g795⟩ : ∃ z, z = h45.size := ⟨_, rfl⟩
        rw [← g795] at A795 D795 st795
        refine G1 st795 ?_
        have g_b795 : n0 ≤ b795 := Nat.le_trans Z49 (Nat.le_of_eq g795.symm)
        have sz_b795 : h0.size ≤ b795 := Nat.le_trans K49.1 (Nat.le_of_eq g795.symm)
        have ne796 : b29 ≠ b795 := Nat.ne_of_lt (Nat.lt_of_lt_of_le f47.lt (Nat.le_of_eq g795.symm))
        have XO797 : Old Z n0 h795 := XO46.ext E795
        have f798 := f47.ext E795
        have f799 := f48.ext E795
        have K800 : Keep h0 h795 [] := K49.ext E795
        have Z800 : n0 ≤ h795.size := Nat.le_trans Z49 E795.1
        have E_b795 := A795
        have F_most_b795 : Fld Z h795 b795 "com/example/nehaba/nehaba/input/KeptValues" "most" "I" (.int (0 : Int32)) := D795 (Or.inr w_12) (ty := .int) (by decide)
        have F_keys_b795 : Fld Z h795 b795 "com/example/nehaba/nehaba/input/KeptValues" "keys" "[Ljava/lang/Object;" .null := D795 (Or.inr w_25) (ty := (.array (.object "java/lang/Object"))) (by decide)
        have F_hashes_b795 : Fld Z h795 b795 "com/example/nehaba/nehaba/input/KeptValues" "hashes" "[I" .null := D795 (Or.inr w_27) (ty := (.array .int)) (by decide)
        have F_values_b795 : Fld Z h795 b795 "com/example/nehaba/nehaba/input/KeptValues" "values" "[Ljava/lang/Object;" .null := D795 (Or.inr w_29) (ty := (.array (.object "java/lang/Object"))) (by decide)
        have F_shift_b795 : Fld Z h795 b795 "com/example/nehaba/nehaba/input/KeptValues" "shift" "I" (.int (0 : Int32)) := D795 (Or.inr w_32) (ty := .int) (by decide)
        have F_size_b795 : Fld Z h795 b795 "com/example/nehaba/nehaba/input/KeptValues" "size" "I" (.int (0 : Int32)) := D795 (Or.inl w_64) (ty := .int) (by decide)
        show Goes _ _ _ _ _ _ _ (T795.setTop (mkF m 103 _ [(.ref b795)]))
        refine G1 (fun _ => XS.dup X795.here hx rfl (hb hby at_103) rfl rfl) ?_
        refine G1 (fun _ => XS.iload X795.here hx rfl (hb hby at_104) rfl ) ?_
        obtain ⟨_, _, ⟨T801, L801, k801, n801⟩, -, X801, ⟨Lc801, hQ801, l801, y801, z801⟩, st801⟩ := X795.specialBack hx (y := mN7) rfl hown (mvT hZ w_4) (mvT hZ w_5) (mvT hZ w_6) (by decide) (backOf (W := 1) (rm1_4 l Z a0 hw [] b795 h795 n0 Z800 F_most_b795 F_keys_b795 F_hashes_b795 F_values_b795 F_shift_b795 F_size_b795 E_b795 g_b795) hZ w_6 w_3 (by decide) (by decide)) (g := (mkF m 106 #[.val (.int p0), .val (.int p1), .val (.int p2), .val (.int p3), .val (.int p4), .val (.int (4 : Int32)), .val (.int vn6), .val (.int vs7), .val (.ref b29), .val (.int vq9), .val (.int (8 : Int32)), .val (.int (((vn6 - (1 : Int32)) % (4 : Int32)) + (1 : Int32))), .unset, .unset, .unset, .unset] [(.int (4 : Int32)), (.ref b795), (.ref b795)])) rfl (by rw [hml]; rfl) (Steps.refl _) (a := b795) (argsL := [(.int (4 : Int32))]) (rest := [(.ref b795)]) (lenOf pd_0 rfl) rfl (by show 2 * 0 + _ ≤ _; exact Nat.le_of_eq rfl) (hb hby at_106) (fun _ _ => ⟨rfl, e795, (by decide : 2 + 3 ≤ _), (by decide : 9 + 24 ≤ _)⟩)
        dsimp only [Pt.U, Pt.locs, Pt.cells, Pt.slots] at X801 l801 y801 z801 st801 hQ801
        rw [l801, y801, z801] at X801
        obtain ⟨N801, KK801, hR801⟩ := hQ801
        have NA801 := Fr.app N49 N801
        have XO802 : Old Z n0 T801.heap := XO797.keep KK801 (allS g_b795 all0)
        have f803 := f798.keep KK801
        have f804 := f799.keep KK801 (ninS ne796 nin0)
        have f805 := E_b795.keep KK801
        have K812 : Keep h0 T801.heap [] := K800.trans KK801 (allS (Or.inr sz_b795) all0)
        have Z812 : n0 ≤ T801.heap.size := Nat.le_trans Z800 KK801.1
        obtain ⟨r801_0_0, r801_0_1, r801_0_2, kk801_0_0, kk801_0_1, kk801_0_2, rfl, g_r801_0_0, le_r801_0_0, g_r801_0_1, le_r801_0_1, g_r801_0_2, le_r801_0_2, nn801_0_0, nn801_0_1, nn801_0_2, v801_0_0, v801_0_1, v801_0_2, v801_0_3, v801_0_4, v801_0_5, v801_0_6, v801_0_7, v801_0_8, v801_0_9, oo801_0_0, oo801_0_1⟩ := hR801
        have ne813 : b29 ≠ r801_0_0 := Nat.ne_of_lt (Nat.lt_of_lt_of_le f798.lt le_r801_0_0)
        have ne814 : b795 ≠ r801_0_0 := Nat.ne_of_lt (Nat.lt_of_lt_of_le E_b795.lt le_r801_0_0)
        have sz_r801_0_0 : h0.size ≤ r801_0_0 := Nat.le_trans K800.1 le_r801_0_0
        have ne815 : b29 ≠ r801_0_1 := Nat.ne_of_lt (Nat.lt_of_lt_of_le f798.lt le_r801_0_1)
        have ne816 : b795 ≠ r801_0_1 := Nat.ne_of_lt (Nat.lt_of_lt_of_le E_b795.lt le_r801_0_1)
        have sz_r801_0_1 : h0.size ≤ r801_0_1 := Nat.le_trans K800.1 le_r801_0_1
        have ne817 : b29 ≠ r801_0_2 := Nat.ne_of_lt (Nat.lt_of_lt_of_le f798.lt le_r801_0_2)
        have ne818 : b795 ≠ r801_0_2 := Nat.ne_of_lt (Nat.lt_of_lt_of_le E_b795.lt le_r801_0_2)
        have sz_r801_0_2 : h0.size ≤ r801_0_2 := Nat.le_trans K800.1 le_r801_0_2
        refine G2 st801 ?_
        show Goes _ _ _ _ _ _ _ (T801.setTop (mkF m 109 _ [(.ref b795)]))
        show Goes _ _ _ _ _ _ _ (T801.setTop (mkF m 109 #[.val (.int p0), .val (.int p1), .val (.int p2), .val (.int p3), .val (.int p4), .val (.int (4 : Int32)), .val (.int vn6), .val (.int vs7), .val (.ref b29), .val (.int vq9), .val (.int (8 : Int32)), .val (.int (((vn6 - (1 : Int32)) % (4 : Int32)) + (1 : Int32))), .unset, .unset, .unset, .unset] [(.ref b795)]))
        have hN : 8 = 2 ∨ 8 = 4 ∨ 8 = 8 := (Or.inr (Or.inr rfl))
        have hS : (8 = 2 ∧ (29 : Int32) = 31) ∨ (8 = 4 ∧ (29 : Int32) = 30) ∨ (8 = 8 ∧ (29 : Int32) = 29) := (Or.inr (Or.inr ⟨rfl, rfl⟩))
        obtain ⟨f1, hf1⟩ : ∃ z : Fin 8, z.val = (own_f p1 (29 : Int32)).toNatClampNeg := ⟨⟨_, (own_first (N := 8) p1 hS).2⟩, rfl⟩
        obtain ⟨f2, hf2⟩ : ∃ z : Fin 8, z.val = (own_f p2 (29 : Int32)).toNatClampNeg := ⟨⟨_, (own_first (N := 8) p2 hS).2⟩, rfl⟩
        obtain ⟨f3, hf3⟩ : ∃ z : Fin 8, z.val = (own_f p3 (29 : Int32)).toNatClampNeg := ⟨⟨_, (own_first (N := 8) p3 hS).2⟩, rfl⟩
        obtain ⟨f4, hf4⟩ : ∃ z : Fin 8, z.val = (own_f vq9 (29 : Int32)).toNatClampNeg := ⟨⟨_, (own_first (N := 8) vq9 hS).2⟩, rfl⟩
        have ee1 : decide (p1 = vq9) = true → f1 = f4 := fun z => Fin.ext (by rw [hf1, hf4, of_decide_eq_true z])
        have ee2 : decide (p2 = vq9) = true → f2 = f4 := fun z => Fin.ext (by rw [hf2, hf4, of_decide_eq_true z])
        have ee3 : decide (p3 = vq9) = true → f3 = f4 := fun z => Fin.ext (by rw [hf3, hf4, of_decide_eq_true z])
        show Goes _ _ _ _ _ _ _ (T801.setTop (mkF m 109 #[.val (.int p0), .val (.int p1), .val (.int p2), .val (.int p3), .val (.int p4), .val (.int (4 : Int32)), .val (.int vn6), .val (.int vs7), .val (.ref b29), .val (.int vq9), .val (.int (8 : Int32)), .val (.int (((vn6 - (1 : Int32)) % (4 : Int32)) + (1 : Int32))), .unset, .unset, .unset, .unset] [(.ref b795)]))
        refine G1 (fun _ => XS.astore X801.here hx rfl (hb hby at_109) rfl rfl (l' := #[.val (.int p0), .val (.int p1), .val (.int p2), .val (.int p3), .val (.int p4), .val (.int (4 : Int32)), .val (.int vn6), .val (.int vs7), .val (.ref b29), .val (.int vq9), .val (.int (8 : Int32)), .val (.int (((vn6 - (1 : Int32)) % (4 : Int32)) + (1 : Int32))), .val (.ref b795), .unset, .unset, .unset]) rfl) ?_
        show Goes _ _ _ _ _ _ _ (T801.setTop (mkF m 111 _ []))
        refine G1 (fun _ => XS.iload X801.here hx rfl (hb hby at_111) rfl ) ?_
        refine G1 (fun _ => XS.iconst X801.here hx rfl (hb hby at_113)) ?_
        refine G1 (fun _ => XS.icmpNo X801.here hx rfl (hb hby at_114) rfl (flt (own_nA hnA).2).1) ?_
        show Goes _ _ _ _ _ _ _ (T801.setTop (mkF m 117 _ []))
        refine G1 (fun _ => XS.aload X801.here hx rfl (hb hby at_117) rfl rfl) ?_
        refine G1 (fun _ => XS.aload X801.here hx rfl (hb hby at_119) rfl rfl) ?_
        refine G1 (fun _ => XS.iconst X801.here hx rfl (hb hby at_121)) ?_
        obtain ⟨cl819, Ar819, q819, S819, P819, H819, G819⟩ := id f804
        have hin819 : ¬ ((0 : Int32) < 0 ∨ cl819.slots.size ≤ ((0 : Int32)).toNatClampNeg) := inb_of S819 ⟨by decide, by decide⟩
        have hat819 : cl819.slots[((0 : Int32)).toNatClampNeg]? = some (.int p1) := H819 _ (by rw [S819]; decide)
        refine G1 (fun _ => X801.iaload hx (j := (0 : Int32)) (v := (.int p1)) (by exact Ar819.1) (State.isArrayOf_alike hZ.alike Ar819.2.1) Ar819.2.2 hin819 hat819 (g := (mkF m 122 #[.val (.int p0), .val (.int p1), .val (.int p2), .val (.int p3), .val (.int p4), .val (.int (4 : Int32)), .val (.int vn6), .val (.int vs7), .val (.ref b29), .val (.int vq9), .val (.int (8 : Int32)), .val (.int (((vn6 - (1 : Int32)) % (4 : Int32)) + (1 : Int32))), .val (.ref b795), .unset, .unset, .unset] [(.int (0 : Int32)), (.ref b29), (.ref b795)])) rfl rfl (hb hby at_122) _) ?_
        show Goes _ _ _ _ _ _ _ (T801.setTop (mkF m 123 _ [(.int p1), (.ref b795)]))
        refine G1 (fun _ => XS.iconst X801.here hx rfl (hb hby at_123)) ?_
        obtain ⟨_, _, ⟨T820, L820, k820, n820⟩, -, X820, ⟨Lc820, hQ820, l820, y820, z820⟩, st820⟩ := Jvm.LawKit.callS X801 hx (y := mN9) hown (mvT hZ w_52) (mvT hZ w_53) (mvT hZ w_15) (mvT hZ w_54) (by decide) (backOf (W := 2) (rm9 l Z a0 hw [] (0 : Int32) ca cc T801.heap n0 Z812 (S_high.ext XO802.2) (S_cache.ext XO802.2) BX XO802 (by decide) (by decide)) hZ w_54 w_15 (by decide) (by decide)) (g := (mkF m 124 #[.val (.int p0), .val (.int p1), .val (.int p2), .val (.int p3), .val (.int p4), .val (.int (4 : Int32)), .val (.int vn6), .val (.int vs7), .val (.ref b29), .val (.int vq9), .val (.int (8 : Int32)), .val (.int (((vn6 - (1 : Int32)) % (4 : Int32)) + (1 : Int32))), .val (.ref b795), .unset, .unset, .unset] [(.int (0 : Int32)), (.int p1), (.ref b795)])) rfl (by rw [hml]; rfl) (argsL := [(.int (0 : Int32))]) (rest := [(.int p1), (.ref b795)]) (lenOf pd_5 rfl) rfl (by show 2 * 0 + _ ≤ _; exact Nat.le_of_eq rfl) (hb hby at_124) (fun _ _ => ⟨rfl, rfl, (by decide : 5 + 0 ≤ _), (by decide : 33 + 0 ≤ _)⟩)
        dsimp only [Pt.U, Pt.locs, Pt.cells, Pt.slots] at X820 l820 y820 z820 st820 hQ820
        rw [l820, y820, z820] at X820
        obtain ⟨N820, KK820, r820, rfl, ex820⟩ := hQ820
        have NA820 := Fr.app NA801 N820
        have XO821 : Old Z n0 T820.heap := XO802.keep KK820 all0
        have f822 := f803.keep KK820
        have f823 := f804.keep KK820 nin0
        have f824 := v801_0_6.keep KK820
        have f825 := v801_0_0.keep KK820 nin0
        have f826 := v801_0_1.keep KK820 nin0
        have f827 := v801_0_2.keep KK820 nin0
        have f828 := v801_0_3.keep KK820 nin0
        have f829 := v801_0_4.keep KK820 nin0
        have f830 := v801_0_5.keep KK820 nin0
        have f831 := v801_0_7.keep KK820 nin0
        have f832 := v801_0_8.keep KK820 nin0
        have f833 := v801_0_9.keep KK820 nin0
        have K834 : Keep h0 T820.heap [] := K812.trans KK820 all0
        have Z834 : n0 ≤ T820.heap.size := Nat.le_trans Z812 KK820.1
        refine G1 st820 ?_
        show Goes _ _ _ _ _ _ _ (T820.setTop (mkF m 127 _ [(.ref r820), (.int p1), (.ref b795)]))
        refine G1 (fun _ => XS.bipush X820.here hx rfl (hb hby at_127)) ?_
        obtain ⟨_, _, ⟨T835, L835, k835, n835⟩, -, X835, ⟨Lc835, hQ835, l835, y835, z835⟩, st835⟩ := Jvm.LawKit.callS X820 hx (y := mN9) hown (mvT hZ w_52) (mvT hZ w_53) (mvT hZ w_15) (mvT hZ w_54) (by decide) (backOf (W := 3) (rm9 l Z a0 hw [] (10 : Int32) ca cc T820.heap n0 Z834 (S_high.ext XO821.2) (S_cache.ext XO821.2) BX XO821 (by decide) (by decide)) hZ w_54 w_15 (by decide) (by decide)) (g := (mkF m 129 #[.val (.int p0), .val (.int p1), .val (.int p2), .val (.int p3), .val (.int p4), .val (.int (4 : Int32)), .val (.int vn6), .val (.int vs7), .val (.ref b29), .val (.int vq9), .val (.int (8 : Int32)), .val (.int (((vn6 - (1 : Int32)) % (4 : Int32)) + (1 : Int32))), .val (.ref b795), .unset, .unset, .unset] [(.int (10 : Int32)), (.ref r820), (.int p1), (.ref b795)])) rfl (by rw [hml]; rfl) (argsL := [(.int (10 : Int32))]) (rest := [(.ref r820), (.int p1), (.ref b795)]) (lenOf pd_5 rfl) rfl (by show 2 * 0 + _ ≤ _; exact Nat.le_of_eq rfl) (hb hby at_129) (fun _ _ => ⟨rfl, rfl, (by decide : 5 + 0 ≤ _), (by decide : 33 + 0 ≤ _)⟩)
        dsimp only [Pt.U, Pt.locs, Pt.cells, Pt.slots] at X835 l835 y835 z835 st835 hQ835
        rw [l835, y835, z835] at X835
        obtain ⟨N835, KK835, r835, rfl, ex835⟩ := hQ835
        have NA835 := Fr.app NA820 N835
        have XO836 : Old Z n0 T835.heap := XO821.keep KK835 all0
        have f837 := f822.keep KK835
        have f838 := f823.keep KK835 nin0
        have f839 := f824.keep KK835
        have f840 := f825.keep KK835 nin0
        have f841 := f826.keep KK835 nin0
        have f842 := f827.keep KK835 nin0
        have f843 := f828.keep KK835 nin0
        have f844 := f829.keep KK835 nin0
        have f845 := f830.keep KK835 nin0
        have f846 := f831.keep KK835 nin0
        have f847 := f832.keep KK835 nin0
        have f848 := f833.keep KK835 nin0
        have f849 := ex820.keep KK835
        have K850 : Keep h0 T835.heap [] := K834.trans KK835 all0
        have Z850 : n0 ≤ T835.heap.size := Nat.le_trans Z834 KK835.1
        refine G1 st835 ?_
        show Goes _ _ _ _ _ _ _ (T835.setTop (mkF m 132 _ [(.ref r835), (.ref r820), (.int p1), (.ref b795)]))
        have rc851 : ArF Z T835.heap r801_0_0 kk801_0_0 (.object "java/lang/Object") 8 (fun j => rfv (own_K r820 r820 r820) (own_t0 j)) := f846.congr (fun _ _ => rfl)
        have rc852 : ArF Z T835.heap r801_0_2 kk801_0_2 (.object "java/lang/Object") 8 (fun j => rfv (own_K r835 r835 r835) (own_t0 j)) := f848.congr (fun _ _ => rfl)
        obtain ⟨cq853, kq853, q853a, q853b, q853c⟩ := isOf hZ rfl f839
        obtain ⟨_, _, ⟨T853, L853, k853, n853⟩, -, X853, ⟨Lc853, hQ853, l853, y853, z853⟩, st853⟩ := X835.virtualBack hx (y := mN10) (z := mN10) hown (mvT hZ w_58) (mvT hZ w_59) (notFace_of_selects (args := #[]) (mvT hZ w_61)) (mvT hZ w_61) (mvT hZ w_60) (by decide) (backOf (W := 0) (rm10_n l Z a0 hw [] b795 p1 r820 r835 r801_0_0 r801_0_1 r801_0_2 kk801_0_0 kk801_0_1 kk801_0_2 8 own_t0 (fun _ => (0 : Int32)) (own_K r820 r820 r820) (own_K r835 r835 r835) (29 : Int32) (4 : Int32) (0 : Int32) 0 9 f1.val T835.heap n0 Z850 f839 f841 f842 f843 f840 f845 f844 rc851 f847 rc852 oo801_0_0 oo801_0_1 (Ins.of_exa f849 w_65) (Ins.of_exa ex835 w_65) rfl rfl g_b795 g_r801_0_0 g_r801_0_1 g_r801_0_2 (Ne.symm ne814) (Ne.symm ne816) nn801_0_0 (Ne.symm ne818) nn801_0_1 nn801_0_2 (by decide) hN hS (by rw [← hf1]; exact rfl)) hZ w_62 w_3 (by decide) (by decide)) q853a q853c (g := (mkF m 132 #[.val (.int p0), .val (.int p1), .val (.int p2), .val (.int p3), .val (.int p4), .val (.int (4 : Int32)), .val (.int vn6), .val (.int vs7), .val (.ref b29), .val (.int vq9), .val (.int (8 : Int32)), .val (.int (((vn6 - (1 : Int32)) % (4 : Int32)) + (1 : Int32))), .val (.ref b795), .unset, .unset, .unset] [(.ref r835), (.ref r820), (.int p1), (.ref b795)])) rfl (by rw [hml]; rfl) (Steps.refl _) (argsL := [(.int p1), (.ref r820), (.ref r835)]) (rest := []) (lenOf pd_6 rfl) rfl (by show 2 * 0 + _ ≤ _; exact Nat.le_of_eq rfl) (hb hby at_132) (fun _ _ => ⟨rfl, rfl, (by decide : 5 + 0 ≤ _), (by decide : 33 + 0 ≤ _)⟩)
        dsimp only [Pt.U, Pt.locs, Pt.cells, Pt.slots] at X853 l853 y853 z853 st853 hQ853
        rw [l853, y853, z853] at X853
        obtain ⟨N853, KK853, rfl, pf853_0, pf853_1, pf853_2, pf853_3, pf853_4, pf853_5, pf853_6, pf853_7, pf853_8, pf853_9⟩ := hQ853
        have NA853 := Fr.app NA835 N853
        have XO854 : Old Z n0 T853.heap := XO836.keep KK853 (allS g_b795 (allS g_r801_0_0 (allS g_r801_0_1 (allS g_r801_0_2 all0))))
        have f855 := f837.keep KK853
        have f856 := f838.keep KK853 (ninS ne796 (ninS ne813 (ninS ne815 (ninS ne817 nin0))))
        have f857 := f839.keep KK853
        have f867 := f849.keep KK853
        have f868 := ex835.keep KK853
        have K869 : Keep h0 T853.heap [] := K850.trans KK853 (allS (Or.inr sz_b795) (allS (Or.inr sz_r801_0_0) (allS (Or.inr sz_r801_0_1) (allS (Or.inr sz_r801_0_2) all0))))
        have Z869 : n0 ≤ T853.heap.size := Nat.le_trans Z850 KK853.1
        refine G2 st853 ?_
        show Goes _ _ _ _ _ _ _ (T853.setTop (mkF m 135 _ [(.ref r835)]))
        refine G1 (fun _ => XS.pop X853.here hx rfl (hb hby at_135) rfl rfl) ?_
        show Goes _ _ _ _ _ _ _ (T853.setTop (mkF m 136 _ []))
        show Goes _ _ _ _ _ _ _ (T853.setTop (mkF m 136 #[.val (.int p0), .val (.int p1), .val (.int p2), .val (.int p3), .val (.int p4), .val (.int (4 : Int32)), .val (.int vn6), .val (.int vs7), .val (.ref b29), .val (.int vq9), .val (.int (8 : Int32)), .val (.int (((vn6 - (1 : Int32)) % (4 : Int32)) + (1 : Int32))), .val (.ref b795), .unset, .unset, .unset] []))
        rcases hnA with rfl | hnB
        · show Goes _ _ _ _ _ _ _ (T853.setTop (mkF m 136 #[.val (.int p0), .val (.int p1), .val (.int p2), .val (.int p3), .val (.int p4), .val (.int (4 : Int32)), .val (.int (1 : Int32)), .val (.int vs7), .val (.ref b29), .val (.int vq9), .val (.int (8 : Int32)), .val (.int (1 : Int32)), .val (.ref b795), .unset, .unset, .unset] []))
          refine G1 (fun _ => XS.iload X853.here hx rfl (hb hby at_136) rfl ) ?_
          refine G1 (fun _ => XS.iconst X853.here hx rfl (hb hby at_138)) ?_
          refine G1 (fun _ => XS.icmpYes X853.here hx rfl (pc0 := 139) (pc' := 161) rfl (hb hby at_139) rfl (tlt (by decide : (1 : Int32) < (2 : Int32))).1 (by decide) (by decide)) ?_
          show Goes _ _ _ _ _ _ _ (T853.setTop (mkF m 161 _ []))
          show Goes _ _ _ _ _ _ _ (T853.setTop (mkF m 161 #[.val (.int p0), .val (.int p1), .val (.int p2), .val (.int p3), .val (.int p4), .val (.int (4 : Int32)), .val (.int (1 : Int32)), .val (.int vs7), .val (.ref b29), .val (.int vq9), .val (.int (8 : Int32)), .val (.int (1 : Int32)), .val (.ref b795), .unset, .unset, .unset] []))
          refine G1 (fun _ => XS.iload X853.here hx rfl (hb hby at_161) rfl ) ?_
          refine G1 (fun _ => XS.iconst X853.here hx rfl (hb hby at_163)) ?_
          refine G1 (fun _ => XS.icmpYes X853.here hx rfl (pc0 := 164) (pc' := 186) rfl (hb hby at_164) rfl (tlt (by decide : (1 : Int32) < (3 : Int32))).1 (by decide) (by decide)) ?_
          show Goes _ _ _ _ _ _ _ (T853.setTop (mkF m 186 _ []))
          refine G1 (fun _ => XS.iconst X853.here hx rfl (hb hby at_186)) ?_
          refine G1 (fun _ => XS.istore X853.here hx rfl (hb hby at_187) rfl (l' := #[.val (.int p0), .val (.int p1), .val (.int p2), .val (.int p3), .val (.int p4), .val (.int (4 : Int32)), .val (.int (1 : Int32)), .val (.int vs7), .val (.ref b29), .val (.int vq9), .val (.int (8 : Int32)), .val (.int (1 : Int32)), .val (.ref b795), .val (.int (0 : Int32)), .unset, .unset]) rfl) ?_
          show Goes _ _ _ _ _ _ _ (T853.setTop (mkF m 189 _ []))
          show Goes _ _ _ _ _ _ _ (T853.setTop (mkF m 189 #[.val (.int p0), .val (.int p1), .val (.int p2), .val (.int p3), .val (.int p4), .val (.int (4 : Int32)), .val (.int (1 : Int32)), .val (.int vs7), .val (.ref b29), .val (.int vq9), .val (.int (8 : Int32)), .val (.int (1 : Int32)), .val (.ref b795), .val (.int (0 : Int32)), .unset, .unset] []))
          have lw := own_s8 f1 f4 0 (decide (p1 = vq9)) (decide (p2 = vq9)) (decide (p3 = vq9)) ee1
          rw [Bool.and_eq_true] at lw
          obtain ⟨pp, hsk0, hpb0⟩ := own_satE lw.1
          have hpb : own_b ((own_put own_t0 f1.val 0) pp) = own_i (decide (p1 = vq9)) := own_beq hpb0
          have hcn : own_b ((own_put own_t0 f1.val 0) ((0 : Int32)).toNatClampNeg) + own_b ((own_put own_t0 f1.val 0) ((1 : Int32)).toNatClampNeg) + own_b ((own_put own_t0 f1.val 0) ((2 : Int32)).toNatClampNeg) + own_b ((own_put own_t0 f1.val 0) ((3 : Int32)).toNatClampNeg) + own_b ((own_put own_t0 f1.val 0) ((4 : Int32)).toNatClampNeg) + own_b ((own_put own_t0 f1.val 0) ((5 : Int32)).toNatClampNeg) + own_b ((own_put own_t0 f1.val 0) ((6 : Int32)).toNatClampNeg) + own_b ((own_put own_t0 f1.val 0) ((7 : Int32)).toNatClampNeg) = (1 : Int32) := own_beq lw.2
          have hsk : seekP (own_put own_t0 f1.val 0) (fun j => decide (own_H p1 p2 p3 j = vq9)) 8 9 (own_f vq9 (29 : Int32)).toNatClampNeg = some pp := by rw [own_e3H, ← hf4]; exact hsk0
          have hH : ∀ p j, (own_put own_t0 f1.val 0) p = some j → (own_hp (fun _ => (0 : Int32)) f1.val p1) p = own_H p1 p2 p3 j := (own_hH own_hH0 (by rfl))
          have J252 : ∀ ex : Int32, own_i (decide (p1 = vq9)) = ex → Goes p e below s room_1.cells room_1.slots (fun v h L => Q0 Z p0 p1 p2 p3 p4 ca cc h0 n0 v h L) (T853.setTop (mkF m 252 #[.val (.int p0), .val (.int p1), .val (.int p2), .val (.int p3), .val (.int p4), .val (.int (4 : Int32)), .val (.int (1 : Int32)), .val (.int vs7), .val (.ref b29), .val (.int vq9), .val (.int (8 : Int32)), .val (.int (1 : Int32)), .val (.ref b795), .val (.int ex), .unset, .unset] [])) := by
            intro ex hex
            refine G1 (fun _ => XS.aload X853.here hx rfl (hb hby at_252) rfl rfl) ?_
            refine G1 (fun _ => XS.aload X853.here hx rfl (hb hby at_254) rfl rfl) ?_
            refine G1 (fun _ => XS.iload X853.here hx rfl (hb hby at_256) rfl ) ?_
            obtain ⟨cq870, kq870, q870a, q870b, q870c⟩ := isOf hZ rfl pf853_0
            obtain ⟨_, _, ⟨T870, L870, k870, n870⟩, -, X870, ⟨Lc870, hQ870, l870, y870, z870⟩, st870⟩ := X853.virtualBack hx (y := mN8) (z := mN8) hown (mvT hZ w_33) (mvT hZ w_34) (notFace_of_selects (args := #[]) (mvT hZ w_36)) (mvT hZ w_36) (mvT hZ w_35) (by decide) (backOf (W := 1) (rm5 l Z a0 hw [] b795 vq9 r801_0_0 r801_0_1 r801_0_2 kk801_0_0 kk801_0_1 kk801_0_2 8 (own_put own_t0 f1.val 0) (own_hp (fun _ => (0 : Int32)) f1.val p1) (own_K r820 r820 r820) (own_K r835 r835 r835) (29 : Int32) (4 : Int32) (1 : Int32) (own_H p1 p2 p3) 9 pp T853.heap n0 Z869 pf853_0 pf853_1 pf853_2 pf853_3 pf853_4 pf853_5 pf853_6 pf853_7 pf853_8 pf853_9 hN hH hS hsk) hZ w_37 w_3 (by decide) (by decide)) q870a q870c (g := (mkF m 258 #[.val (.int p0), .val (.int p1), .val (.int p2), .val (.int p3), .val (.int p4), .val (.int (4 : Int32)), .val (.int (1 : Int32)), .val (.int vs7), .val (.ref b29), .val (.int vq9), .val (.int (8 : Int32)), .val (.int (1 : Int32)), .val (.ref b795), .val (.int ex), .unset, .unset] [(.int vq9), (.ref b795), (.ref b795)])) rfl (by rw [hml]; rfl) (Steps.refl _) (argsL := [(.int vq9)]) (rest := [(.ref b795)]) (lenOf pd_2 rfl) rfl (by show 2 * 0 + _ ≤ _; exact Nat.le_of_eq rfl) (hb hby at_258) (fun _ _ => ⟨rfl, rfl, (by decide : 5 + 0 ≤ _), (by decide : 33 + 0 ≤ _)⟩)
            dsimp only [Pt.U, Pt.locs, Pt.cells, Pt.slots] at X870 l870 y870 z870 st870 hQ870
            rw [l870, y870, z870] at X870
            obtain ⟨N870, eh870, r870, rfl, r1_870, r2_870, r3_870⟩ := hQ870
            have NA870 := Fr.app NA853 N870
            refine G2 st870 ?_
            show Goes _ _ _ _ _ _ _ (T870.setTop (mkF m 261 _ [(.int r870), (.ref b795)]))
            obtain ⟨cq871, kq871, q871a, q871b, q871c⟩ := isOf hZ eh870 pf853_0
            obtain ⟨_, _, ⟨T871, L871, k871, n871⟩, -, X871, ⟨Lc871, hQ871, l871, y871, z871⟩, st871⟩ := X870.virtualBack hx (y := mN6) (z := mN6) hown (mvT hZ w_47) (mvT hZ w_48) (notFace_of_selects (args := #[]) (mvT hZ w_50)) (mvT hZ w_50) (mvT hZ w_49) (by decide) (backOf (W := 0) (rm8 l Z a0 hw [] b795 r870 r801_0_0 r801_0_1 r801_0_2 kk801_0_0 kk801_0_1 kk801_0_2 8 (own_put own_t0 f1.val 0) (own_hp (fun _ => (0 : Int32)) f1.val p1) (own_K r820 r820 r820) (own_K r835 r835 r835) (29 : Int32) (4 : Int32) (1 : Int32) T853.heap n0 Z869 pf853_0 pf853_1 pf853_2 pf853_3 pf853_4 pf853_5 pf853_6 pf853_7 pf853_8 pf853_9 r1_870 r3_870) hZ w_51 w_3 (by decide) (by decide)) q871a q871c (g := (mkF m 261 #[.val (.int p0), .val (.int p1), .val (.int p2), .val (.int p3), .val (.int p4), .val (.int (4 : Int32)), .val (.int (1 : Int32)), .val (.int vs7), .val (.ref b29), .val (.int vq9), .val (.int (8 : Int32)), .val (.int (1 : Int32)), .val (.ref b795), .val (.int ex), .unset, .unset] [(.int r870), (.ref b795)])) rfl (by rw [hml]; rfl) (Steps.refl _) (argsL := [(.int r870)]) (rest := []) (lenOf pd_4 rfl) rfl (by show 2 * 0 + _ ≤ _; exact Nat.le_of_eq rfl) (hb hby at_261) (fun _ _ => ⟨rfl, eh870, (by decide : 5 + 0 ≤ _), (by decide : 33 + 0 ≤ _)⟩)
            dsimp only [Pt.U, Pt.locs, Pt.cells, Pt.slots] at X871 l871 y871 z871 st871 hQ871
            rw [l871, y871, z871] at X871
            obtain ⟨N871, eh871, hv871⟩ := hQ871
            have NA871 := Fr.app NA870 N871
            subst hv871
            refine G2 st871 ?_
            show Goes _ _ _ _ _ _ _ (T871.setTop (mkF m 264 _ [(.int (own_b ((own_put own_t0 f1.val 0) (r870).toNatClampNeg)))]))
            refine G1 (fun _ => XS.istore X871.here hx rfl (hb hby at_264) rfl (l' := #[.val (.int p0), .val (.int p1), .val (.int p2), .val (.int p3), .val (.int p4), .val (.int (4 : Int32)), .val (.int (1 : Int32)), .val (.int vs7), .val (.ref b29), .val (.int vq9), .val (.int (8 : Int32)), .val (.int (1 : Int32)), .val (.ref b795), .val (.int ex), .val (.int (own_b ((own_put own_t0 f1.val 0) (r870).toNatClampNeg))), .unset]) rfl) ?_
            show Goes _ _ _ _ _ _ _ (T871.setTop (mkF m 266 _ []))
            show Goes _ _ _ _ _ _ _ (T871.setTop (mkF m 266 #[.val (.int p0), .val (.int p1), .val (.int p2), .val (.int p3), .val (.int p4), .val (.int (4 : Int32)), .val (.int (1 : Int32)), .val (.int vs7), .val (.ref b29), .val (.int vq9), .val (.int (8 : Int32)), .val (.int (1 : Int32)), .val (.ref b795), .val (.int ex), .val (.int (own_b ((own_put own_t0 f1.val 0) (r870).toNatClampNeg))), .unset] []))
            have hfx : (own_b ((own_put own_t0 f1.val 0) (r870).toNatClampNeg)) = ex := by rw [r2_870]; exact hpb.trans hex
            rw [hfx]
            exact J266_8 _ _ _ _ _ ex _ _ r801_0_0 r801_0_1 r801_0_2 kk801_0_0 kk801_0_1 kk801_0_2 (own_put own_t0 f1.val 0) (own_hp (fun _ => (0 : Int32)) f1.val p1) (own_K r820 r820 r820) (own_K r835 r835 r835) (1 : Int32) T853.heap _ _ X871 eh871 NA871 Z869 pf853_0 pf853_1 pf853_2 pf853_3 pf853_4 pf853_5 pf853_6 pf853_7 pf853_8 pf853_9 hcn
          show Goes _ _ _ _ _ _ _ (T853.setTop (mkF m 189 #[.val (.int p0), .val (.int p1), .val (.int p2), .val (.int p3), .val (.int p4), .val (.int (4 : Int32)), .val (.int (1 : Int32)), .val (.int vs7), .val (.ref b29), .val (.int vq9), .val (.int (8 : Int32)), .val (.int (1 : Int32)), .val (.ref b795), .val (.int (0 : Int32)), .unset, .unset] []))
          refine G1 (fun _ => XS.iload X853.here hx rfl (hb hby at_189) rfl ) ?_
          refine G1 (fun _ => XS.iconst X853.here hx rfl (hb hby at_191)) ?_
          refine G1 (fun _ => XS.icmpNo X853.here hx rfl (hb hby at_192) rfl (flt (by decide : ¬ ((1 : Int32) < (1 : Int32)))).1) ?_
          show Goes _ _ _ _ _ _ _ (T853.setTop (mkF m 195 _ []))
          refine G1 (fun _ => XS.aload X853.here hx rfl (hb hby at_195) rfl rfl) ?_
          refine G1 (fun _ => XS.iload X853.here hx rfl (hb hby at_197) rfl ) ?_
          refine G1 (fun _ => XS.iconst X853.here hx rfl (hb hby at_199)) ?_
          refine G1 (fun _ => XS.isub X853.here hx rfl (hb hby at_200) rfl) ?_
          show Goes _ _ _ _ _ _ _ (T853.setTop (mkF m 201 _ [(.int (0 : Int32)), (.ref b29)]))
          obtain ⟨cl872, Ar872, q872, S872, P872, H872, G872⟩ := id f856
          have hin872 : ¬ ((0 : Int32) < 0 ∨ cl872.slots.size ≤ ((0 : Int32)).toNatClampNeg) := inb_of S872 ⟨by decide, by decide⟩
          have hat872 : cl872.slots[((0 : Int32)).toNatClampNeg]? = some (.int p1) := H872 _ (by rw [S872]; decide)
          refine G1 (fun _ => X853.iaload hx (j := (0 : Int32)) (v := (.int p1)) (by exact Ar872.1) (State.isArrayOf_alike hZ.alike Ar872.2.1) Ar872.2.2 hin872 hat872 (g := (mkF m 201 #[.val (.int p0), .val (.int p1), .val (.int p2), .val (.int p3), .val (.int p4), .val (.int (4 : Int32)), .val (.int (1 : Int32)), .val (.int vs7), .val (.ref b29), .val (.int vq9), .val (.int (8 : Int32)), .val (.int (1 : Int32)), .val (.ref b795), .val (.int (0 : Int32)), .unset, .unset] [(.int (0 : Int32)), (.ref b29)])) rfl rfl (hb hby at_201) _) ?_
          show Goes _ _ _ _ _ _ _ (T853.setTop (mkF m 202 _ [(.int p1)]))
          refine G1 (fun _ => XS.iload X853.here hx rfl (hb hby at_202) rfl ) ?_
          by_cases c204_873 : p1 = vq9
          · refine G1 (fun _ => XS.icmpNo X853.here hx rfl (hb hby at_204) rfl (teq c204_873).2) ?_
            show Goes _ _ _ _ _ _ _ (T853.setTop (mkF m 207 _ []))
            refine G1 (fun _ => XS.iconst X853.here hx rfl (hb hby at_207)) ?_
            refine G1 (fun _ => XS.istore X853.here hx rfl (hb hby at_208) rfl (l' := #[.val (.int p0), .val (.int p1), .val (.int p2), .val (.int p3), .val (.int p4), .val (.int (4 : Int32)), .val (.int (1 : Int32)), .val (.int vs7), .val (.ref b29), .val (.int vq9), .val (.int (8 : Int32)), .val (.int (1 : Int32)), .val (.ref b795), .val (.int (1 : Int32)), .unset, .unset]) rfl) ?_
            show Goes _ _ _ _ _ _ _ (T853.setTop (mkF m 210 _ []))
            refine G1 (fun _ => XS.iload X853.here hx rfl (hb hby at_210) rfl ) ?_
            refine G1 (fun _ => XS.iconst X853.here hx rfl (hb hby at_212)) ?_
            refine G1 (fun _ => XS.icmpYes X853.here hx rfl (pc0 := 213) (pc' := 231) rfl (hb hby at_213) rfl (tlt (by decide : (1 : Int32) < (2 : Int32))).1 (by decide) (by decide)) ?_
            show Goes _ _ _ _ _ _ _ (T853.setTop (mkF m 231 _ []))
            refine G1 (fun _ => XS.iload X853.here hx rfl (hb hby at_231) rfl ) ?_
            refine G1 (fun _ => XS.iconst X853.here hx rfl (hb hby at_233)) ?_
            refine G1 (fun _ => XS.icmpYes X853.here hx rfl (pc0 := 234) (pc' := 252) rfl (hb hby at_234) rfl (tlt (by decide : (1 : Int32) < (3 : Int32))).1 (by decide) (by decide)) ?_
            show Goes _ _ _ _ _ _ _ (T853.setTop (mkF m 252 _ []))
            show Goes _ _ _ _ _ _ _ (T853.setTop (mkF m 252 #[.val (.int p0), .val (.int p1), .val (.int p2), .val (.int p3), .val (.int p4), .val (.int (4 : Int32)), .val (.int (1 : Int32)), .val (.int vs7), .val (.ref b29), .val (.int vq9), .val (.int (8 : Int32)), .val (.int (1 : Int32)), .val (.ref b795), .val (.int (1 : Int32)), .unset, .unset] []))
            exact J252 _ (by simp only [decide_eq_true c204_873]; rfl)
          · refine G1 (fun _ => XS.icmpYes X853.here hx rfl (pc0 := 204) (pc' := 210) rfl (hb hby at_204) rfl (feq c204_873).2 (by decide) (by decide)) ?_
            show Goes _ _ _ _ _ _ _ (T853.setTop (mkF m 210 _ []))
            refine G1 (fun _ => XS.iload X853.here hx rfl (hb hby at_210) rfl ) ?_
            refine G1 (fun _ => XS.iconst X853.here hx rfl (hb hby at_212)) ?_
            refine G1 (fun _ => XS.icmpYes X853.here hx rfl (pc0 := 213) (pc' := 231) rfl (hb hby at_213) rfl (tlt (by decide : (1 : Int32) < (2 : Int32))).1 (by decide) (by decide)) ?_
            show Goes _ _ _ _ _ _ _ (T853.setTop (mkF m 231 _ []))
            refine G1 (fun _ => XS.iload X853.here hx rfl (hb hby at_231) rfl ) ?_
            refine G1 (fun _ => XS.iconst X853.here hx rfl (hb hby at_233)) ?_
            refine G1 (fun _ => XS.icmpYes X853.here hx rfl (pc0 := 234) (pc' := 252) rfl (hb hby at_234) rfl (tlt (by decide : (1 : Int32) < (3 : Int32))).1 (by decide) (by decide)) ?_
            show Goes _ _ _ _ _ _ _ (T853.setTop (mkF m 252 _ []))
            show Goes _ _ _ _ _ _ _ (T853.setTop (mkF m 252 #[.val (.int p0), .val (.int p1), .val (.int p2), .val (.int p3), .val (.int p4), .val (.int (4 : Int32)), .val (.int (1 : Int32)), .val (.int vs7), .val (.ref b29), .val (.int vq9), .val (.int (8 : Int32)), .val (.int (1 : Int32)), .val (.ref b795), .val (.int (0 : Int32)), .unset, .unset] []))
            exact J252 _ (by simp only [decide_eq_false c204_873]; rfl)
        · obtain ⟨q2, pr2, -⟩ := own_satE (own_d8 f1 f2 f1 false false nofun nofun)
          show Goes _ _ _ _ _ _ _ (T853.setTop (mkF m 136 #[.val (.int p0), .val (.int p1), .val (.int p2), .val (.int p3), .val (.int p4), .val (.int (4 : Int32)), .val (.int vn6), .val (.int vs7), .val (.ref b29), .val (.int vq9), .val (.int (8 : Int32)), .val (.int (((vn6 - (1 : Int32)) % (4 : Int32)) + (1 : Int32))), .val (.ref b795), .unset, .unset, .unset] []))
          refine G1 (fun _ => XS.iload X853.here hx rfl (hb hby at_136) rfl ) ?_
          refine G1 (fun _ => XS.iconst X853.here hx rfl (hb hby at_138)) ?_
          refine G1 (fun _ => XS.icmpNo X853.here hx rfl (hb hby at_139) rfl (flt (own_nB hnB)).1) ?_
          show Goes _ _ _ _ _ _ _ (T853.setTop (mkF m 142 _ []))
          refine G1 (fun _ => XS.aload X853.here hx rfl (hb hby at_142) rfl rfl) ?_
          refine G1 (fun _ => XS.aload X853.here hx rfl (hb hby at_144) rfl rfl) ?_
          refine G1 (fun _ => XS.iconst X853.here hx rfl (hb hby at_146)) ?_
          obtain ⟨cl874, Ar874, q874, S874, P874, H874, G874⟩ := id f856
          have hin874 : ¬ ((1 : Int32) < 0 ∨ cl874.slots.size ≤ ((1 : Int32)).toNatClampNeg) := inb_of S874 ⟨by decide, by decide⟩
          have hat874 : cl874.slots[((1 : Int32)).toNatClampNeg]? = some (.int p2) := H874 _ (by rw [S874]; decide)
          refine G1 (fun _ => X853.iaload hx (j := (1 : Int32)) (v := (.int p2)) (by exact Ar874.1) (State.isArrayOf_alike hZ.alike Ar874.2.1) Ar874.2.2 hin874 hat874 (g := (mkF m 147 #[.val (.int p0), .val (.int p1), .val (.int p2), .val (.int p3), .val (.int p4), .val (.int (4 : Int32)), .val (.int vn6), .val (.int vs7), .val (.ref b29), .val (.int vq9), .val (.int (8 : Int32)), .val (.int (((vn6 - (1 : Int32)) % (4 : Int32)) + (1 : Int32))), .val (.ref b795), .unset, .unset, .unset] [(.int (1 : Int32)), (.ref b29), (.ref b795)])) rfl rfl (hb hby at_147) _) ?_
          show Goes _ _ _ _ _ _ _ (T853.setTop (mkF m 148 _ [(.int p2), (.ref b795)]))
          refine G1 (fun _ => XS.iconst X853.here hx rfl (hb hby at_148)) ?_
          obtain ⟨_, _, ⟨T875, L875, k875, n875⟩, -, X875, ⟨Lc875, hQ875, l875, y875, z875⟩, st875⟩ := Jvm.LawKit.callS X853 hx (y := mN9) hown (mvT hZ w_52) (mvT hZ w_53) (mvT hZ w_15) (mvT hZ w_54) (by decide) (backOf (W := 2) (rm9 l Z a0 hw [] (1 : Int32) ca cc T853.heap n0 Z869 (S_high.ext XO854.2) (S_cache.ext XO854.2) BX XO854 (by decide) (by decide)) hZ w_54 w_15 (by decide) (by decide)) (g := (mkF m 149 #[.val (.int p0), .val (.int p1), .val (.int p2), .val (.int p3), .val (.int p4), .val (.int (4 : Int32)), .val (.int vn6), .val (.int vs7), .val (.ref b29), .val (.int vq9), .val (.int (8 : Int32)), .val (.int (((vn6 - (1 : Int32)) % (4 : Int32)) + (1 : Int32))), .val (.ref b795), .unset, .unset, .unset] [(.int (1 : Int32)), (.int p2), (.ref b795)])) rfl (by rw [hml]; rfl) (argsL := [(.int (1 : Int32))]) (rest := [(.int p2), (.ref b795)]) (lenOf pd_5 rfl) rfl (by show 2 * 0 + _ ≤ _; exact Nat.le_of_eq rfl) (hb hby at_149) (fun _ _ => ⟨rfl, rfl, (by decide : 5 + 0 ≤ _), (by decide : 33 + 0 ≤ _)⟩)
          dsimp only [Pt.U, Pt.locs, Pt.cells, Pt.slots] at X875 l875 y875 z875 st875 hQ875
          rw [l875, y875, z875] at X875
          obtain ⟨N875, KK875, r875, rfl, ex875⟩ := hQ875
          have NA875 := Fr.app NA853 N875
          have XO876 : Old Z n0 T875.heap := XO854.keep KK875 all0
          have f877 := f855.keep KK875
          have f878 := f856.keep KK875 nin0
          have f879 := pf853_0.keep KK875
          have f880 := f867.keep KK875
          have f881 := f868.keep KK875
          have f882 := pf853_1.keep KK875 nin0
          have f883 := pf853_2.keep KK875 nin0
          have f884 := pf853_3.keep KK875 nin0
          have f885 := pf853_4.keep KK875 nin0
          have f886 := pf853_5.keep KK875 nin0
          have f887 := pf853_6.keep KK875 nin0
          have f888 := pf853_7.keep KK875 nin0
          have f889 := pf853_8.keep KK875 nin0
          have f890 := pf853_9.keep KK875 nin0
          have K891 : Keep h0 T875.heap [] := K869.trans KK875 all0
          have Z891 : n0 ≤ T875.heap.size := Nat.le_trans Z869 KK875.1
          refine G1 st875 ?_
          show Goes _ _ _ _ _ _ _ (T875.setTop (mkF m 152 _ [(.ref r875), (.int p2), (.ref b795)]))
          refine G1 (fun _ => XS.bipush X875.here hx rfl (hb hby at_152)) ?_
          obtain ⟨_, _, ⟨T892, L892, k892, n892⟩, -, X892, ⟨Lc892, hQ892, l892, y892, z892⟩, st892⟩ := Jvm.LawKit.callS X875 hx (y := mN9) hown (mvT hZ w_52) (mvT hZ w_53) (mvT hZ w_15) (mvT hZ w_54) (by decide) (backOf (W := 3) (rm9 l Z a0 hw [] (11 : Int32) ca cc T875.heap n0 Z891 (S_high.ext XO876.2) (S_cache.ext XO876.2) BX XO876 (by decide) (by decide)) hZ w_54 w_15 (by decide) (by decide)) (g := (mkF m 154 #[.val (.int p0), .val (.int p1), .val (.int p2), .val (.int p3), .val (.int p4), .val (.int (4 : Int32)), .val (.int vn6), .val (.int vs7), .val (.ref b29), .val (.int vq9), .val (.int (8 : Int32)), .val (.int (((vn6 - (1 : Int32)) % (4 : Int32)) + (1 : Int32))), .val (.ref b795), .unset, .unset, .unset] [(.int (11 : Int32)), (.ref r875), (.int p2), (.ref b795)])) rfl (by rw [hml]; rfl) (argsL := [(.int (11 : Int32))]) (rest := [(.ref r875), (.int p2), (.ref b795)]) (lenOf pd_5 rfl) rfl (by show 2 * 0 + _ ≤ _; exact Nat.le_of_eq rfl) (hb hby at_154) (fun _ _ => ⟨rfl, rfl, (by decide : 5 + 0 ≤ _), (by decide : 33 + 0 ≤ _)⟩)
          dsimp only [Pt.U, Pt.locs, Pt.cells, Pt.slots] at X892 l892 y892 z892 st892 hQ892
          rw [l892, y892, z892] at X892
          obtain ⟨N892, KK892, r892, rfl, ex892⟩ := hQ892
          have NA892 := Fr.app NA875 N892
          have XO893 : Old Z n0 T892.heap := XO876.keep KK892 all0
          have f894 := f877.keep KK892
          have f895 := f878.keep KK892 nin0
          have f896 := f879.keep KK892
          have f897 := f880.keep KK892
          have f898 := f881.keep KK892
          have f899 := f882.keep KK892 nin0
          have f900 := f883.keep KK892 nin0
          have f901 := f884.keep KK892 nin0
          have f902 := f885.keep KK892 nin0
          have f903 := f886.keep KK892 nin0
          have f904 := f887.keep KK892 nin0
          have f905 := f888.keep KK892 nin0
          have f906 := f889.keep KK892 nin0
          have f907 := f890.keep KK892 nin0
          have f908 := ex875.keep KK892
          have K909 : Keep h0 T892.heap [] := K891.trans KK892 all0
          have Z909 : n0 ≤ T892.heap.size := Nat.le_trans Z891 KK892.1
          refine G1 st892 ?_
          show Goes _ _ _ _ _ _ _ (T892.setTop (mkF m 157 _ [(.ref r892), (.ref r875), (.int p2), (.ref b795)]))
          have rc910 : ArF Z T892.heap r801_0_0 kk801_0_0 (.object "java/lang/Object") 8 (fun j => rfv (own_K r820 r875 r875) ((own_put own_t0 f1.val 0) j)) := f905.congr (own_recast (own_cP own_c0 (by rfl)))
          have rc911 : ArF Z T892.heap r801_0_2 kk801_0_2 (.object "java/lang/Object") 8 (fun j => rfv (own_K r835 r892 r892) ((own_put own_t0 f1.val 0) j)) := f907.congr (own_recast (own_cP own_c0 (by rfl)))
          obtain ⟨cq912, kq912, q912a, q912b, q912c⟩ := isOf hZ rfl f896
          obtain ⟨_, _, ⟨T912, L912, k912, n912⟩, -, X912, ⟨Lc912, hQ912, l912, y912, z912⟩, st912⟩ := X892.virtualBack hx (y := mN10) (z := mN10) hown (mvT hZ w_58) (mvT hZ w_59) (notFace_of_selects (args := #[]) (mvT hZ w_61)) (mvT hZ w_61) (mvT hZ w_60) (by decide) (backOf (W := 0) (rm10_n l Z a0 hw [] b795 p2 r875 r892 r801_0_0 r801_0_1 r801_0_2 kk801_0_0 kk801_0_1 kk801_0_2 8 (own_put own_t0 f1.val 0) (own_hp (fun _ => (0 : Int32)) f1.val p1) (own_K r820 r875 r875) (own_K r835 r892 r892) (29 : Int32) (4 : Int32) (1 : Int32) 1 9 q2 T892.heap n0 Z909 f896 f899 f900 f901 f902 f903 f904 rc910 f906 rc911 oo801_0_0 oo801_0_1 (Ins.of_exa f908 w_65) (Ins.of_exa ex892 w_65) rfl rfl g_b795 g_r801_0_0 g_r801_0_1 g_r801_0_2 (Ne.symm ne814) (Ne.symm ne816) nn801_0_0 (Ne.symm ne818) nn801_0_1 nn801_0_2 (by decide) hN hS (by rw [← hf2]; exact pr2)) hZ w_62 w_3 (by decide) (by decide)) q912a q912c (g := (mkF m 157 #[.val (.int p0), .val (.int p1), .val (.int p2), .val (.int p3), .val (.int p4), .val (.int (4 : Int32)), .val (.int vn6), .val (.int vs7), .val (.ref b29), .val (.int vq9), .val (.int (8 : Int32)), .val (.int (((vn6 - (1 : Int32)) % (4 : Int32)) + (1 : Int32))), .val (.ref b795), .unset, .unset, .unset] [(.ref r892), (.ref r875), (.int p2), (.ref b795)])) rfl (by rw [hml]; rfl) (Steps.refl _) (argsL := [(.int p2), (.ref r875), (.ref r892)]) (rest := []) (lenOf pd_6 rfl) rfl (by show 2 * 0 + _ ≤ _; exact Nat.le_of_eq rfl) (hb hby at_157) (fun _ _ => ⟨rfl, rfl, (by decide : 5 + 0 ≤ _), (by decide : 33 + 0 ≤ _)⟩)
          dsimp only [Pt.U, Pt.locs, Pt.cells, Pt.slots] at X912 l912 y912 z912 st912 hQ912
          rw [l912, y912, z912] at X912
          obtain ⟨N912, KK912, rfl, pf912_0, pf912_1, pf912_2, pf912_3, pf912_4, pf912_5, pf912_6, pf912_7, pf912_8, pf912_9⟩ := hQ912
          have NA912 := Fr.app NA892 N912
          have XO913 : Old Z n0 T912.heap := XO893.keep KK912 (allS g_b795 (allS g_r801_0_0 (allS g_r801_0_1 (allS g_r801_0_2 all0))))
          have f914 := f894.keep KK912
          have f915 := f895.keep KK912 (ninS ne796 (ninS ne813 (ninS ne815 (ninS ne817 nin0))))
          have f916 := f896.keep KK912
          have f917 := f897.keep KK912
          have f918 := f898.keep KK912
          have f928 := f908.keep KK912
          have f929 := ex892.keep KK912
          have K930 : Keep h0 T912.heap [] := K909.trans KK912 (allS (Or.inr sz_b795) (allS (Or.inr sz_r801_0_0) (allS (Or.inr sz_r801_0_1) (allS (Or.inr sz_r801_0_2) all0))))
          have Z930 : n0 ≤ T912.heap.size := Nat.le_trans Z909 KK912.1
          refine G2 st912 ?_
          show Goes _ _ _ _ _ _ _ (T912.setTop (mkF m 160 _ [(.ref r892)]))
          refine G1 (fun _ => XS.pop X912.here hx rfl (hb hby at_160) rfl rfl) ?_
          show Goes _ _ _ _ _ _ _ (T912.setTop (mkF m 161 _ []))
          show Goes _ _ _ _ _ _ _ (T912.setTop (mkF m 161 #[.val (.int p0), .val (.int p1), .val (.int p2), .val (.int p3), .val (.int p4), .val (.int (4 : Int32)), .val (.int vn6), .val (.int vs7), .val (.ref b29), .val (.int vq9), .val (.int (8 : Int32)), .val (.int (((vn6 - (1 : Int32)) % (4 : Int32)) + (1 : Int32))), .val (.ref b795), .unset, .unset, .unset] []))
          rcases hnB with rfl | rfl
          · show Goes _ _ _ _ _ _ _ (T912.setTop (mkF m 161 #[.val (.int p0), .val (.int p1), .val (.int p2), .val (.int p3), .val (.int p4), .val (.int (4 : Int32)), .val (.int (2 : Int32)), .val (.int vs7), .val (.ref b29), .val (.int vq9), .val (.int (8 : Int32)), .val (.int (2 : Int32)), .val (.ref b795), .unset, .unset, .unset] []))
            refine G1 (fun _ => XS.iload X912.here hx rfl (hb hby at_161) rfl ) ?_
            refine G1 (fun _ => XS.iconst X912.here hx rfl (hb hby at_163)) ?_
            refine G1 (fun _ => XS.icmpYes X912.here hx rfl (pc0 := 164) (pc' := 186) rfl (hb hby at_164) rfl (tlt (by decide : (2 : Int32) < (3 : Int32))).1 (by decide) (by decide)) ?_
            show Goes _ _ _ _ _ _ _ (T912.setTop (mkF m 186 _ []))
            refine G1 (fun _ => XS.iconst X912.here hx rfl (hb hby at_186)) ?_
            refine G1 (fun _ => XS.istore X912.here hx rfl (hb hby at_187) rfl (l' := #[.val (.int p0), .val (.int p1), .val (.int p2), .val (.int p3), .val (.int p4), .val (.int (4 : Int32)), .val (.int (2 : Int32)), .val (.int vs7), .val (.ref b29), .val (.int vq9), .val (.int (8 : Int32)), .val (.int (2 : Int32)), .val (.ref b795), .val (.int (0 : Int32)), .unset, .unset]) rfl) ?_
            show Goes _ _ _ _ _ _ _ (T912.setTop (mkF m 189 _ []))
            show Goes _ _ _ _ _ _ _ (T912.setTop (mkF m 189 #[.val (.int p0), .val (.int p1), .val (.int p2), .val (.int p3), .val (.int p4), .val (.int (4 : Int32)), .val (.int (2 : Int32)), .val (.int vs7), .val (.ref b29), .val (.int vq9), .val (.int (8 : Int32)), .val (.int (2 : Int32)), .val (.ref b795), .val (.int (0 : Int32)), .unset, .unset] []))
            obtain ⟨qy, py, lw⟩ := own_satE (own_d8 f1 f2 f4 (decide (p1 = vq9)) (decide (p2 = vq9)) ee1 ee2)
            cases pr2.symm.trans py
            rw [Bool.and_eq_true] at lw
            obtain ⟨pp, hsk0, hpb0⟩ := own_satE lw.1
            have hpb : own_b ((own_put (own_put own_t0 f1.val 0) q2 1) pp) = own_i ((decide (p1 = vq9)) || (decide (p2 = vq9))) := own_beq hpb0
            have hcn : own_b ((own_put (own_put own_t0 f1.val 0) q2 1) ((0 : Int32)).toNatClampNeg) + own_b ((own_put (own_put own_t0 f1.val 0) q2 1) ((1 : Int32)).toNatClampNeg) + own_b ((own_put (own_put own_t0 f1.val 0) q2 1) ((2 : Int32)).toNatClampNeg) + own_b ((own_put (own_put own_t0 f1.val 0) q2 1) ((3 : Int32)).toNatClampNeg) + own_b ((own_put (own_put own_t0 f1.val 0) q2 1) ((4 : Int32)).toNatClampNeg) + own_b ((own_put (own_put own_t0 f1.val 0) q2 1) ((5 : Int32)).toNatClampNeg) + own_b ((own_put (own_put own_t0 f1.val 0) q2 1) ((6 : Int32)).toNatClampNeg) + own_b ((own_put (own_put own_t0 f1.val 0) q2 1) ((7 : Int32)).toNatClampNeg) = (2 : Int32) := own_beq lw.2
            have hsk : seekP (own_put (own_put own_t0 f1.val 0) q2 1) (fun j => decide (own_H p1 p2 p3 j = vq9)) 8 9 (own_f vq9 (29 : Int32)).toNatClampNeg = some pp := by rw [own_e3H, own_seekCongr (e' := own_e3 (decide (p1 = vq9)) (decide (p2 = vq9)) false) (own_cE (own_cE own_cE0 (by rfl)) (by rfl)), ← hf4]; exact hsk0
            have hH : ∀ p j, (own_put (own_put own_t0 f1.val 0) q2 1) p = some j → (own_hp (own_hp (fun _ => (0 : Int32)) f1.val p1) q2 p2) p = own_H p1 p2 p3 j := (own_hH (own_hH own_hH0 (by rfl)) (by rfl))
            have J252 : ∀ ex : Int32, own_i ((decide (p1 = vq9)) || (decide (p2 = vq9))) = ex → Goes p e below s room_1.cells room_1.slots (fun v h L => Q0 Z p0 p1 p2 p3 p4 ca cc h0 n0 v h L) (T912.setTop (mkF m 252 #[.val (.int p0), .val (.int p1), .val (.int p2), .val (.int p3), .val (.int p4), .val (.int (4 : Int32)), .val (.int (2 : Int32)), .val (.int vs7), .val (.ref b29), .val (.int vq9), .val (.int (8 : Int32)), .val (.int (2 : Int32)), .val (.ref b795), .val (.int ex), .unset, .unset] [])) := by
              intro ex hex
              refine G1 (fun _ => XS.aload X912.here hx rfl (hb hby at_252) rfl rfl) ?_
              refine G1 (fun _ => XS.aload X912.here hx rfl (hb hby at_254) rfl rfl) ?_
              refine G1 (fun _ => XS.iload X912.here hx rfl (hb hby at_256) rfl ) ?_
              obtain ⟨cq931, kq931, q931a, q931b, q931c⟩ := isOf hZ rfl pf912_0
              obtain ⟨_, _, ⟨T931, L931, k931, n931⟩, -, X931, ⟨Lc931, hQ931, l931, y931, z931⟩, st931⟩ := X912.virtualBack hx (y := mN8) (z := mN8) hown (mvT hZ w_33) (mvT hZ w_34) (notFace_of_selects (args := #[]) (mvT hZ w_36)) (mvT hZ w_36) (mvT hZ w_35) (by decide) (backOf (W := 1) (rm5 l Z a0 hw [] b795 vq9 r801_0_0 r801_0_1 r801_0_2 kk801_0_0 kk801_0_1 kk801_0_2 8 (own_put (own_put own_t0 f1.val 0) q2 1) (own_hp (own_hp (fun _ => (0 : Int32)) f1.val p1) q2 p2) (own_K r820 r875 r875) (own_K r835 r892 r892) (29 : Int32) (4 : Int32) (2 : Int32) (own_H p1 p2 p3) 9 pp T912.heap n0 Z930 pf912_0 pf912_1 pf912_2 pf912_3 pf912_4 pf912_5 pf912_6 pf912_7 pf912_8 pf912_9 hN hH hS hsk) hZ w_37 w_3 (by decide) (by decide)) q931a q931c (g := (mkF m 258 #[.val (.int p0), .val (.int p1), .val (.int p2), .val (.int p3), .val (.int p4), .val (.int (4 : Int32)), .val (.int (2 : Int32)), .val (.int vs7), .val (.ref b29), .val (.int vq9), .val (.int (8 : Int32)), .val (.int (2 : Int32)), .val (.ref b795), .val (.int ex), .unset, .unset] [(.int vq9), (.ref b795), (.ref b795)])) rfl (by rw [hml]; rfl) (Steps.refl _) (argsL := [(.int vq9)]) (rest := [(.ref b795)]) (lenOf pd_2 rfl) rfl (by show 2 * 0 + _ ≤ _; exact Nat.le_of_eq rfl) (hb hby at_258) (fun _ _ => ⟨rfl, rfl, (by decide : 5 + 0 ≤ _), (by decide : 33 + 0 ≤ _)⟩)
              dsimp only [Pt.U, Pt.locs, Pt.cells, Pt.slots] at X931 l931 y931 z931 st931 hQ931
              rw [l931, y931, z931] at X931
              obtain ⟨N931, eh931, r931, rfl, r1_931, r2_931, r3_931⟩ := hQ931
              have NA931 := Fr.app NA912 N931
              refine G2 st931 ?_
              show Goes _ _ _ _ _ _ _ (T931.setTop (mkF m 261 _ [(.int r931), (.ref b795)]))
              obtain ⟨cq932, kq932, q932a, q932b, q932c⟩ := isOf hZ eh931 pf912_0
              obtain ⟨_, _, ⟨T932, L932, k932, n932⟩, -, X932, ⟨Lc932, hQ932, l932, y932, z932⟩, st932⟩ := X931.virtualBack hx (y := mN6) (z := mN6) hown (mvT hZ w_47) (mvT hZ w_48) (notFace_of_selects (args := #[]) (mvT hZ w_50)) (mvT hZ w_50) (mvT hZ w_49) (by decide) (backOf (W := 0) (rm8 l Z a0 hw [] b795 r931 r801_0_0 r801_0_1 r801_0_2 kk801_0_0 kk801_0_1 kk801_0_2 8 (own_put (own_put own_t0 f1.val 0) q2 1) (own_hp (own_hp (fun _ => (0 : Int32)) f1.val p1) q2 p2) (own_K r820 r875 r875) (own_K r835 r892 r892) (29 : Int32) (4 : Int32) (2 : Int32) T912.heap n0 Z930 pf912_0 pf912_1 pf912_2 pf912_3 pf912_4 pf912_5 pf912_6 pf912_7 pf912_8 pf912_9 r1_931 r3_931) hZ w_51 w_3 (by decide) (by decide)) q932a q932c (g := (mkF m 261 #[.val (.int p0), .val (.int p1), .val (.int p2), .val (.int p3), .val (.int p4), .val (.int (4 : Int32)), .val (.int (2 : Int32)), .val (.int vs7), .val (.ref b29), .val (.int vq9), .val (.int (8 : Int32)), .val (.int (2 : Int32)), .val (.ref b795), .val (.int ex), .unset, .unset] [(.int r931), (.ref b795)])) rfl (by rw [hml]; rfl) (Steps.refl _) (argsL := [(.int r931)]) (rest := []) (lenOf pd_4 rfl) rfl (by show 2 * 0 + _ ≤ _; exact Nat.le_of_eq rfl) (hb hby at_261) (fun _ _ => ⟨rfl, eh931, (by decide : 5 + 0 ≤ _), (by decide : 33 + 0 ≤ _)⟩)
              dsimp only [Pt.U, Pt.locs, Pt.cells, Pt.slots] at X932 l932 y932 z932 st932 hQ932
              rw [l932, y932, z932] at X932
              obtain ⟨N932, eh932, hv932⟩ := hQ932
              have NA932 := Fr.app NA931 N932
              subst hv932
              refine G2 st932 ?_
              show Goes _ _ _ _ _ _ _ (T932.setTop (mkF m 264 _ [(.int (own_b ((own_put (own_put own_t0 f1.val 0) q2 1) (r931).toNatClampNeg)))]))
              refine G1 (fun _ => XS.istore X932.here hx rfl (hb hby at_264) rfl (l' := #[.val (.int p0), .val (.int p1), .val (.int p2), .val (.int p3), .val (.int p4), .val (.int (4 : Int32)), .val (.int (2 : Int32)), .val (.int vs7), .val (.ref b29), .val (.int vq9), .val (.int (8 : Int32)), .val (.int (2 : Int32)), .val (.ref b795), .val (.int ex), .val (.int (own_b ((own_put (own_put own_t0 f1.val 0) q2 1) (r931).toNatClampNeg))), .unset]) rfl) ?_
              show Goes _ _ _ _ _ _ _ (T932.setTop (mkF m 266 _ []))
              show Goes _ _ _ _ _ _ _ (T932.setTop (mkF m 266 #[.val (.int p0), .val (.int p1), .val (.int p2), .val (.int p3), .val (.int p4), .val (.int (4 : Int32)), .val (.int (2 : Int32)), .val (.int vs7), .val (.ref b29), .val (.int vq9), .val (.int (8 : Int32)), .val (.int (2 : Int32)), .val (.ref b795), .val (.int ex), .val (.int (own_b ((own_put (own_put own_t0 f1.val 0) q2 1) (r931).toNatClampNeg))), .unset] []))
              have hfx : (own_b ((own_put (own_put own_t0 f1.val 0) q2 1) (r931).toNatClampNeg)) = ex := by rw [r2_931]; exact hpb.trans hex
              rw [hfx]
              exact J266_8 _ _ _ _ _ ex _ _ r801_0_0 r801_0_1 r801_0_2 kk801_0_0 kk801_0_1 kk801_0_2 (own_put (own_put own_t0 f1.val 0) q2 1) (own_hp (own_hp (fun _ => (0 : Int32)) f1.val p1) q2 p2) (own_K r820 r875 r875) (own_K r835 r892 r892) (2 : Int32) T912.heap _ _ X932 eh932 NA932 Z930 pf912_0 pf912_1 pf912_2 pf912_3 pf912_4 pf912_5 pf912_6 pf912_7 pf912_8 pf912_9 hcn
            show Goes _ _ _ _ _ _ _ (T912.setTop (mkF m 189 #[.val (.int p0), .val (.int p1), .val (.int p2), .val (.int p3), .val (.int p4), .val (.int (4 : Int32)), .val (.int (2 : Int32)), .val (.int vs7), .val (.ref b29), .val (.int vq9), .val (.int (8 : Int32)), .val (.int (2 : Int32)), .val (.ref b795), .val (.int (0 : Int32)), .unset, .unset] []))
            refine G1 (fun _ => XS.iload X912.here hx rfl (hb hby at_189) rfl ) ?_
            refine G1 (fun _ => XS.iconst X912.here hx rfl (hb hby at_191)) ?_
            refine G1 (fun _ => XS.icmpNo X912.here hx rfl (hb hby at_192) rfl (flt (by decide : ¬ ((2 : Int32) < (1 : Int32)))).1) ?_
            show Goes _ _ _ _ _ _ _ (T912.setTop (mkF m 195 _ []))
            refine G1 (fun _ => XS.aload X912.here hx rfl (hb hby at_195) rfl rfl) ?_
            refine G1 (fun _ => XS.iload X912.here hx rfl (hb hby at_197) rfl ) ?_
            refine G1 (fun _ => XS.iconst X912.here hx rfl (hb hby at_199)) ?_
            refine G1 (fun _ => XS.isub X912.here hx rfl (hb hby at_200) rfl) ?_
            show Goes _ _ _ _ _ _ _ (T912.setTop (mkF m 201 _ [(.int (1 : Int32)), (.ref b29)]))
            obtain ⟨cl933, Ar933, q933, S933, P933, H933, G933⟩ := id f915
            have hin933 : ¬ ((1 : Int32) < 0 ∨ cl933.slots.size ≤ ((1 : Int32)).toNatClampNeg) := inb_of S933 ⟨by decide, by decide⟩
            have hat933 : cl933.slots[((1 : Int32)).toNatClampNeg]? = some (.int p2) := H933 _ (by rw [S933]; decide)
            refine G1 (fun _ => X912.iaload hx (j := (1 : Int32)) (v := (.int p2)) (by exact Ar933.1) (State.isArrayOf_alike hZ.alike Ar933.2.1) Ar933.2.2 hin933 hat933 (g := (mkF m 201 #[.val (.int p0), .val (.int p1), .val (.int p2), .val (.int p3), .val (.int p4), .val (.int (4 : Int32)), .val (.int (2 : Int32)), .val (.int vs7), .val (.ref b29), .val (.int vq9), .val (.int (8 : Int32)), .val (.int (2 : Int32)), .val (.ref b795), .val (.int (0 : Int32)), .unset, .unset] [(.int (1 : Int32)), (.ref b29)])) rfl rfl (hb hby at_201) _) ?_
            show Goes _ _ _ _ _ _ _ (T912.setTop (mkF m 202 _ [(.int p2)]))
            refine G1 (fun _ => XS.iload X912.here hx rfl (hb hby at_202) rfl ) ?_
            by_cases c204_934 : p2 = vq9
            · refine G1 (fun _ => XS.icmpNo X912.here hx rfl (hb hby at_204) rfl (teq c204_934).2) ?_
              show Goes _ _ _ _ _ _ _ (T912.setTop (mkF m 207 _ []))
              refine G1 (fun _ => XS.iconst X912.here hx rfl (hb hby at_207)) ?_
              refine G1 (fun _ => XS.istore X912.here hx rfl (hb hby at_208) rfl (l' := #[.val (.int p0), .val (.int p1), .val (.int p2), .val (.int p3), .val (.int p4), .val (.int (4 : Int32)), .val (.int (2 : Int32)), .val (.int vs7), .val (.ref b29), .val (.int vq9), .val (.int (8 : Int32)), .val (.int (2 : Int32)), .val (.ref b795), .val (.int (1 : Int32)), .unset, .unset]) rfl) ?_
              show Goes _ _ _ _ _ _ _ (T912.setTop (mkF m 210 _ []))
              refine G1 (fun _ => XS.iload X912.here hx rfl (hb hby at_210) rfl ) ?_
              refine G1 (fun _ => XS.iconst X912.here hx rfl (hb hby at_212)) ?_
              refine G1 (fun _ => XS.icmpNo X912.here hx rfl (hb hby at_213) rfl (flt (by decide : ¬ ((2 : Int32) < (2 : Int32)))).1) ?_
              show Goes _ _ _ _ _ _ _ (T912.setTop (mkF m 216 _ []))
              refine G1 (fun _ => XS.aload X912.here hx rfl (hb hby at_216) rfl rfl) ?_
              refine G1 (fun _ => XS.iload X912.here hx rfl (hb hby at_218) rfl ) ?_
              refine G1 (fun _ => XS.iconst X912.here hx rfl (hb hby at_220)) ?_
              refine G1 (fun _ => XS.isub X912.here hx rfl (hb hby at_221) rfl) ?_
              show Goes _ _ _ _ _ _ _ (T912.setTop (mkF m 222 _ [(.int (0 : Int32)), (.ref b29)]))
              obtain ⟨cl935, Ar935, q935, S935, P935, H935, G935⟩ := id f915
              have hin935 : ¬ ((0 : Int32) < 0 ∨ cl935.slots.size ≤ ((0 : Int32)).toNatClampNeg) := inb_of S935 ⟨by decide, by decide⟩
              have hat935 : cl935.slots[((0 : Int32)).toNatClampNeg]? = some (.int p1) := H935 _ (by rw [S935]; decide)
              refine G1 (fun _ => X912.iaload hx (j := (0 : Int32)) (v := (.int p1)) (by exact Ar935.1) (State.isArrayOf_alike hZ.alike Ar935.2.1) Ar935.2.2 hin935 hat935 (g := (mkF m 222 #[.val (.int p0), .val (.int p1), .val (.int p2), .val (.int p3), .val (.int p4), .val (.int (4 : Int32)), .val (.int (2 : Int32)), .val (.int vs7), .val (.ref b29), .val (.int vq9), .val (.int (8 : Int32)), .val (.int (2 : Int32)), .val (.ref b795), .val (.int (1 : Int32)), .unset, .unset] [(.int (0 : Int32)), (.ref b29)])) rfl rfl (hb hby at_222) _) ?_
              show Goes _ _ _ _ _ _ _ (T912.setTop (mkF m 223 _ [(.int p1)]))
              refine G1 (fun _ => XS.iload X912.here hx rfl (hb hby at_223) rfl ) ?_
              by_cases c225_936 : p1 = vq9
              · refine G1 (fun _ => XS.icmpNo X912.here hx rfl (hb hby at_225) rfl (teq c225_936).2) ?_
                show Goes _ _ _ _ _ _ _ (T912.setTop (mkF m 228 _ []))
                refine G1 (fun _ => XS.iconst X912.here hx rfl (hb hby at_228)) ?_
                refine G1 (fun _ => XS.istore X912.here hx rfl (hb hby at_229) rfl (l' := #[.val (.int p0), .val (.int p1), .val (.int p2), .val (.int p3), .val (.int p4), .val (.int (4 : Int32)), .val (.int (2 : Int32)), .val (.int vs7), .val (.ref b29), .val (.int vq9), .val (.int (8 : Int32)), .val (.int (2 : Int32)), .val (.ref b795), .val (.int (1 : Int32)), .unset, .unset]) rfl) ?_
                show Goes _ _ _ _ _ _ _ (T912.setTop (mkF m 231 _ []))
                refine G1 (fun _ => XS.iload X912.here hx rfl (hb hby at_231) rfl ) ?_
                refine G1 (fun _ => XS.iconst X912.here hx rfl (hb hby at_233)) ?_
                refine G1 (fun _ => XS.icmpYes X912.here hx rfl (pc0 := 234) (pc' := 252) rfl (hb hby at_234) rfl (tlt (by decide : (2 : Int32) < (3 : Int32))).1 (by decide) (by decide)) ?_
                show Goes _ _ _ _ _ _ _ (T912.setTop (mkF m 252 _ []))
                show Goes _ _ _ _ _ _ _ (T912.setTop (mkF m 252 #[.val (.int p0), .val (.int p1), .val (.int p2), .val (.int p3), .val (.int p4), .val (.int (4 : Int32)), .val (.int (2 : Int32)), .val (.int vs7), .val (.ref b29), .val (.int vq9), .val (.int (8 : Int32)), .val (.int (2 : Int32)), .val (.ref b795), .val (.int (1 : Int32)), .unset, .unset] []))
                exact J252 _ (by simp only [decide_eq_true c204_934, decide_eq_true c225_936]; rfl)
              · refine G1 (fun _ => XS.icmpYes X912.here hx rfl (pc0 := 225) (pc' := 231) rfl (hb hby at_225) rfl (feq c225_936).2 (by decide) (by decide)) ?_
                show Goes _ _ _ _ _ _ _ (T912.setTop (mkF m 231 _ []))
                refine G1 (fun _ => XS.iload X912.here hx rfl (hb hby at_231) rfl ) ?_
                refine G1 (fun _ => XS.iconst X912.here hx rfl (hb hby at_233)) ?_
                refine G1 (fun _ => XS.icmpYes X912.here hx rfl (pc0 := 234) (pc' := 252) rfl (hb hby at_234) rfl (tlt (by decide : (2 : Int32) < (3 : Int32))).1 (by decide) (by decide)) ?_
                show Goes _ _ _ _ _ _ _ (T912.setTop (mkF m 252 _ []))
                show Goes _ _ _ _ _ _ _ (T912.setTop (mkF m 252 #[.val (.int p0), .val (.int p1), .val (.int p2), .val (.int p3), .val (.int p4), .val (.int (4 : Int32)), .val (.int (2 : Int32)), .val (.int vs7), .val (.ref b29), .val (.int vq9), .val (.int (8 : Int32)), .val (.int (2 : Int32)), .val (.ref b795), .val (.int (1 : Int32)), .unset, .unset] []))
                exact J252 _ (by simp only [decide_eq_true c204_934, decide_eq_false c225_936]; rfl)
            · refine G1 (fun _ => XS.icmpYes X912.here hx rfl (pc0 := 204) (pc' := 210) rfl (hb hby at_204) rfl (feq c204_934).2 (by decide) (by decide)) ?_
              show Goes _ _ _ _ _ _ _ (T912.setTop (mkF m 210 _ []))
              refine G1 (fun _ => XS.iload X912.here hx rfl (hb hby at_210) rfl ) ?_
              refine G1 (fun _ => XS.iconst X912.here hx rfl (hb hby at_212)) ?_
              refine G1 (fun _ => XS.icmpNo X912.here hx rfl (hb hby at_213) rfl (flt (by decide : ¬ ((2 : Int32) < (2 : Int32)))).1) ?_
              show Goes _ _ _ _ _ _ _ (T912.setTop (mkF m 216 _ []))
              refine G1 (fun _ => XS.aload X912.here hx rfl (hb hby at_216) rfl rfl) ?_
              refine G1 (fun _ => XS.iload X912.here hx rfl (hb hby at_218) rfl ) ?_
              refine G1 (fun _ => XS.iconst X912.here hx rfl (hb hby at_220)) ?_
              refine G1 (fun _ => XS.isub X912.here hx rfl (hb hby at_221) rfl) ?_
              show Goes _ _ _ _ _ _ _ (T912.setTop (mkF m 222 _ [(.int (0 : Int32)), (.ref b29)]))
              obtain ⟨cl937, Ar937, q937, S937, P937, H937, G937⟩ := id f915
              have hin937 : ¬ ((0 : Int32) < 0 ∨ cl937.slots.size ≤ ((0 : Int32)).toNatClampNeg) := inb_of S937 ⟨by decide, by decide⟩
              have hat937 : cl937.slots[((0 : Int32)).toNatClampNeg]? = some (.int p1) := H937 _ (by rw [S937]; decide)
              refine G1 (fun _ => X912.iaload hx (j := (0 : Int32)) (v := (.int p1)) (by exact Ar937.1) (State.isArrayOf_alike hZ.alike Ar937.2.1) Ar937.2.2 hin937 hat937 (g := (mkF m 222 #[.val (.int p0), .val (.int p1), .val (.int p2), .val (.int p3), .val (.int p4), .val (.int (4 : Int32)), .val (.int (2 : Int32)), .val (.int vs7), .val (.ref b29), .val (.int vq9), .val (.int (8 : Int32)), .val (.int (2 : Int32)), .val (.ref b795), .val (.int (0 : Int32)), .unset, .unset] [(.int (0 : Int32)), (.ref b29)])) rfl rfl (hb hby at_222) _) ?_
              show Goes _ _ _ _ _ _ _ (T912.setTop (mkF m 223 _ [(.int p1)]))
              refine G1 (fun _ => XS.iload X912.here hx rfl (hb hby at_223) rfl ) ?_
              by_cases c225_938 : p1 = vq9
              · refine G1 (fun _ => XS.icmpNo X912.here hx rfl (hb hby at_225) rfl (teq c225_938).2) ?_
                show Goes _ _ _ _ _ _ _ (T912.setTop (mkF m 228 _ []))
                refine G1 (fun _ => XS.iconst X912.here hx rfl (hb hby at_228)) ?_
                refine G1 (fun _ => XS.istore X912.here hx rfl (hb hby at_229) rfl (l' := #[.val (.int p0), .val (.int p1), .val (.int p2), .val (.int p3), .val (.int p4), .val (.int (4 : Int32)), .val (.int (2 : Int32)), .val (.int vs7), .val (.ref b29), .val (.int vq9), .val (.int (8 : Int32)), .val (.int (2 : Int32)), .val (.ref b795), .val (.int (1 : Int32)), .unset, .unset]) rfl) ?_
                show Goes _ _ _ _ _ _ _ (T912.setTop (mkF m 231 _ []))
                refine G1 (fun _ => XS.iload X912.here hx rfl (hb hby at_231) rfl ) ?_
                refine G1 (fun _ => XS.iconst X912.here hx rfl (hb hby at_233)) ?_
                refine G1 (fun _ => XS.icmpYes X912.here hx rfl (pc0 := 234) (pc' := 252) rfl (hb hby at_234) rfl (tlt (by decide : (2 : Int32) < (3 : Int32))).1 (by decide) (by decide)) ?_
                show Goes _ _ _ _ _ _ _ (T912.setTop (mkF m 252 _ []))
                show Goes _ _ _ _ _ _ _ (T912.setTop (mkF m 252 #[.val (.int p0), .val (.int p1), .val (.int p2), .val (.int p3), .val (.int p4), .val (.int (4 : Int32)), .val (.int (2 : Int32)), .val (.int vs7), .val (.ref b29), .val (.int vq9), .val (.int (8 : Int32)), .val (.int (2 : Int32)), .val (.ref b795), .val (.int (1 : Int32)), .unset, .unset] []))
                exact J252 _ (by simp only [decide_eq_false c204_934, decide_eq_true c225_938]; rfl)
              · refine G1 (fun _ => XS.icmpYes X912.here hx rfl (pc0 := 225) (pc' := 231) rfl (hb hby at_225) rfl (feq c225_938).2 (by decide) (by decide)) ?_
                show Goes _ _ _ _ _ _ _ (T912.setTop (mkF m 231 _ []))
                refine G1 (fun _ => XS.iload X912.here hx rfl (hb hby at_231) rfl ) ?_
                refine G1 (fun _ => XS.iconst X912.here hx rfl (hb hby at_233)) ?_
                refine G1 (fun _ => XS.icmpYes X912.here hx rfl (pc0 := 234) (pc' := 252) rfl (hb hby at_234) rfl (tlt (by decide : (2 : Int32) < (3 : Int32))).1 (by decide) (by decide)) ?_
                show Goes _ _ _ _ _ _ _ (T912.setTop (mkF m 252 _ []))
                show Goes _ _ _ _ _ _ _ (T912.setTop (mkF m 252 #[.val (.int p0), .val (.int p1), .val (.int p2), .val (.int p3), .val (.int p4), .val (.int (4 : Int32)), .val (.int (2 : Int32)), .val (.int vs7), .val (.ref b29), .val (.int vq9), .val (.int (8 : Int32)), .val (.int (2 : Int32)), .val (.ref b795), .val (.int (0 : Int32)), .unset, .unset] []))
                exact J252 _ (by simp only [decide_eq_false c204_934, decide_eq_false c225_938]; rfl)
          · obtain ⟨qx, px, rx⟩ := own_satE (own_t8 f1 f2 f3 f1 false false false nofun nofun nofun)
            cases pr2.symm.trans px
            obtain ⟨q3, pr3, -⟩ := own_satE rx
            show Goes _ _ _ _ _ _ _ (T912.setTop (mkF m 161 #[.val (.int p0), .val (.int p1), .val (.int p2), .val (.int p3), .val (.int p4), .val (.int (4 : Int32)), .val (.int (3 : Int32)), .val (.int vs7), .val (.ref b29), .val (.int vq9), .val (.int (8 : Int32)), .val (.int (3 : Int32)), .val (.ref b795), .unset, .unset, .unset] []))
            refine G1 (fun _ => XS.iload X912.here hx rfl (hb hby at_161) rfl ) ?_
            refine G1 (fun _ => XS.iconst X912.here hx rfl (hb hby at_163)) ?_
            refine G1 (fun _ => XS.icmpNo X912.here hx rfl (hb hby at_164) rfl (flt (by decide : ¬ ((3 : Int32) < (3 : Int32)))).1) ?_
            show Goes _ _ _ _ _ _ _ (T912.setTop (mkF m 167 _ []))
            refine G1 (fun _ => XS.aload X912.here hx rfl (hb hby at_167) rfl rfl) ?_
            refine G1 (fun _ => XS.aload X912.here hx rfl (hb hby at_169) rfl rfl) ?_
            refine G1 (fun _ => XS.iconst X912.here hx rfl (hb hby at_171)) ?_
            obtain ⟨cl939, Ar939, q939, S939, P939, H939, G939⟩ := id f915
            have hin939 : ¬ ((2 : Int32) < 0 ∨ cl939.slots.size ≤ ((2 : Int32)).toNatClampNeg) := inb_of S939 ⟨by decide, by decide⟩
            have hat939 : cl939.slots[((2 : Int32)).toNatClampNeg]? = some (.int p3) := H939 _ (by rw [S939]; decide)
            refine G1 (fun _ => X912.iaload hx (j := (2 : Int32)) (v := (.int p3)) (by exact Ar939.1) (State.isArrayOf_alike hZ.alike Ar939.2.1) Ar939.2.2 hin939 hat939 (g := (mkF m 172 #[.val (.int p0), .val (.int p1), .val (.int p2), .val (.int p3), .val (.int p4), .val (.int (4 : Int32)), .val (.int (3 : Int32)), .val (.int vs7), .val (.ref b29), .val (.int vq9), .val (.int (8 : Int32)), .val (.int (3 : Int32)), .val (.ref b795), .unset, .unset, .unset] [(.int (2 : Int32)), (.ref b29), (.ref b795)])) rfl rfl (hb hby at_172) _) ?_
            show Goes _ _ _ _ _ _ _ (T912.setTop (mkF m 173 _ [(.int p3), (.ref b795)]))
            refine G1 (fun _ => XS.iconst X912.here hx rfl (hb hby at_173)) ?_
            obtain ⟨_, _, ⟨T940, L940, k940, n940⟩, -, X940, ⟨Lc940, hQ940, l940, y940, z940⟩, st940⟩ := Jvm.LawKit.callS X912 hx (y := mN9) hown (mvT hZ w_52) (mvT hZ w_53) (mvT hZ w_15) (mvT hZ w_54) (by decide) (backOf (W := 2) (rm9 l Z a0 hw [] (2 : Int32) ca cc T912.heap n0 Z930 (S_high.ext XO913.2) (S_cache.ext XO913.2) BX XO913 (by decide) (by decide)) hZ w_54 w_15 (by decide) (by decide)) (g := (mkF m 174 #[.val (.int p0), .val (.int p1), .val (.int p2), .val (.int p3), .val (.int p4), .val (.int (4 : Int32)), .val (.int (3 : Int32)), .val (.int vs7), .val (.ref b29), .val (.int vq9), .val (.int (8 : Int32)), .val (.int (3 : Int32)), .val (.ref b795), .unset, .unset, .unset] [(.int (2 : Int32)), (.int p3), (.ref b795)])) rfl (by rw [hml]; rfl) (argsL := [(.int (2 : Int32))]) (rest := [(.int p3), (.ref b795)]) (lenOf pd_5 rfl) rfl (by show 2 * 0 + _ ≤ _; exact Nat.le_of_eq rfl) (hb hby at_174) (fun _ _ => ⟨rfl, rfl, (by decide : 5 + 0 ≤ _), (by decide : 33 + 0 ≤ _)⟩)
            dsimp only [Pt.U, Pt.locs, Pt.cells, Pt.slots] at X940 l940 y940 z940 st940 hQ940
            rw [l940, y940, z940] at X940
            obtain ⟨N940, KK940, r940, rfl, ex940⟩ := hQ940
            have NA940 := Fr.app NA912 N940
            have XO941 : Old Z n0 T940.heap := XO913.keep KK940 all0
            have f942 := f914.keep KK940
            have f943 := f915.keep KK940 nin0
            have f944 := pf912_0.keep KK940
            have f945 := f917.keep KK940
            have f946 := f918.keep KK940
            have f947 := f928.keep KK940
            have f948 := f929.keep KK940
            have f949 := pf912_1.keep KK940 nin0
            have f950 := pf912_2.keep KK940 nin0
            have f951 := pf912_3.keep KK940 nin0
            have f952 := pf912_4.keep KK940 nin0
            have f953 := pf912_5.keep KK940 nin0
            have f954 := pf912_6.keep KK940 nin0
            have f955 := pf912_7.keep KK940 nin0
            have f956 := pf912_8.keep KK940 nin0
            have f957 := pf912_9.keep KK940 nin0
            have K958 : Keep h0 T940.heap [] := K930.trans KK940 all0
            have Z958 : n0 ≤ T940.heap.size := Nat.le_trans Z930 KK940.1
            refine G1 st940 ?_
            show Goes _ _ _ _ _ _ _ (T940.setTop (mkF m 177 _ [(.ref r940), (.int p3), (.ref b795)]))
            refine G1 (fun _ => XS.bipush X940.here hx rfl (hb hby at_177)) ?_
            obtain ⟨_, _, ⟨T959, L959, k959, n959⟩, -, X959, ⟨Lc959, hQ959, l959, y959, z959⟩, st959⟩ := Jvm.LawKit.callS X940 hx (y := mN9) hown (mvT hZ w_52) (mvT hZ w_53) (mvT hZ w_15) (mvT hZ w_54) (by decide) (backOf (W := 3) (rm9 l Z a0 hw [] (12 : Int32) ca cc T940.heap n0 Z958 (S_high.ext XO941.2) (S_cache.ext XO941.2) BX XO941 (by decide) (by decide)) hZ w_54 w_15 (by decide) (by decide)) (g := (mkF m 179 #[.val (.int p0), .val (.int p1), .val (.int p2), .val (.int p3), .val (.int p4), .val (.int (4 : Int32)), .val (.int (3 : Int32)), .val (.int vs7), .val (.ref b29), .val (.int vq9), .val (.int (8 : Int32)), .val (.int (3 : Int32)), .val (.ref b795), .unset, .unset, .unset] [(.int (12 : Int32)), (.ref r940), (.int p3), (.ref b795)])) rfl (by rw [hml]; rfl) (argsL := [(.int (12 : Int32))]) (rest := [(.ref r940), (.int p3), (.ref b795)]) (lenOf pd_5 rfl) rfl (by show 2 * 0 + _ ≤ _; exact Nat.le_of_eq rfl) (hb hby at_179) (fun _ _ => ⟨rfl, rfl, (by decide : 5 + 0 ≤ _), (by decide : 33 + 0 ≤ _)⟩)
            dsimp only [Pt.U, Pt.locs, Pt.cells, Pt.slots] at X959 l959 y959 z959 st959 hQ959
            rw [l959, y959, z959] at X959
            obtain ⟨N959, KK959, r959, rfl, ex959⟩ := hQ959
            have NA959 := Fr.app NA940 N959
            have XO960 : Old Z n0 T959.heap := XO941.keep KK959 all0
            have f961 := f942.keep KK959
            have f962 := f943.keep KK959 nin0
            have f963 := f944.keep KK959
            have f964 := f945.keep KK959
            have f965 := f946.keep KK959
            have f966 := f947.keep KK959
            have f967 := f948.keep KK959
            have f968 := f949.keep KK959 nin0
            have f969 := f950.keep KK959 nin0
            have f970 := f951.keep KK959 nin0
            have f971 := f952.keep KK959 nin0
            have f972 := f953.keep KK959 nin0
            have f973 := f954.keep KK959 nin0
            have f974 := f955.keep KK959 nin0
            have f975 := f956.keep KK959 nin0
            have f976 := f957.keep KK959 nin0
            have f977 := ex940.keep KK959
            have K978 : Keep h0 T959.heap [] := K958.trans KK959 all0
            have Z978 : n0 ≤ T959.heap.size := Nat.le_trans Z958 KK959.1
            refine G1 st959 ?_
            show Goes _ _ _ _ _ _ _ (T959.setTop (mkF m 182 _ [(.ref r959), (.ref r940), (.int p3), (.ref b795)]))
            have rc979 : ArF Z T959.heap r801_0_0 kk801_0_0 (.object "java/lang/Object") 8 (fun j => rfv (own_K r820 r875 r940) ((own_put (own_put own_t0 f1.val 0) q2 1) j)) := f974.congr (own_recast (own_cP (own_cP own_c0 (by rfl)) (by rfl)))
            have rc980 : ArF Z T959.heap r801_0_2 kk801_0_2 (.object "java/lang/Object") 8 (fun j => rfv (own_K r835 r892 r959) ((own_put (own_put own_t0 f1.val 0) q2 1) j)) := f976.congr (own_recast (own_cP (own_cP own_c0 (by rfl)) (by rfl)))
            obtain ⟨cq981, kq981, q981a, q981b, q981c⟩ := isOf hZ rfl f963
            obtain ⟨_, _, ⟨T981, L981, k981, n981⟩, -, X981, ⟨Lc981, hQ981, l981, y981, z981⟩, st981⟩ := X959.virtualBack hx (y := mN10) (z := mN10) hown (mvT hZ w_58) (mvT hZ w_59) (notFace_of_selects (args := #[]) (mvT hZ w_61)) (mvT hZ w_61) (mvT hZ w_60) (by decide) (backOf (W := 0) (rm10_n l Z a0 hw [] b795 p3 r940 r959 r801_0_0 r801_0_1 r801_0_2 kk801_0_0 kk801_0_1 kk801_0_2 8 (own_put (own_put own_t0 f1.val 0) q2 1) (own_hp (own_hp (fun _ => (0 : Int32)) f1.val p1) q2 p2) (own_K r820 r875 r940) (own_K r835 r892 r959) (29 : Int32) (4 : Int32) (2 : Int32) 2 9 q3 T959.heap n0 Z978 f963 f968 f969 f970 f971 f972 f973 rc979 f975 rc980 oo801_0_0 oo801_0_1 (Ins.of_exa f977 w_65) (Ins.of_exa ex959 w_65) rfl rfl g_b795 g_r801_0_0 g_r801_0_1 g_r801_0_2 (Ne.symm ne814) (Ne.symm ne816) nn801_0_0 (Ne.symm ne818) nn801_0_1 nn801_0_2 (by decide) hN hS (by rw [← hf3]; exact pr3)) hZ w_62 w_3 (by decide) (by decide)) q981a q981c (g := (mkF m 182 #[.val (.int p0), .val (.int p1), .val (.int p2), .val (.int p3), .val (.int p4), .val (.int (4 : Int32)), .val (.int (3 : Int32)), .val (.int vs7), .val (.ref b29), .val (.int vq9), .val (.int (8 : Int32)), .val (.int (3 : Int32)), .val (.ref b795), .unset, .unset, .unset] [(.ref r959), (.ref r940), (.int p3), (.ref b795)])) rfl (by rw [hml]; rfl) (Steps.refl _) (argsL := [(.int p3), (.ref r940), (.ref r959)]) (rest := []) (lenOf pd_6 rfl) rfl (by show 2 * 0 + _ ≤ _; exact Nat.le_of_eq rfl) (hb hby at_182) (fun _ _ => ⟨rfl, rfl, (by decide : 5 + 0 ≤ _), (by decide : 33 + 0 ≤ _)⟩)
            dsimp only [Pt.U, Pt.locs, Pt.cells, Pt.slots] at X981 l981 y981 z981 st981 hQ981
            rw [l981, y981, z981] at X981
            obtain ⟨N981, KK981, rfl, pf981_0, pf981_1, pf981_2, pf981_3, pf981_4, pf981_5, pf981_6, pf981_7, pf981_8, pf981_9⟩ := hQ981
            have NA981 := Fr.app NA959 N981
            have XO982 : Old Z n0 T981.heap := XO960.keep KK981 (allS g_b795 (allS g_r801_0_0 (allS g_r801_0_1 (allS g_r801_0_2 all0))))
            have f983 := f961.keep KK981
            have f984 := f962.keep KK981 (ninS ne796 (ninS ne813 (ninS ne815 (ninS ne817 nin0))))
            have f985 := f963.keep KK981
            have f986 := f964.keep KK981
            have f987 := f965.keep KK981
            have f988 := f966.keep KK981
            have f989 := f967.keep KK981
            have f999 := f977.keep KK981
            have f1000 := ex959.keep KK981
            have K1001 : Keep h0 T981.heap [] := K978.trans KK981 (allS (Or.inr sz_b795) (allS (Or.inr sz_r801_0_0) (allS (Or.inr sz_r801_0_1) (allS (Or.inr sz_r801_0_2) all0))))
            have Z1001 : n0 ≤ T981.heap.size := Nat.le_trans Z978 KK981.1
            refine G2 st981 ?_
            show Goes _ _ _ _ _ _ _ (T981.setTop (mkF m 185 _ [(.ref r959)]))
            refine G1 (fun _ => XS.pop X981.here hx rfl (hb hby at_185) rfl rfl) ?_
            show Goes _ _ _ _ _ _ _ (T981.setTop (mkF m 186 _ []))
            refine G1 (fun _ => XS.iconst X981.here hx rfl (hb hby at_186)) ?_
            refine G1 (fun _ => XS.istore X981.here hx rfl (hb hby at_187) rfl (l' := #[.val (.int p0), .val (.int p1), .val (.int p2), .val (.int p3), .val (.int p4), .val (.int (4 : Int32)), .val (.int (3 : Int32)), .val (.int vs7), .val (.ref b29), .val (.int vq9), .val (.int (8 : Int32)), .val (.int (3 : Int32)), .val (.ref b795), .val (.int (0 : Int32)), .unset, .unset]) rfl) ?_
            show Goes _ _ _ _ _ _ _ (T981.setTop (mkF m 189 _ []))
            show Goes _ _ _ _ _ _ _ (T981.setTop (mkF m 189 #[.val (.int p0), .val (.int p1), .val (.int p2), .val (.int p3), .val (.int p4), .val (.int (4 : Int32)), .val (.int (3 : Int32)), .val (.int vs7), .val (.ref b29), .val (.int vq9), .val (.int (8 : Int32)), .val (.int (3 : Int32)), .val (.ref b795), .val (.int (0 : Int32)), .unset, .unset] []))
            obtain ⟨qy, py, lw0⟩ := own_satE (own_t8 f1 f2 f3 f4 (decide (p1 = vq9)) (decide (p2 = vq9)) (decide (p3 = vq9)) ee1 ee2 ee3)
            cases pr2.symm.trans py
            obtain ⟨qz, pz, lw⟩ := own_satE lw0
            cases pr3.symm.trans pz
            rw [Bool.and_eq_true] at lw
            obtain ⟨pp, hsk0, hpb0⟩ := own_satE lw.1
            have hpb : own_b ((own_put (own_put (own_put own_t0 f1.val 0) q2 1) q3 2) pp) = own_i ((decide (p1 = vq9)) || (decide (p2 = vq9)) || (decide (p3 = vq9))) := own_beq hpb0
            have hcn : own_b ((own_put (own_put (own_put own_t0 f1.val 0) q2 1) q3 2) ((0 : Int32)).toNatClampNeg) + own_b ((own_put (own_put (own_put own_t0 f1.val 0) q2 1) q3 2) ((1 : Int32)).toNatClampNeg) + own_b ((own_put (own_put (own_put own_t0 f1.val 0) q2 1) q3 2) ((2 : Int32)).toNatClampNeg) + own_b ((own_put (own_put (own_put own_t0 f1.val 0) q2 1) q3 2) ((3 : Int32)).toNatClampNeg) + own_b ((own_put (own_put (own_put own_t0 f1.val 0) q2 1) q3 2) ((4 : Int32)).toNatClampNeg) + own_b ((own_put (own_put (own_put own_t0 f1.val 0) q2 1) q3 2) ((5 : Int32)).toNatClampNeg) + own_b ((own_put (own_put (own_put own_t0 f1.val 0) q2 1) q3 2) ((6 : Int32)).toNatClampNeg) + own_b ((own_put (own_put (own_put own_t0 f1.val 0) q2 1) q3 2) ((7 : Int32)).toNatClampNeg) = (3 : Int32) := own_beq lw.2
            have hsk : seekP (own_put (own_put (own_put own_t0 f1.val 0) q2 1) q3 2) (fun j => decide (own_H p1 p2 p3 j = vq9)) 8 9 (own_f vq9 (29 : Int32)).toNatClampNeg = some pp := by rw [own_e3H, ← hf4]; exact hsk0
            have hH : ∀ p j, (own_put (own_put (own_put own_t0 f1.val 0) q2 1) q3 2) p = some j → (own_hp (own_hp (own_hp (fun _ => (0 : Int32)) f1.val p1) q2 p2) q3 p3) p = own_H p1 p2 p3 j := (own_hH (own_hH (own_hH own_hH0 (by rfl)) (by rfl)) (by rfl))
            have J252 : ∀ ex : Int32, own_i ((decide (p1 = vq9)) || (decide (p2 = vq9)) || (decide (p3 = vq9))) = ex → Goes p e below s room_1.cells room_1.slots (fun v h L => Q0 Z p0 p1 p2 p3 p4 ca cc h0 n0 v h L) (T981.setTop (mkF m 252 #[.val (.int p0), .val (.int p1), .val (.int p2), .val (.int p3), .val (.int p4), .val (.int (4 : Int32)), .val (.int (3 : Int32)), .val (.int vs7), .val (.ref b29), .val (.int vq9), .val (.int (8 : Int32)), .val (.int (3 : Int32)), .val (.ref b795), .val (.int ex), .unset, .unset] [])) := by
              intro ex hex
              refine G1 (fun _ => XS.aload X981.here hx rfl (hb hby at_252) rfl rfl) ?_
              refine G1 (fun _ => XS.aload X981.here hx rfl (hb hby at_254) rfl rfl) ?_
              refine G1 (fun _ => XS.iload X981.here hx rfl (hb hby at_256) rfl ) ?_
              obtain ⟨cq1002, kq1002, q1002a, q1002b, q1002c⟩ := isOf hZ rfl pf981_0
              obtain ⟨_, _, ⟨T1002, L1002, k1002, n1002⟩, -, X1002, ⟨Lc1002, hQ1002, l1002, y1002, z1002⟩, st1002⟩ := X981.virtualBack hx (y := mN8) (z := mN8) hown (mvT hZ w_33) (mvT hZ w_34) (notFace_of_selects (args := #[]) (mvT hZ w_36)) (mvT hZ w_36) (mvT hZ w_35) (by decide) (backOf (W := 1) (rm5 l Z a0 hw [] b795 vq9 r801_0_0 r801_0_1 r801_0_2 kk801_0_0 kk801_0_1 kk801_0_2 8 (own_put (own_put (own_put own_t0 f1.val 0) q2 1) q3 2) (own_hp (own_hp (own_hp (fun _ => (0 : Int32)) f1.val p1) q2 p2) q3 p3) (own_K r820 r875 r940) (own_K r835 r892 r959) (29 : Int32) (4 : Int32) (3 : Int32) (own_H p1 p2 p3) 9 pp T981.heap n0 Z1001 pf981_0 pf981_1 pf981_2 pf981_3 pf981_4 pf981_5 pf981_6 pf981_7 pf981_8 pf981_9 hN hH hS hsk) hZ w_37 w_3 (by decide) (by decide)) q1002a q1002c (g := (mkF m 258 #[.val (.int p0), .val (.int p1), .val (.int p2), .val (.int p3), .val (.int p4), .val (.int (4 : Int32)), .val (.int (3 : Int32)), .val (.int vs7), .val (.ref b29), .val (.int vq9), .val (.int (8 : Int32)), .val (.int (3 : Int32)), .val (.ref b795), .val (.int ex), .unset, .unset] [(.int vq9), (.ref b795), (.ref b795)])) rfl (by rw [hml]; rfl) (Steps.refl _) (argsL := [(.int vq9)]) (rest := [(.ref b795)]) (lenOf pd_2 rfl) rfl (by show 2 * 0 + _ ≤ _; exact Nat.le_of_eq rfl) (hb hby at_258) (fun _ _ => ⟨rfl, rfl, (by decide : 5 + 0 ≤ _), (by decide : 33 + 0 ≤ _)⟩)
              dsimp only [Pt.U, Pt.locs, Pt.cells, Pt.slots] at X1002 l1002 y1002 z1002 st1002 hQ1002
              rw [l1002, y1002, z1002] at X1002
              obtain ⟨N1002, eh1002, r1002, rfl, r1_1002, r2_1002, r3_1002⟩ := hQ1002
              have NA1002 := Fr.app NA981 N1002
              refine G2 st1002 ?_
              show Goes _ _ _ _ _ _ _ (T1002.setTop (mkF m 261 _ [(.int r1002), (.ref b795)]))
              obtain ⟨cq1003, kq1003, q1003a, q1003b, q1003c⟩ := isOf hZ eh1002 pf981_0
              obtain ⟨_, _, ⟨T1003, L1003, k1003, n1003⟩, -, X1003, ⟨Lc1003, hQ1003, l1003, y1003, z1003⟩, st1003⟩ := X1002.virtualBack hx (y := mN6) (z := mN6) hown (mvT hZ w_47) (mvT hZ w_48) (notFace_of_selects (args := #[]) (mvT hZ w_50)) (mvT hZ w_50) (mvT hZ w_49) (by decide) (backOf (W := 0) (rm8 l Z a0 hw [] b795 r1002 r801_0_0 r801_0_1 r801_0_2 kk801_0_0 kk801_0_1 kk801_0_2 8 (own_put (own_put (own_put own_t0 f1.val 0) q2 1) q3 2) (own_hp (own_hp (own_hp (fun _ => (0 : Int32)) f1.val p1) q2 p2) q3 p3) (own_K r820 r875 r940) (own_K r835 r892 r959) (29 : Int32) (4 : Int32) (3 : Int32) T981.heap n0 Z1001 pf981_0 pf981_1 pf981_2 pf981_3 pf981_4 pf981_5 pf981_6 pf981_7 pf981_8 pf981_9 r1_1002 r3_1002) hZ w_51 w_3 (by decide) (by decide)) q1003a q1003c (g := (mkF m 261 #[.val (.int p0), .val (.int p1), .val (.int p2), .val (.int p3), .val (.int p4), .val (.int (4 : Int32)), .val (.int (3 : Int32)), .val (.int vs7), .val (.ref b29), .val (.int vq9), .val (.int (8 : Int32)), .val (.int (3 : Int32)), .val (.ref b795), .val (.int ex), .unset, .unset] [(.int r1002), (.ref b795)])) rfl (by rw [hml]; rfl) (Steps.refl _) (argsL := [(.int r1002)]) (rest := []) (lenOf pd_4 rfl) rfl (by show 2 * 0 + _ ≤ _; exact Nat.le_of_eq rfl) (hb hby at_261) (fun _ _ => ⟨rfl, eh1002, (by decide : 5 + 0 ≤ _), (by decide : 33 + 0 ≤ _)⟩)
              dsimp only [Pt.U, Pt.locs, Pt.cells, Pt.slots] at X1003 l1003 y1003 z1003 st1003 hQ1003
              rw [l1003, y1003, z1003] at X1003
              obtain ⟨N1003, eh1003, hv1003⟩ := hQ1003
              have NA1003 := Fr.app NA1002 N1003
              subst hv1003
              refine G2 st1003 ?_
              show Goes _ _ _ _ _ _ _ (T1003.setTop (mkF m 264 _ [(.int (own_b ((own_put (own_put (own_put own_t0 f1.val 0) q2 1) q3 2) (r1002).toNatClampNeg)))]))
              refine G1 (fun _ => XS.istore X1003.here hx rfl (hb hby at_264) rfl (l' := #[.val (.int p0), .val (.int p1), .val (.int p2), .val (.int p3), .val (.int p4), .val (.int (4 : Int32)), .val (.int (3 : Int32)), .val (.int vs7), .val (.ref b29), .val (.int vq9), .val (.int (8 : Int32)), .val (.int (3 : Int32)), .val (.ref b795), .val (.int ex), .val (.int (own_b ((own_put (own_put (own_put own_t0 f1.val 0) q2 1) q3 2) (r1002).toNatClampNeg))), .unset]) rfl) ?_
              show Goes _ _ _ _ _ _ _ (T1003.setTop (mkF m 266 _ []))
              show Goes _ _ _ _ _ _ _ (T1003.setTop (mkF m 266 #[.val (.int p0), .val (.int p1), .val (.int p2), .val (.int p3), .val (.int p4), .val (.int (4 : Int32)), .val (.int (3 : Int32)), .val (.int vs7), .val (.ref b29), .val (.int vq9), .val (.int (8 : Int32)), .val (.int (3 : Int32)), .val (.ref b795), .val (.int ex), .val (.int (own_b ((own_put (own_put (own_put own_t0 f1.val 0) q2 1) q3 2) (r1002).toNatClampNeg))), .unset] []))
              have hfx : (own_b ((own_put (own_put (own_put own_t0 f1.val 0) q2 1) q3 2) (r1002).toNatClampNeg)) = ex := by rw [r2_1002]; exact hpb.trans hex
              rw [hfx]
              exact J266_8 _ _ _ _ _ ex _ _ r801_0_0 r801_0_1 r801_0_2 kk801_0_0 kk801_0_1 kk801_0_2 (own_put (own_put (own_put own_t0 f1.val 0) q2 1) q3 2) (own_hp (own_hp (own_hp (fun _ => (0 : Int32)) f1.val p1) q2 p2) q3 p3) (own_K r820 r875 r940) (own_K r835 r892 r959) (3 : Int32) T981.heap _ _ X1003 eh1003 NA1003 Z1001 pf981_0 pf981_1 pf981_2 pf981_3 pf981_4 pf981_5 pf981_6 pf981_7 pf981_8 pf981_9 hcn
            show Goes _ _ _ _ _ _ _ (T981.setTop (mkF m 189 #[.val (.int p0), .val (.int p1), .val (.int p2), .val (.int p3), .val (.int p4), .val (.int (4 : Int32)), .val (.int (3 : Int32)), .val (.int vs7), .val (.ref b29), .val (.int vq9), .val (.int (8 : Int32)), .val (.int (3 : Int32)), .val (.ref b795), .val (.int (0 : Int32)), .unset, .unset] []))
            refine G1 (fun _ => XS.iload X981.here hx rfl (hb hby at_189) rfl ) ?_
            refine G1 (fun _ => XS.iconst X981.here hx rfl (hb hby at_191)) ?_
            refine G1 (fun _ => XS.icmpNo X981.here hx rfl (hb hby at_192) rfl (flt (by decide : ¬ ((3 : Int32) < (1 : Int32)))).1) ?_
            show Goes _ _ _ _ _ _ _ (T981.setTop (mkF m 195 _ []))
            refine G1 (fun _ => XS.aload X981.here hx rfl (hb hby at_195) rfl rfl) ?_
            refine G1 (fun _ => XS.iload X981.here hx rfl (hb hby at_197) rfl ) ?_
            refine G1 (fun _ => XS.iconst X981.here hx rfl (hb hby at_199)) ?_
            refine G1 (fun _ => XS.isub X981.here hx rfl (hb hby at_200) rfl) ?_
            show Goes _ _ _ _ _ _ _ (T981.setTop (mkF m 201 _ [(.int (2 : Int32)), (.ref b29)]))
            obtain ⟨cl1004, Ar1004, q1004, S1004, P1004, H1004, G1004⟩ := id f984
            have hin1004 : ¬ ((2 : Int32) < 0 ∨ cl1004.slots.size ≤ ((2 : Int32)).toNatClampNeg) := inb_of S1004 ⟨by decide, by decide⟩
            have hat1004 : cl1004.slots[((2 : Int32)).toNatClampNeg]? = some (.int p3) := H1004 _ (by rw [S1004]; decide)
            refine G1 (fun _ => X981.iaload hx (j := (2 : Int32)) (v := (.int p3)) (by exact Ar1004.1) (State.isArrayOf_alike hZ.alike Ar1004.2.1) Ar1004.2.2 hin1004 hat1004 (g := (mkF m 201 #[.val (.int p0), .val (.int p1), .val (.int p2), .val (.int p3), .val (.int p4), .val (.int (4 : Int32)), .val (.int (3 : Int32)), .val (.int vs7), .val (.ref b29), .val (.int vq9), .val (.int (8 : Int32)), .val (.int (3 : Int32)), .val (.ref b795), .val (.int (0 : Int32)), .unset, .unset] [(.int (2 : Int32)), (.ref b29)])) rfl rfl (hb hby at_201) _) ?_
            show Goes _ _ _ _ _ _ _ (T981.setTop (mkF m 202 _ [(.int p3)]))
            refine G1 (fun _ => XS.iload X981.here hx rfl (hb hby at_202) rfl ) ?_
            by_cases c204_1005 : p3 = vq9
            · refine G1 (fun _ => XS.icmpNo X981.here hx rfl (hb hby at_204) rfl (teq c204_1005).2) ?_
              show Goes _ _ _ _ _ _ _ (T981.setTop (mkF m 207 _ []))
              refine G1 (fun _ => XS.iconst X981.here hx rfl (hb hby at_207)) ?_
              refine G1 (fun _ => XS.istore X981.here hx rfl (hb hby at_208) rfl (l' := #[.val (.int p0), .val (.int p1), .val (.int p2), .val (.int p3), .val (.int p4), .val (.int (4 : Int32)), .val (.int (3 : Int32)), .val (.int vs7), .val (.ref b29), .val (.int vq9), .val (.int (8 : Int32)), .val (.int (3 : Int32)), .val (.ref b795), .val (.int (1 : Int32)), .unset, .unset]) rfl) ?_
              show Goes _ _ _ _ _ _ _ (T981.setTop (mkF m 210 _ []))
              refine G1 (fun _ => XS.iload X981.here hx rfl (hb hby at_210) rfl ) ?_
              refine G1 (fun _ => XS.iconst X981.here hx rfl (hb hby at_212)) ?_
              refine G1 (fun _ => XS.icmpNo X981.here hx rfl (hb hby at_213) rfl (flt (by decide : ¬ ((3 : Int32) < (2 : Int32)))).1) ?_
              show Goes _ _ _ _ _ _ _ (T981.setTop (mkF m 216 _ []))
              refine G1 (fun _ => XS.aload X981.here hx rfl (hb hby at_216) rfl rfl) ?_
              refine G1 (fun _ => XS.iload X981.here hx rfl (hb hby at_218) rfl ) ?_
              refine G1 (fun _ => XS.iconst X981.here hx rfl (hb hby at_220)) ?_
              refine G1 (fun _ => XS.isub X981.here hx rfl (hb hby at_221) rfl) ?_
              show Goes _ _ _ _ _ _ _ (T981.setTop (mkF m 222 _ [(.int (1 : Int32)), (.ref b29)]))
              obtain ⟨cl1006, Ar1006, q1006, S1006, P1006, H1006, G1006⟩ := id f984
              have hin1006 : ¬ ((1 : Int32) < 0 ∨ cl1006.slots.size ≤ ((1 : Int32)).toNatClampNeg) := inb_of S1006 ⟨by decide, by decide⟩
              have hat1006 : cl1006.slots[((1 : Int32)).toNatClampNeg]? = some (.int p2) := H1006 _ (by rw [S1006]; decide)
              refine G1 (fun _ => X981.iaload hx (j := (1 : Int32)) (v := (.int p2)) (by exact Ar1006.1) (State.isArrayOf_alike hZ.alike Ar1006.2.1) Ar1006.2.2 hin1006 hat1006 (g := (mkF m 222 #[.val (.int p0), .val (.int p1), .val (.int p2), .val (.int p3), .val (.int p4), .val (.int (4 : Int32)), .val (.int (3 : Int32)), .val (.int vs7), .val (.ref b29), .val (.int vq9), .val (.int (8 : Int32)), .val (.int (3 : Int32)), .val (.ref b795), .val (.int (1 : Int32)), .unset, .unset] [(.int (1 : Int32)), (.ref b29)])) rfl rfl (hb hby at_222) _) ?_
              show Goes _ _ _ _ _ _ _ (T981.setTop (mkF m 223 _ [(.int p2)]))
              refine G1 (fun _ => XS.iload X981.here hx rfl (hb hby at_223) rfl ) ?_
              by_cases c225_1007 : p2 = vq9
              · refine G1 (fun _ => XS.icmpNo X981.here hx rfl (hb hby at_225) rfl (teq c225_1007).2) ?_
                show Goes _ _ _ _ _ _ _ (T981.setTop (mkF m 228 _ []))
                refine G1 (fun _ => XS.iconst X981.here hx rfl (hb hby at_228)) ?_
                refine G1 (fun _ => XS.istore X981.here hx rfl (hb hby at_229) rfl (l' := #[.val (.int p0), .val (.int p1), .val (.int p2), .val (.int p3), .val (.int p4), .val (.int (4 : Int32)), .val (.int (3 : Int32)), .val (.int vs7), .val (.ref b29), .val (.int vq9), .val (.int (8 : Int32)), .val (.int (3 : Int32)), .val (.ref b795), .val (.int (1 : Int32)), .unset, .unset]) rfl) ?_
                show Goes _ _ _ _ _ _ _ (T981.setTop (mkF m 231 _ []))
                refine G1 (fun _ => XS.iload X981.here hx rfl (hb hby at_231) rfl ) ?_
                refine G1 (fun _ => XS.iconst X981.here hx rfl (hb hby at_233)) ?_
                refine G1 (fun _ => XS.icmpNo X981.here hx rfl (hb hby at_234) rfl (flt (by decide : ¬ ((3 : Int32) < (3 : Int32)))).1) ?_
                show Goes _ _ _ _ _ _ _ (T981.setTop (mkF m 237 _ []))
                refine G1 (fun _ => XS.aload X981.here hx rfl (hb hby at_237) rfl rfl) ?_
                refine G1 (fun _ => XS.iload X981.here hx rfl (hb hby at_239) rfl ) ?_
                refine G1 (fun _ => XS.iconst X981.here hx rfl (hb hby at_241)) ?_
                refine G1 (fun _ => XS.isub X981.here hx rfl (hb hby at_242) rfl) ?_
                show Goes _ _ _ _ _ _ _ (T981.setTop (mkF m 243 _ [(.int (0 : Int32)), (.ref b29)]))
                obtain ⟨cl1008, Ar1008, q1008, S1008, P1008, H1008, G1008⟩ := id f984
                have hin1008 : ¬ ((0 : Int32) < 0 ∨ cl1008.slots.size ≤ ((0 : Int32)).toNatClampNeg) := inb_of S1008 ⟨by decide, by decide⟩
                have hat1008 : cl1008.slots[((0 : Int32)).toNatClampNeg]? = some (.int p1) := H1008 _ (by rw [S1008]; decide)
                refine G1 (fun _ => X981.iaload hx (j := (0 : Int32)) (v := (.int p1)) (by exact Ar1008.1) (State.isArrayOf_alike hZ.alike Ar1008.2.1) Ar1008.2.2 hin1008 hat1008 (g := (mkF m 243 #[.val (.int p0), .val (.int p1), .val (.int p2), .val (.int p3), .val (.int p4), .val (.int (4 : Int32)), .val (.int (3 : Int32)), .val (.int vs7), .val (.ref b29), .val (.int vq9), .val (.int (8 : Int32)), .val (.int (3 : Int32)), .val (.ref b795), .val (.int (1 : Int32)), .unset, .unset] [(.int (0 : Int32)), (.ref b29)])) rfl rfl (hb hby at_243) _) ?_
                show Goes _ _ _ _ _ _ _ (T981.setTop (mkF m 244 #[.val (.int p0), .val (.int p1), .val (.int p2), .val (.int p3), .val (.int p4), .val (.int (4 : Int32)), .val (.int (3 : Int32)), .val (.int vs7), .val (.ref b29), .val (.int vq9), .val (.int (8 : Int32)), .val (.int (3 : Int32)), .val (.ref b795), .val (.int (1 : Int32)), .unset, .unset] [(.int p1)]))
                refine G1 (fun _ => XS.iload X981.here hx rfl (hb hby at_244) rfl ) ?_
                by_cases c246_1009 : p1 = vq9
                · refine G1 (fun _ => XS.icmpNo X981.here hx rfl (hb hby at_246) rfl (teq c246_1009).2) ?_
                  show Goes _ _ _ _ _ _ _ (T981.setTop (mkF m 249 _ []))
                  refine G1 (fun _ => XS.iconst X981.here hx rfl (hb hby at_249)) ?_
                  refine G1 (fun _ => XS.istore X981.here hx rfl (hb hby at_250) rfl (l' := #[.val (.int p0), .val (.int p1), .val (.int p2), .val (.int p3), .val (.int p4), .val (.int (4 : Int32)), .val (.int (3 : Int32)), .val (.int vs7), .val (.ref b29), .val (.int vq9), .val (.int (8 : Int32)), .val (.int (3 : Int32)), .val (.ref b795), .val (.int (1 : Int32)), .unset, .unset]) rfl) ?_
                  show Goes _ _ _ _ _ _ _ (T981.setTop (mkF m 252 _ []))
                  show Goes _ _ _ _ _ _ _ (T981.setTop (mkF m 252 #[.val (.int p0), .val (.int p1), .val (.int p2), .val (.int p3), .val (.int p4), .val (.int (4 : Int32)), .val (.int (3 : Int32)), .val (.int vs7), .val (.ref b29), .val (.int vq9), .val (.int (8 : Int32)), .val (.int (3 : Int32)), .val (.ref b795), .val (.int (1 : Int32)), .unset, .unset] []))
                  exact J252 _ (by simp only [decide_eq_true c204_1005, decide_eq_true c225_1007, decide_eq_true c246_1009]; rfl)
                · refine G1 (fun _ => XS.icmpYes X981.here hx rfl (pc0 := 246) (pc' := 252) rfl (hb hby at_246) rfl (feq c246_1009).2 (by decide) (by decide)) ?_
                  show Goes _ _ _ _ _ _ _ (T981.setTop (mkF m 252 _ []))
                  show Goes _ _ _ _ _ _ _ (T981.setTop (mkF m 252 #[.val (.int p0), .val (.int p1), .val (.int p2), .val (.int p3), .val (.int p4), .val (.int (4 : Int32)), .val (.int (3 : Int32)), .val (.int vs7), .val (.ref b29), .val (.int vq9), .val (.int (8 : Int32)), .val (.int (3 : Int32)), .val (.ref b795), .val (.int (1 : Int32)), .unset, .unset] []))
                  exact J252 _ (by simp only [decide_eq_true c204_1005, decide_eq_true c225_1007, decide_eq_false c246_1009]; rfl)
              · refine G1 (fun _ => XS.icmpYes X981.here hx rfl (pc0 := 225) (pc' := 231) rfl (hb hby at_225) rfl (feq c225_1007).2 (by decide) (by decide)) ?_
                show Goes _ _ _ _ _ _ _ (T981.setTop (mkF m 231 _ []))
                refine G1 (fun _ => XS.iload X981.here hx rfl (hb hby at_231) rfl ) ?_
                refine G1 (fun _ => XS.iconst X981.here hx rfl (hb hby at_233)) ?_
                refine G1 (fun _ => XS.icmpNo X981.here hx rfl (hb hby at_234) rfl (flt (by decide : ¬ ((3 : Int32) < (3 : Int32)))).1) ?_
                show Goes _ _ _ _ _ _ _ (T981.setTop (mkF m 237 _ []))
                refine G1 (fun _ => XS.aload X981.here hx rfl (hb hby at_237) rfl rfl) ?_
                refine G1 (fun _ => XS.iload X981.here hx rfl (hb hby at_239) rfl ) ?_
                refine G1 (fun _ => XS.iconst X981.here hx rfl (hb hby at_241)) ?_
                refine G1 (fun _ => XS.isub X981.here hx rfl (hb hby at_242) rfl) ?_
                show Goes _ _ _ _ _ _ _ (T981.setTop (mkF m 243 _ [(.int (0 : Int32)), (.ref b29)]))
                obtain ⟨cl1010, Ar1010, q1010, S1010, P1010, H1010, G1010⟩ := id f984
                have hin1010 : ¬ ((0 : Int32) < 0 ∨ cl1010.slots.size ≤ ((0 : Int32)).toNatClampNeg) := inb_of S1010 ⟨by decide, by decide⟩
                have hat1010 : cl1010.slots[((0 : Int32)).toNatClampNeg]? = some (.int p1) := H1010 _ (by rw [S1010]; decide)
                refine G1 (fun _ => X981.iaload hx (j := (0 : Int32)) (v := (.int p1)) (by exact Ar1010.1) (State.isArrayOf_alike hZ.alike Ar1010.2.1) Ar1010.2.2 hin1010 hat1010 (g := (mkF m 243 #[.val (.int p0), .val (.int p1), .val (.int p2), .val (.int p3), .val (.int p4), .val (.int (4 : Int32)), .val (.int (3 : Int32)), .val (.int vs7), .val (.ref b29), .val (.int vq9), .val (.int (8 : Int32)), .val (.int (3 : Int32)), .val (.ref b795), .val (.int (1 : Int32)), .unset, .unset] [(.int (0 : Int32)), (.ref b29)])) rfl rfl (hb hby at_243) _) ?_
                show Goes _ _ _ _ _ _ _ (T981.setTop (mkF m 244 _ [(.int p1)]))
                refine G1 (fun _ => XS.iload X981.here hx rfl (hb hby at_244) rfl ) ?_
                by_cases c246_1011 : p1 = vq9
                · refine G1 (fun _ => XS.icmpNo X981.here hx rfl (hb hby at_246) rfl (teq c246_1011).2) ?_
                  show Goes _ _ _ _ _ _ _ (T981.setTop (mkF m 249 #[.val (.int p0), .val (.int p1), .val (.int p2), .val (.int p3), .val (.int p4), .val (.int (4 : Int32)), .val (.int (3 : Int32)), .val (.int vs7), .val (.ref b29), .val (.int vq9), .val (.int (8 : Int32)), .val (.int (3 : Int32)), .val (.ref b795), .val (.int (1 : Int32)), .unset, .unset] []))
                  refine G1 (fun _ => XS.iconst X981.here hx rfl (hb hby at_249)) ?_
                  refine G1 (fun _ => XS.istore X981.here hx rfl (hb hby at_250) rfl (l' := #[.val (.int p0), .val (.int p1), .val (.int p2), .val (.int p3), .val (.int p4), .val (.int (4 : Int32)), .val (.int (3 : Int32)), .val (.int vs7), .val (.ref b29), .val (.int vq9), .val (.int (8 : Int32)), .val (.int (3 : Int32)), .val (.ref b795), .val (.int (1 : Int32)), .unset, .unset]) rfl) ?_
                  show Goes _ _ _ _ _ _ _ (T981.setTop (mkF m 252 _ []))
                  show Goes _ _ _ _ _ _ _ (T981.setTop (mkF m 252 #[.val (.int p0), .val (.int p1), .val (.int p2), .val (.int p3), .val (.int p4), .val (.int (4 : Int32)), .val (.int (3 : Int32)), .val (.int vs7), .val (.ref b29), .val (.int vq9), .val (.int (8 : Int32)), .val (.int (3 : Int32)), .val (.ref b795), .val (.int (1 : Int32)), .unset, .unset] []))
                  exact J252 _ (by simp only [decide_eq_true c204_1005, decide_eq_false c225_1007, decide_eq_true c246_1011]; rfl)
                · refine G1 (fun _ => XS.icmpYes X981.here hx rfl (pc0 := 246) (pc' := 252) rfl (hb hby at_246) rfl (feq c246_1011).2 (by decide) (by decide)) ?_
                  show Goes _ _ _ _ _ _ _ (T981.setTop (mkF m 252 #[.val (.int p0), .val (.int p1), .val (.int p2), .val (.int p3), .val (.int p4), .val (.int (4 : Int32)), .val (.int (3 : Int32)), .val (.int vs7), .val (.ref b29), .val (.int vq9), .val (.int (8 : Int32)), .val (.int (3 : Int32)), .val (.ref b795), .val (.int (1 : Int32)), .unset, .unset] []))
                  exact J252 _ (by simp only [decide_eq_true c204_1005, decide_eq_false c225_1007, decide_eq_false c246_1011]; rfl)
            · refine G1 (fun _ => XS.icmpYes X981.here hx rfl (pc0 := 204) (pc' := 210) rfl (hb hby at_204) rfl (feq c204_1005).2 (by decide) (by decide)) ?_
              show Goes _ _ _ _ _ _ _ (T981.setTop (mkF m 210 _ []))
              refine G1 (fun _ => XS.iload X981.here hx rfl (hb hby at_210) rfl ) ?_
              refine G1 (fun _ => XS.iconst X981.here hx rfl (hb hby at_212)) ?_
              refine G1 (fun _ => XS.icmpNo X981.here hx rfl (hb hby at_213) rfl (flt (by decide : ¬ ((3 : Int32) < (2 : Int32)))).1) ?_
              show Goes _ _ _ _ _ _ _ (T981.setTop (mkF m 216 _ []))
              refine G1 (fun _ => XS.aload X981.here hx rfl (hb hby at_216) rfl rfl) ?_
              refine G1 (fun _ => XS.iload X981.here hx rfl (hb hby at_218) rfl ) ?_
              refine G1 (fun _ => XS.iconst X981.here hx rfl (hb hby at_220)) ?_
              refine G1 (fun _ => XS.isub X981.here hx rfl (hb hby at_221) rfl) ?_
              show Goes _ _ _ _ _ _ _ (T981.setTop (mkF m 222 _ [(.int (1 : Int32)), (.ref b29)]))
              obtain ⟨cl1012, Ar1012, q1012, S1012, P1012, H1012, G1012⟩ := id f984
              have hin1012 : ¬ ((1 : Int32) < 0 ∨ cl1012.slots.size ≤ ((1 : Int32)).toNatClampNeg) := inb_of S1012 ⟨by decide, by decide⟩
              have hat1012 : cl1012.slots[((1 : Int32)).toNatClampNeg]? = some (.int p2) := H1012 _ (by rw [S1012]; decide)
              refine G1 (fun _ => X981.iaload hx (j := (1 : Int32)) (v := (.int p2)) (by exact Ar1012.1) (State.isArrayOf_alike hZ.alike Ar1012.2.1) Ar1012.2.2 hin1012 hat1012 (g := (mkF m 222 #[.val (.int p0), .val (.int p1), .val (.int p2), .val (.int p3), .val (.int p4), .val (.int (4 : Int32)), .val (.int (3 : Int32)), .val (.int vs7), .val (.ref b29), .val (.int vq9), .val (.int (8 : Int32)), .val (.int (3 : Int32)), .val (.ref b795), .val (.int (0 : Int32)), .unset, .unset] [(.int (1 : Int32)), (.ref b29)])) rfl rfl (hb hby at_222) _) ?_
              show Goes _ _ _ _ _ _ _ (T981.setTop (mkF m 223 _ [(.int p2)]))
              refine G1 (fun _ => XS.iload X981.here hx rfl (hb hby at_223) rfl ) ?_
              by_cases c225_1013 : p2 = vq9
              · refine G1 (fun _ => XS.icmpNo X981.here hx rfl (hb hby at_225) rfl (teq c225_1013).2) ?_
                show Goes _ _ _ _ _ _ _ (T981.setTop (mkF m 228 _ []))
                refine G1 (fun _ => XS.iconst X981.here hx rfl (hb hby at_228)) ?_
                refine G1 (fun _ => XS.istore X981.here hx rfl (hb hby at_229) rfl (l' := #[.val (.int p0), .val (.int p1), .val (.int p2), .val (.int p3), .val (.int p4), .val (.int (4 : Int32)), .val (.int (3 : Int32)), .val (.int vs7), .val (.ref b29), .val (.int vq9), .val (.int (8 : Int32)), .val (.int (3 : Int32)), .val (.ref b795), .val (.int (1 : Int32)), .unset, .unset]) rfl) ?_
                show Goes _ _ _ _ _ _ _ (T981.setTop (mkF m 231 _ []))
                refine G1 (fun _ => XS.iload X981.here hx rfl (hb hby at_231) rfl ) ?_
                refine G1 (fun _ => XS.iconst X981.here hx rfl (hb hby at_233)) ?_
                refine G1 (fun _ => XS.icmpNo X981.here hx rfl (hb hby at_234) rfl (flt (by decide : ¬ ((3 : Int32) < (3 : Int32)))).1) ?_
                show Goes _ _ _ _ _ _ _ (T981.setTop (mkF m 237 _ []))
                refine G1 (fun _ => XS.aload X981.here hx rfl (hb hby at_237) rfl rfl) ?_
                refine G1 (fun _ => XS.iload X981.here hx rfl (hb hby at_239) rfl ) ?_
                refine G1 (fun _ => XS.iconst X981.here hx rfl (hb hby at_241)) ?_
                refine G1 (fun _ => XS.isub X981.here hx rfl (hb hby at_242) rfl) ?_
                show Goes _ _ _ _ _ _ _ (T981.setTop (mkF m 243 _ [(.int (0 : Int32)), (.ref b29)]))
                obtain ⟨cl1014, Ar1014, q1014, S1014, P1014, H1014, G1014⟩ := id f984
                have hin1014 : ¬ ((0 : Int32) < 0 ∨ cl1014.slots.size ≤ ((0 : Int32)).toNatClampNeg) := inb_of S1014 ⟨by decide, by decide⟩
                have hat1014 : cl1014.slots[((0 : Int32)).toNatClampNeg]? = some (.int p1) := H1014 _ (by rw [S1014]; decide)
                refine G1 (fun _ => X981.iaload hx (j := (0 : Int32)) (v := (.int p1)) (by exact Ar1014.1) (State.isArrayOf_alike hZ.alike Ar1014.2.1) Ar1014.2.2 hin1014 hat1014 (g := (mkF m 243 #[.val (.int p0), .val (.int p1), .val (.int p2), .val (.int p3), .val (.int p4), .val (.int (4 : Int32)), .val (.int (3 : Int32)), .val (.int vs7), .val (.ref b29), .val (.int vq9), .val (.int (8 : Int32)), .val (.int (3 : Int32)), .val (.ref b795), .val (.int (1 : Int32)), .unset, .unset] [(.int (0 : Int32)), (.ref b29)])) rfl rfl (hb hby at_243) _) ?_
                show Goes _ _ _ _ _ _ _ (T981.setTop (mkF m 244 _ [(.int p1)]))
                refine G1 (fun _ => XS.iload X981.here hx rfl (hb hby at_244) rfl ) ?_
                by_cases c246_1015 : p1 = vq9
                · refine G1 (fun _ => XS.icmpNo X981.here hx rfl (hb hby at_246) rfl (teq c246_1015).2) ?_
                  show Goes _ _ _ _ _ _ _ (T981.setTop (mkF m 249 #[.val (.int p0), .val (.int p1), .val (.int p2), .val (.int p3), .val (.int p4), .val (.int (4 : Int32)), .val (.int (3 : Int32)), .val (.int vs7), .val (.ref b29), .val (.int vq9), .val (.int (8 : Int32)), .val (.int (3 : Int32)), .val (.ref b795), .val (.int (1 : Int32)), .unset, .unset] []))
                  refine G1 (fun _ => XS.iconst X981.here hx rfl (hb hby at_249)) ?_
                  refine G1 (fun _ => XS.istore X981.here hx rfl (hb hby at_250) rfl (l' := #[.val (.int p0), .val (.int p1), .val (.int p2), .val (.int p3), .val (.int p4), .val (.int (4 : Int32)), .val (.int (3 : Int32)), .val (.int vs7), .val (.ref b29), .val (.int vq9), .val (.int (8 : Int32)), .val (.int (3 : Int32)), .val (.ref b795), .val (.int (1 : Int32)), .unset, .unset]) rfl) ?_
                  show Goes _ _ _ _ _ _ _ (T981.setTop (mkF m 252 _ []))
                  show Goes _ _ _ _ _ _ _ (T981.setTop (mkF m 252 #[.val (.int p0), .val (.int p1), .val (.int p2), .val (.int p3), .val (.int p4), .val (.int (4 : Int32)), .val (.int (3 : Int32)), .val (.int vs7), .val (.ref b29), .val (.int vq9), .val (.int (8 : Int32)), .val (.int (3 : Int32)), .val (.ref b795), .val (.int (1 : Int32)), .unset, .unset] []))
                  exact J252 _ (by simp only [decide_eq_false c204_1005, decide_eq_true c225_1013, decide_eq_true c246_1015]; rfl)
                · refine G1 (fun _ => XS.icmpYes X981.here hx rfl (pc0 := 246) (pc' := 252) rfl (hb hby at_246) rfl (feq c246_1015).2 (by decide) (by decide)) ?_
                  show Goes _ _ _ _ _ _ _ (T981.setTop (mkF m 252 #[.val (.int p0), .val (.int p1), .val (.int p2), .val (.int p3), .val (.int p4), .val (.int (4 : Int32)), .val (.int (3 : Int32)), .val (.int vs7), .val (.ref b29), .val (.int vq9), .val (.int (8 : Int32)), .val (.int (3 : Int32)), .val (.ref b795), .val (.int (1 : Int32)), .unset, .unset] []))
                  exact J252 _ (by simp only [decide_eq_false c204_1005, decide_eq_true c225_1013, decide_eq_false c246_1015]; rfl)
              · refine G1 (fun _ => XS.icmpYes X981.here hx rfl (pc0 := 225) (pc' := 231) rfl (hb hby at_225) rfl (feq c225_1013).2 (by decide) (by decide)) ?_
                show Goes _ _ _ _ _ _ _ (T981.setTop (mkF m 231 _ []))
                refine G1 (fun _ => XS.iload X981.here hx rfl (hb hby at_231) rfl ) ?_
                refine G1 (fun _ => XS.iconst X981.here hx rfl (hb hby at_233)) ?_
                refine G1 (fun _ => XS.icmpNo X981.here hx rfl (hb hby at_234) rfl (flt (by decide : ¬ ((3 : Int32) < (3 : Int32)))).1) ?_
                show Goes _ _ _ _ _ _ _ (T981.setTop (mkF m 237 _ []))
                refine G1 (fun _ => XS.aload X981.here hx rfl (hb hby at_237) rfl rfl) ?_
                refine G1 (fun _ => XS.iload X981.here hx rfl (hb hby at_239) rfl ) ?_
                refine G1 (fun _ => XS.iconst X981.here hx rfl (hb hby at_241)) ?_
                refine G1 (fun _ => XS.isub X981.here hx rfl (hb hby at_242) rfl) ?_
                show Goes _ _ _ _ _ _ _ (T981.setTop (mkF m 243 _ [(.int (0 : Int32)), (.ref b29)]))
                obtain ⟨cl1016, Ar1016, q1016, S1016, P1016, H1016, G1016⟩ := id f984
                have hin1016 : ¬ ((0 : Int32) < 0 ∨ cl1016.slots.size ≤ ((0 : Int32)).toNatClampNeg) := inb_of S1016 ⟨by decide, by decide⟩
                have hat1016 : cl1016.slots[((0 : Int32)).toNatClampNeg]? = some (.int p1) := H1016 _ (by rw [S1016]; decide)
                refine G1 (fun _ => X981.iaload hx (j := (0 : Int32)) (v := (.int p1)) (by exact Ar1016.1) (State.isArrayOf_alike hZ.alike Ar1016.2.1) Ar1016.2.2 hin1016 hat1016 (g := (mkF m 243 #[.val (.int p0), .val (.int p1), .val (.int p2), .val (.int p3), .val (.int p4), .val (.int (4 : Int32)), .val (.int (3 : Int32)), .val (.int vs7), .val (.ref b29), .val (.int vq9), .val (.int (8 : Int32)), .val (.int (3 : Int32)), .val (.ref b795), .val (.int (0 : Int32)), .unset, .unset] [(.int (0 : Int32)), (.ref b29)])) rfl rfl (hb hby at_243) _) ?_
                show Goes _ _ _ _ _ _ _ (T981.setTop (mkF m 244 _ [(.int p1)]))
                refine G1 (fun _ => XS.iload X981.here hx rfl (hb hby at_244) rfl ) ?_
                by_cases c246_1017 : p1 = vq9
                · refine G1 (fun _ => XS.icmpNo X981.here hx rfl (hb hby at_246) rfl (teq c246_1017).2) ?_
                  show Goes _ _ _ _ _ _ _ (T981.setTop (mkF m 249 _ []))
                  refine G1 (fun _ => XS.iconst X981.here hx rfl (hb hby at_249)) ?_
                  refine G1 (fun _ => XS.istore X981.here hx rfl (hb hby at_250) rfl (l' := #[.val (.int p0), .val (.int p1), .val (.int p2), .val (.int p3), .val (.int p4), .val (.int (4 : Int32)), .val (.int (3 : Int32)), .val (.int vs7), .val (.ref b29), .val (.int vq9), .val (.int (8 : Int32)), .val (.int (3 : Int32)), .val (.ref b795), .val (.int (1 : Int32)), .unset, .unset]) rfl) ?_
                  show Goes _ _ _ _ _ _ _ (T981.setTop (mkF m 252 #[.val (.int p0), .val (.int p1), .val (.int p2), .val (.int p3), .val (.int p4), .val (.int (4 : Int32)), .val (.int (3 : Int32)), .val (.int vs7), .val (.ref b29), .val (.int vq9), .val (.int (8 : Int32)), .val (.int (3 : Int32)), .val (.ref b795), .val (.int (1 : Int32)), .unset, .unset] []))
                  exact J252 _ (by simp only [decide_eq_false c204_1005, decide_eq_false c225_1013, decide_eq_true c246_1017]; rfl)
                · refine G1 (fun _ => XS.icmpYes X981.here hx rfl (pc0 := 246) (pc' := 252) rfl (hb hby at_246) rfl (feq c246_1017).2 (by decide) (by decide)) ?_
                  show Goes _ _ _ _ _ _ _ (T981.setTop (mkF m 252 _ []))
                  show Goes _ _ _ _ _ _ _ (T981.setTop (mkF m 252 #[.val (.int p0), .val (.int p1), .val (.int p2), .val (.int p3), .val (.int p4), .val (.int (4 : Int32)), .val (.int (3 : Int32)), .val (.int vs7), .val (.ref b29), .val (.int vq9), .val (.int (8 : Int32)), .val (.int (3 : Int32)), .val (.ref b795), .val (.int (0 : Int32)), .unset, .unset] []))
                  exact J252 _ (by simp only [decide_eq_false c204_1005, decide_eq_false c225_1013, decide_eq_false c246_1017]; rfl)
  rcases own_mask (x := ((p0.toUInt32 >>> ((4 : Int32) &&& 31).toUInt32).toInt32)) with hs7 | hs7 | hs7 | hs7
  · rw [hs7]
    show Goes _ _ _ _ _ _ _ (T45.setTop (mkF m 38 #[.val (.int p0), .val (.int p1), .val (.int p2), .val (.int p3), .val (.int p4), .val (.int ((p0 &&& (3 : Int32)) + (1 : Int32))), .val (.int (((p0.toUInt32 >>> ((2 : Int32) &&& 31).toUInt32).toInt32) &&& (3 : Int32))), .val (.int (0 : Int32)), .val (.ref b29), .unset, .unset, .unset, .unset, .unset, .unset, .unset] []))
    refine G1 (fun _ => XS.iload X45.here hx rfl (hb hby at_38) rfl ) ?_
    refine G1 (fun _ => XS.iconst X45.here hx rfl (hb hby at_40)) ?_
    refine G1 (fun _ => XS.icmpNo X45.here hx rfl (hb hby at_41) rfl (tlt (by decide : (0 : Int32) < (3 : Int32))).2.1) ?_
    show Goes _ _ _ _ _ _ _ (T45.setTop (mkF m 44 _ []))
    refine G1 (fun _ => XS.aload X45.here hx rfl (hb hby at_44) rfl rfl) ?_
    refine G1 (fun _ => XS.iload X45.here hx rfl (hb hby at_46) rfl ) ?_
    obtain ⟨cl1018, Ar1018, q1018, S1018, P1018, H1018, G1018⟩ := id f48
    have hin1018 : ¬ ((0 : Int32) < 0 ∨ cl1018.slots.size ≤ ((0 : Int32)).toNatClampNeg) := inb_of S1018 ⟨by decide, by decide⟩
    have hat1018 : cl1018.slots[((0 : Int32)).toNatClampNeg]? = some (.int p1) := H1018 _ (by rw [S1018]; decide)
    refine G1 (fun _ => X45.iaload hx (j := (0 : Int32)) (v := (.int p1)) (by rw [e45]; exact Ar1018.1) (State.isArrayOf_alike hZ.alike Ar1018.2.1) Ar1018.2.2 hin1018 hat1018 (g := (mkF m 48 #[.val (.int p0), .val (.int p1), .val (.int p2), .val (.int p3), .val (.int p4), .val (.int ((p0 &&& (3 : Int32)) + (1 : Int32))), .val (.int (((p0.toUInt32 >>> ((2 : Int32) &&& 31).toUInt32).toInt32) &&& (3 : Int32))), .val (.int (0 : Int32)), .val (.ref b29), .unset, .unset, .unset, .unset, .unset, .unset, .unset] [(.int (0 : Int32)), (.ref b29)])) rfl rfl (hb hby at_48) _) ?_
    show Goes _ _ _ _ _ _ _ (T45.setTop (mkF m 49 _ [(.int p1)]))
    refine G1 (fun _ => XS.goto X45.here hx rfl (pc0 := 49) (pc' := 54) rfl (hb hby at_49) (by decide) (by decide)) ?_
    show Goes _ _ _ _ _ _ _ (T45.setTop (mkF m 54 _ [(.int p1)]))
    refine G1 (fun _ => XS.istore X45.here hx rfl (hb hby at_54) rfl (l' := #[.val (.int p0), .val (.int p1), .val (.int p2), .val (.int p3), .val (.int p4), .val (.int ((p0 &&& (3 : Int32)) + (1 : Int32))), .val (.int (((p0.toUInt32 >>> ((2 : Int32) &&& 31).toUInt32).toInt32) &&& (3 : Int32))), .val (.int (0 : Int32)), .val (.ref b29), .val (.int p1), .unset, .unset, .unset, .unset, .unset, .unset]) rfl) ?_
    show Goes _ _ _ _ _ _ _ (T45.setTop (mkF m 56 _ []))
    show Goes _ _ _ _ _ _ _ (T45.setTop (mkF m 56 #[.val (.int p0), .val (.int p1), .val (.int p2), .val (.int p3), .val (.int p4), .val (.int ((p0 &&& (3 : Int32)) + (1 : Int32))), .val (.int (((p0.toUInt32 >>> ((2 : Int32) &&& 31).toUInt32).toInt32) &&& (3 : Int32))), .val (.int (0 : Int32)), .val (.ref b29), .val (.int p1), .unset, .unset, .unset, .unset, .unset, .unset] []))
    exact J56 _ _ _ _ own_most own_mask
  · rw [hs7]
    show Goes _ _ _ _ _ _ _ (T45.setTop (mkF m 38 #[.val (.int p0), .val (.int p1), .val (.int p2), .val (.int p3), .val (.int p4), .val (.int ((p0 &&& (3 : Int32)) + (1 : Int32))), .val (.int (((p0.toUInt32 >>> ((2 : Int32) &&& 31).toUInt32).toInt32) &&& (3 : Int32))), .val (.int (1 : Int32)), .val (.ref b29), .unset, .unset, .unset, .unset, .unset, .unset, .unset] []))
    refine G1 (fun _ => XS.iload X45.here hx rfl (hb hby at_38) rfl ) ?_
    refine G1 (fun _ => XS.iconst X45.here hx rfl (hb hby at_40)) ?_
    refine G1 (fun _ => XS.icmpNo X45.here hx rfl (hb hby at_41) rfl (tlt (by decide : (1 : Int32) < (3 : Int32))).2.1) ?_
    show Goes _ _ _ _ _ _ _ (T45.setTop (mkF m 44 _ []))
    refine G1 (fun _ => XS.aload X45.here hx rfl (hb hby at_44) rfl rfl) ?_
    refine G1 (fun _ => XS.iload X45.here hx rfl (hb hby at_46) rfl ) ?_
    obtain ⟨cl1019, Ar1019, q1019, S1019, P1019, H1019, G1019⟩ := id f48
    have hin1019 : ¬ ((1 : Int32) < 0 ∨ cl1019.slots.size ≤ ((1 : Int32)).toNatClampNeg) := inb_of S1019 ⟨by decide, by decide⟩
    have hat1019 : cl1019.slots[((1 : Int32)).toNatClampNeg]? = some (.int p2) := H1019 _ (by rw [S1019]; decide)
    refine G1 (fun _ => X45.iaload hx (j := (1 : Int32)) (v := (.int p2)) (by rw [e45]; exact Ar1019.1) (State.isArrayOf_alike hZ.alike Ar1019.2.1) Ar1019.2.2 hin1019 hat1019 (g := (mkF m 48 #[.val (.int p0), .val (.int p1), .val (.int p2), .val (.int p3), .val (.int p4), .val (.int ((p0 &&& (3 : Int32)) + (1 : Int32))), .val (.int (((p0.toUInt32 >>> ((2 : Int32) &&& 31).toUInt32).toInt32) &&& (3 : Int32))), .val (.int (1 : Int32)), .val (.ref b29), .unset, .unset, .unset, .unset, .unset, .unset, .unset] [(.int (1 : Int32)), (.ref b29)])) rfl rfl (hb hby at_48) _) ?_
    show Goes _ _ _ _ _ _ _ (T45.setTop (mkF m 49 _ [(.int p2)]))
    refine G1 (fun _ => XS.goto X45.here hx rfl (pc0 := 49) (pc' := 54) rfl (hb hby at_49) (by decide) (by decide)) ?_
    show Goes _ _ _ _ _ _ _ (T45.setTop (mkF m 54 _ [(.int p2)]))
    refine G1 (fun _ => XS.istore X45.here hx rfl (hb hby at_54) rfl (l' := #[.val (.int p0), .val (.int p1), .val (.int p2), .val (.int p3), .val (.int p4), .val (.int ((p0 &&& (3 : Int32)) + (1 : Int32))), .val (.int (((p0.toUInt32 >>> ((2 : Int32) &&& 31).toUInt32).toInt32) &&& (3 : Int32))), .val (.int (1 : Int32)), .val (.ref b29), .val (.int p2), .unset, .unset, .unset, .unset, .unset, .unset]) rfl) ?_
    show Goes _ _ _ _ _ _ _ (T45.setTop (mkF m 56 _ []))
    show Goes _ _ _ _ _ _ _ (T45.setTop (mkF m 56 #[.val (.int p0), .val (.int p1), .val (.int p2), .val (.int p3), .val (.int p4), .val (.int ((p0 &&& (3 : Int32)) + (1 : Int32))), .val (.int (((p0.toUInt32 >>> ((2 : Int32) &&& 31).toUInt32).toInt32) &&& (3 : Int32))), .val (.int (1 : Int32)), .val (.ref b29), .val (.int p2), .unset, .unset, .unset, .unset, .unset, .unset] []))
    exact J56 _ _ _ _ own_most own_mask
  · rw [hs7]
    show Goes _ _ _ _ _ _ _ (T45.setTop (mkF m 38 #[.val (.int p0), .val (.int p1), .val (.int p2), .val (.int p3), .val (.int p4), .val (.int ((p0 &&& (3 : Int32)) + (1 : Int32))), .val (.int (((p0.toUInt32 >>> ((2 : Int32) &&& 31).toUInt32).toInt32) &&& (3 : Int32))), .val (.int (2 : Int32)), .val (.ref b29), .unset, .unset, .unset, .unset, .unset, .unset, .unset] []))
    refine G1 (fun _ => XS.iload X45.here hx rfl (hb hby at_38) rfl ) ?_
    refine G1 (fun _ => XS.iconst X45.here hx rfl (hb hby at_40)) ?_
    refine G1 (fun _ => XS.icmpNo X45.here hx rfl (hb hby at_41) rfl (tlt (by decide : (2 : Int32) < (3 : Int32))).2.1) ?_
    show Goes _ _ _ _ _ _ _ (T45.setTop (mkF m 44 _ []))
    refine G1 (fun _ => XS.aload X45.here hx rfl (hb hby at_44) rfl rfl) ?_
    refine G1 (fun _ => XS.iload X45.here hx rfl (hb hby at_46) rfl ) ?_
    obtain ⟨cl1020, Ar1020, q1020, S1020, P1020, H1020, G1020⟩ := id f48
    have hin1020 : ¬ ((2 : Int32) < 0 ∨ cl1020.slots.size ≤ ((2 : Int32)).toNatClampNeg) := inb_of S1020 ⟨by decide, by decide⟩
    have hat1020 : cl1020.slots[((2 : Int32)).toNatClampNeg]? = some (.int p3) := H1020 _ (by rw [S1020]; decide)
    refine G1 (fun _ => X45.iaload hx (j := (2 : Int32)) (v := (.int p3)) (by rw [e45]; exact Ar1020.1) (State.isArrayOf_alike hZ.alike Ar1020.2.1) Ar1020.2.2 hin1020 hat1020 (g := (mkF m 48 #[.val (.int p0), .val (.int p1), .val (.int p2), .val (.int p3), .val (.int p4), .val (.int ((p0 &&& (3 : Int32)) + (1 : Int32))), .val (.int (((p0.toUInt32 >>> ((2 : Int32) &&& 31).toUInt32).toInt32) &&& (3 : Int32))), .val (.int (2 : Int32)), .val (.ref b29), .unset, .unset, .unset, .unset, .unset, .unset, .unset] [(.int (2 : Int32)), (.ref b29)])) rfl rfl (hb hby at_48) _) ?_
    show Goes _ _ _ _ _ _ _ (T45.setTop (mkF m 49 _ [(.int p3)]))
    refine G1 (fun _ => XS.goto X45.here hx rfl (pc0 := 49) (pc' := 54) rfl (hb hby at_49) (by decide) (by decide)) ?_
    show Goes _ _ _ _ _ _ _ (T45.setTop (mkF m 54 _ [(.int p3)]))
    refine G1 (fun _ => XS.istore X45.here hx rfl (hb hby at_54) rfl (l' := #[.val (.int p0), .val (.int p1), .val (.int p2), .val (.int p3), .val (.int p4), .val (.int ((p0 &&& (3 : Int32)) + (1 : Int32))), .val (.int (((p0.toUInt32 >>> ((2 : Int32) &&& 31).toUInt32).toInt32) &&& (3 : Int32))), .val (.int (2 : Int32)), .val (.ref b29), .val (.int p3), .unset, .unset, .unset, .unset, .unset, .unset]) rfl) ?_
    show Goes _ _ _ _ _ _ _ (T45.setTop (mkF m 56 _ []))
    show Goes _ _ _ _ _ _ _ (T45.setTop (mkF m 56 #[.val (.int p0), .val (.int p1), .val (.int p2), .val (.int p3), .val (.int p4), .val (.int ((p0 &&& (3 : Int32)) + (1 : Int32))), .val (.int (((p0.toUInt32 >>> ((2 : Int32) &&& 31).toUInt32).toInt32) &&& (3 : Int32))), .val (.int (2 : Int32)), .val (.ref b29), .val (.int p3), .unset, .unset, .unset, .unset, .unset, .unset] []))
    exact J56 _ _ _ _ own_most own_mask
  · rw [hs7]
    show Goes _ _ _ _ _ _ _ (T45.setTop (mkF m 38 #[.val (.int p0), .val (.int p1), .val (.int p2), .val (.int p3), .val (.int p4), .val (.int ((p0 &&& (3 : Int32)) + (1 : Int32))), .val (.int (((p0.toUInt32 >>> ((2 : Int32) &&& 31).toUInt32).toInt32) &&& (3 : Int32))), .val (.int (3 : Int32)), .val (.ref b29), .unset, .unset, .unset, .unset, .unset, .unset, .unset] []))
    refine G1 (fun _ => XS.iload X45.here hx rfl (hb hby at_38) rfl ) ?_
    refine G1 (fun _ => XS.iconst X45.here hx rfl (hb hby at_40)) ?_
    refine G1 (fun _ => XS.icmpYes X45.here hx rfl (pc0 := 41) (pc' := 52) rfl (hb hby at_41) rfl (flt (by decide : ¬ ((3 : Int32) < (3 : Int32)))).2.1 (by decide) (by decide)) ?_
    show Goes _ _ _ _ _ _ _ (T45.setTop (mkF m 52 _ []))
    refine G1 (fun _ => XS.iload X45.here hx rfl (hb hby at_52) rfl ) ?_
    refine G1 (fun _ => XS.istore X45.here hx rfl (hb hby at_54) rfl (l' := #[.val (.int p0), .val (.int p1), .val (.int p2), .val (.int p3), .val (.int p4), .val (.int ((p0 &&& (3 : Int32)) + (1 : Int32))), .val (.int (((p0.toUInt32 >>> ((2 : Int32) &&& 31).toUInt32).toInt32) &&& (3 : Int32))), .val (.int (3 : Int32)), .val (.ref b29), .val (.int p4), .unset, .unset, .unset, .unset, .unset, .unset]) rfl) ?_
    show Goes _ _ _ _ _ _ _ (T45.setTop (mkF m 56 _ []))
    show Goes _ _ _ _ _ _ _ (T45.setTop (mkF m 56 #[.val (.int p0), .val (.int p1), .val (.int p2), .val (.int p3), .val (.int p4), .val (.int ((p0 &&& (3 : Int32)) + (1 : Int32))), .val (.int (((p0.toUInt32 >>> ((2 : Int32) &&& 31).toUInt32).toInt32) &&& (3 : Int32))), .val (.int (3 : Int32)), .val (.ref b29), .val (.int p4), .unset, .unset, .unset, .unset, .unset, .unset] []))
    exact J56 _ _ _ _ own_most own_mask
set_option maxRecDepth 65536 in
set_option maxHeartbeats 40000000 in
theorem comes_1 {Post : Tables → Env → Array Value → State → Outcome → State → Prop} (hpost : ∀ tb e args s v u, (limb_1_1.after args s (.returned v) u = true ∧ limb_1_2.after args s (.returned v) u = true ∧ True) → FrameEnd s (.returned v) u (Jvm.fieldLocs frame_1_writes args s ++ Jvm.arrayLocs frame_1_arrays args s ++ Jvm.staticLocs frame_1_statics s) 24 192 → Post tb e args s (.returned v) u) :
    ArmFor flags0 classFile x code maxLocals ret World_1 tables_1 room_1 Calls_1 rest_1 Pre_1 Post := by
  intro l hfl _ _ p e ha hc hk s m args below hf hA hF happ hP
  obtain ⟨hcalls, hrest, hpre⟩ := hP
  obtain ⟨-, -, -, hnamed, -, -, -, hat⟩ := (Spec.applies_iff hf).mp happ
  obtain ⟨hg, hn⟩ := and_e (Cond.before_iff.mp (show (Jvm.Cond.and given_1 narrow_1).before args s = true from hpre))
  obtain ⟨gg1, gg2⟩ := and_e hg
  obtain ⟨gg3, gg4⟩ := and_e gg2
  obtain ⟨gg5, gg6⟩ := and_e gg4
  obtain ⟨gg7, gg8⟩ := and_e gg6
  obtain ⟨gg9, gg10⟩ := and_e gg8
  obtain ⟨w0, w1, w2, w3, w4, rfl⟩ : ∃ w0 w1 w2 w3 w4 : Value, args = #[w0, w1, w2, w3, w4] := by
    have hs : args.size = 5 := by simpa [Cond.value, given_1] using gg1
    obtain ⟨L⟩ := args
    match L, hs with
    | [w0, w1, w2, w3, w4], _ => exact ⟨w0, w1, w2, w3, w4, rfl⟩
  have hw := fun d (hd : d ∈ tables_1) => atoms_spec (ws := Jvm.Cond.code x code maxLocals ret :: tables_1) hat d (List.mem_cons_of_mem _ hd)
  have hfit : Fit s := fun {y c} hc i hi => by
    obtain ⟨ha, rfl⟩ := Array.getElem?_eq_some_iff.mp hc
    have q := List.all_eq_true.mp ((Array.all_eq_true_iff_forall_mem.mp hF) _ (Array.getElem_mem ha)) i (List.mem_range.mpr hi)
    simpa [Array.getElem?_eq_getElem hi] using q
  obtain ⟨hsets, hown0⟩ := atoms_of _ (rest_1_c_eq ▸ (show rest_1_c.before _ s = true from hrest))
  have hr0 := Cond.before_iff.mp hown0
  obtain ⟨i0, ei0⟩ := is_v gg3
  obtain rfl : w0 = (.int i0) := Option.some.inj ei0
  obtain ⟨i1, ei1⟩ := is_v gg5
  obtain rfl : w1 = (.int i1) := Option.some.inj ei1
  obtain ⟨i2, ei2⟩ := is_v gg7
  obtain rfl : w2 = (.int i2) := Option.some.inj ei2
  obtain ⟨i3, ei3⟩ := is_v gg9
  obtain rfl : w3 = (.int i3) := Option.some.inj ei3
  obtain ⟨i4, ei4⟩ := is_v gg10
  obtain rfl : w4 = (.int i4) := Option.some.inj ei4
  have S_high := Sta.start (own_eqInt (Cond.before_iff.mp (hsets _ (List.mem_of_getElem? (i := 3) rfl)))) (Or.inl (hsets _ (List.mem_of_getElem? (i := 1) rfl)))
  have jar := Cond.before_iff.mp (hsets _ (List.mem_of_getElem? (i := 4) rfl))
  obtain ⟨ca, eca⟩ := arr_v jar
  have S_cache := Sta.start eca (Or.inr ⟨(own_at hw 56 rfl), (hsets _ (List.mem_of_getElem? (i := 2) rfl))⟩)
  obtain ⟨cc, Acc⟩ := Arr.start eca jar
  have BX : Bxs s ca cc "java/lang/Integer" "I" (256 : Int32) (fun j => .int (j - (128 : Int32))) := own_bxs eca Acc (own_eqInt (Cond.before_iff.mp (hsets _ (List.mem_of_getElem? (i := 6) rfl)))) (Cond.before_iff.mp (hsets _ (List.mem_of_getElem? (i := 7) rfl)))
  obtain ⟨n, o, h1, h2, h3, _, L, rfl, ⟨rfl, N⟩, hq⟩ := rm0 l s _ hw tables_1 i0 i1 i2 i3 i4 ca cc s.heap s.heap.size (Nat.le_refl _) S_high S_cache BX (Old.start s) p e ha hc hk s m _ below hf ((Spec.applies_iff_loose hf).mp happ).1 ⟨rfl, State.Warmed39.refl s, rfl⟩ trivial
  refine ⟨n, _, h1, h2, h3, hpost _ _ _ _ _ _ ⟨Cond.after_iff.mpr rfl, Cond.after_iff.mpr (eq_i res_at (Term.int_eval (1)) rfl), trivial⟩ ⟨hq.1, hq.2.1, (hq.2.2.sift fun y hy => Or.inr (N y hy)).mono (by decide) (by decide)⟩⟩
theorem main_1_1 : Claimed_1_1 := comes_1 fun _ _ _ _ _ _ h hF => ⟨h.1, hF⟩
theorem main_1_2 : Claimed_1_2 := comes_1 fun _ _ _ _ _ _ h hF => ⟨h.2.1, hF⟩
end Jvm.Pilot.@@N@@
namespace Jvm.Pilot.@@N@@
open Jvm Jvm.ClassFile Sem Op Lib Jvm.Free Jvm.Stand Jvm.Pilot.@@N@@.Jvm.D
/-! MADE BY PROGRAM (witnessworld.py) out of the Statement's table words and the real class files: 18 classes; the members and pool entries that the words name. The judged class is class 1, her method 1. -/
namespace start1
open Jvm.ClassFile
def u (s : String) : CpInfo := .utf8 (stringToUtf16 s)
/-- a pool by its gaps: so many unusable entries, then the entry; so many at the end -/
def gap : Nat → List CpInfo → List CpInfo
  | 0, r => r
  | n + 1, r => .unusable :: gap n r
def poolList (es : List (Nat × CpInfo)) (last : Nat) : List CpInfo := es.foldr (fun e r => gap e.1 (e.2 :: r)) (gap last [])
def pool (es : List (Nat × CpInfo)) (last : Nat) : Array CpInfo := ⟨poolList es last⟩
def fileOf (pool : Array CpInfo) (this : Nat) (attrs : Array Attribute := #[]) (ms : Array MethodInfo := #[]) (fl : Nat := 33) (sup : Nat := 0) (ifs : Array Nat := #[]) (fds : Array FieldInfo := #[]) : ClassFile where
  minorVersion := 0
  majorVersion := 65
  constantPool := pool
  accessFlags := fl
  thisClass := this
  superClass := sup
  interfaces := ifs
  fields := fds
  methods := ms
  attributes := attrs
def plain (name : String) (sup : Option ClassId) : Class where
  name := name
  kind := .ordinary
  loader := none
  accessFlags := 33
  super := sup
  interfaces := #[]
  cf := none
  fields := #[]
  methods := #[]
  instanceTypes := #[]
  staticTypes := #[]
  resolved := #[]
  callSites := []
  init := .initialized
  statics := none
  mirror := none

def pool0 : Array CpInfo := pool [(5, u "<init>"), (0, u "()V"), (1, .class_ 10), (1, u "java/lang/Object")] 113

def k0c0 : Code := { maxStack := 0, maxLocals := 1, code := object_method_1_code, exceptionTable := #[], attributes := #[] }
def k0m0 : Method := { name := "<init>", desc := "()V", sig := { parameters := [], returnType := none }, accessFlags := 1, code := some k0c0 }
/-- java/lang/Object -/
def k0 : Class := { plain "java/lang/Object" none with
  accessFlags := 33
  interfaces := #[]
  cf := some (fileOf pool0 8 #[] #[{ accessFlags := 1, nameIndex := 5, descriptorIndex := 6, attributes := #[] }] 33 0 #[] #[])
  fields := #[]
  methods := #[k0m0]
  instanceTypes := #[]
  staticTypes := #[]
  resolved := Array.replicate 124 none
  statics := none }

def pool1 : Array CpInfo := pool [(2, .class_ 4), (1, u "java/lang/Object"), (0, u "<init>"), (0, u "()V"), (0, .class_ 8), (0, u "com/example/nehaba/nehaba/input/KeptValues"), (0, .methodref 7 10), (0, .nameAndType 5 11), (0, u "(I)V"), (0, .methodref 13 14), (0, .class_ 15), (0, .nameAndType 16 17), (0, u "java/lang/Integer"), (0, u "valueOf"), (0, u "(I)Ljava/lang/Integer;"), (0, .methodref 7 19), (0, .nameAndType 20 21), (0, u "put"), (0, u "(ILjava/lang/Object;Ljava/lang/Object;)Ljava/lang/Object;"), (0, .methodref 7 23), (0, .nameAndType 24 25), (0, u "place"), (0, u "(I)I"), (0, .methodref 7 27), (0, .nameAndType 28 29), (0, u "holds"), (0, u "(I)Z"), (0, .class_ 31), (0, u "com/example/nehaba/nehaba/input/KeptValuesHoldsPinLaw"), (2, u "law"), (0, u "(IIIII)Z")] 5

def k1m0 : Method := { name := "<init>", desc := "()V", sig := { parameters := [], returnType := none }, accessFlags := 1, code := none }
def k1c1 : Code := { maxStack := 4, maxLocals := 16, code := code, exceptionTable := #[], attributes := #[] }
def k1m1 : Method := { name := "law", desc := "(IIIII)Z", sig := { parameters := [.int, .int, .int, .int, .int], returnType := some .boolean }, accessFlags := 9, code := some k1c1 }
/-- com/example/nehaba/nehaba/input/KeptValuesHoldsPinLaw -/
def k1 : Class := { plain "com/example/nehaba/nehaba/input/KeptValuesHoldsPinLaw" (some 0) with
  accessFlags := 49
  interfaces := #[]
  cf := some (fileOf pool1 30 #[] #[{ accessFlags := 1, nameIndex := 5, descriptorIndex := 6, attributes := #[] }, { accessFlags := 9, nameIndex := 34, descriptorIndex := 35, attributes := #[] }] 49 2 #[] #[])
  fields := #[]
  methods := #[k1m0, k1m1]
  instanceTypes := #[]
  staticTypes := #[]
  resolved := Array.replicate 41 none
  statics := none }

def pool2 : Array CpInfo := pool [(1, .methodref 2 3), (0, .class_ 4), (0, .nameAndType 5 6), (0, u "java/lang/Object"), (0, u "<init>"), (0, u "()V"), (0, .class_ 8), (0, u "com/example/nehaba/nehaba/input/KeptValues"), (0, .integer 536870912), (9, .fieldref 7 20), (0, .nameAndType 21 22), (0, u "most"), (0, u "I"), (0, .methodref 24 25), (0, .class_ 26), (0, .nameAndType 27 28), (0, u "java/lang/Integer"), (0, u "highestOneBit"), (0, u "(I)I"), (0, .fieldref 7 30), (0, .nameAndType 31 32), (0, u "keys"), (0, u "[Ljava/lang/Object;"), (0, .fieldref 7 34), (0, .nameAndType 35 36), (0, u "hashes"), (0, u "[I"), (0, .fieldref 7 38), (0, .nameAndType 39 32), (0, u "values"), (0, .methodref 24 41), (0, .nameAndType 42 28), (0, u "numberOfLeadingZeros"), (0, .fieldref 7 44), (0, .nameAndType 45 22), (0, u "shift"), (0, .methodref 7 47), (0, .nameAndType 48 28), (0, u "first"), (0, .methodref 7 50), (0, .nameAndType 51 52), (0, u "seek"), (0, u "(II)I"), (0, .methodref 7 54), (0, .nameAndType 55 28), (0, u "after"), (0, .fieldref 7 57), (0, .nameAndType 58 22), (0, u "size"), (0, .methodref 60 61), (0, .class_ 62), (0, .nameAndType 63 64), (0, u "java/util/Arrays"), (0, u "fill"), (0, u "([Ljava/lang/Object;Ljava/lang/Object;)V"), (10, .integer 2654435769), (0, u "MOST"), (1, u "(I)V"), (3, u "place"), (1, u "holds"), (0, u "(I)Z"), (6, u "put"), (0, u "(ILjava/lang/Object;Ljava/lang/Object;)Ljava/lang/Object;")] 21

def k2c0 : Code := { maxStack := 3, maxLocals := 3, code := prog_31_method_1_code, exceptionTable := #[], attributes := #[] }
def k2m0 : Method := { name := "<init>", desc := "(I)V", sig := { parameters := [.int], returnType := none }, accessFlags := 1, code := some k2c0 }
def k2c1 : Code := { maxStack := 3, maxLocals := 2, code := prog_31_method_2_code, exceptionTable := #[], attributes := #[] }
def k2m1 : Method := { name := "place", desc := "(I)I", sig := { parameters := [.int], returnType := some .int }, accessFlags := 1, code := some k2c1 }
def k2c2 : Code := { maxStack := 2, maxLocals := 2, code := prog_31_method_4_code, exceptionTable := #[], attributes := #[] }
def k2m2 : Method := { name := "holds", desc := "(I)Z", sig := { parameters := [.int], returnType := some .boolean }, accessFlags := 1, code := some k2c2 }
def k2c3 : Code := { maxStack := 3, maxLocals := 5, code := prog_31_method_7_code, exceptionTable := #[], attributes := #[] }
def k2m3 : Method := { name := "put", desc := "(ILjava/lang/Object;Ljava/lang/Object;)Ljava/lang/Object;", sig := { parameters := [.int, (.object "java/lang/Object"), (.object "java/lang/Object")], returnType := some (.object "java/lang/Object") }, accessFlags := 1, code := some k2c3 }
def k2c4 : Code := { maxStack := 2, maxLocals := 2, code := prog_31_method_9_code, exceptionTable := #[], attributes := #[] }
def k2m4 : Method := { name := "first", desc := "(I)I", sig := { parameters := [.int], returnType := some .int }, accessFlags := 2, code := some k2c4 }
def k2c5 : Code := { maxStack := 2, maxLocals := 3, code := prog_31_method_10_code, exceptionTable := #[], attributes := #[] }
def k2m5 : Method := { name := "seek", desc := "(II)I", sig := { parameters := [.int, .int], returnType := some .int }, accessFlags := 2, code := some k2c5 }
def k2c6 : Code := { maxStack := 3, maxLocals := 2, code := prog_31_method_11_code, exceptionTable := #[], attributes := #[] }
def k2m6 : Method := { name := "after", desc := "(I)I", sig := { parameters := [.int], returnType := some .int }, accessFlags := 2, code := some k2c6 }
/-- com/example/nehaba/nehaba/input/KeptValues -/
def k2 : Class := { plain "com/example/nehaba/nehaba/input/KeptValues" (some 0) with
  accessFlags := 49
  interfaces := #[]
  cf := some (fileOf pool2 7 #[] #[{ accessFlags := 1, nameIndex := 5, descriptorIndex := 78, attributes := #[] }, { accessFlags := 1, nameIndex := 82, descriptorIndex := 28, attributes := #[] }, { accessFlags := 1, nameIndex := 84, descriptorIndex := 85, attributes := #[] }, { accessFlags := 1, nameIndex := 92, descriptorIndex := 93, attributes := #[] }, { accessFlags := 2, nameIndex := 48, descriptorIndex := 28, attributes := #[] }, { accessFlags := 2, nameIndex := 51, descriptorIndex := 52, attributes := #[] }, { accessFlags := 2, nameIndex := 55, descriptorIndex := 28, attributes := #[] }] 49 2 #[] #[{ accessFlags := 26, nameIndex := 76, descriptorIndex := 22, attributes := #[] }, { accessFlags := 18, nameIndex := 21, descriptorIndex := 22, attributes := #[] }, { accessFlags := 18, nameIndex := 31, descriptorIndex := 32, attributes := #[] }, { accessFlags := 18, nameIndex := 35, descriptorIndex := 36, attributes := #[] }, { accessFlags := 18, nameIndex := 39, descriptorIndex := 32, attributes := #[] }, { accessFlags := 18, nameIndex := 45, descriptorIndex := 22, attributes := #[] }, { accessFlags := 2, nameIndex := 58, descriptorIndex := 22, attributes := #[] }])
  fields := #[{ name := "MOST", type := .int, accessFlags := 26, slot := 0, constantValue := 0 }, { name := "most", type := .int, accessFlags := 18, slot := 0, constantValue := 0 }, { name := "keys", type := (.array (.object "java/lang/Object")), accessFlags := 18, slot := 1, constantValue := 0 }, { name := "hashes", type := (.array .int), accessFlags := 18, slot := 2, constantValue := 0 }, { name := "values", type := (.array (.object "java/lang/Object")), accessFlags := 18, slot := 3, constantValue := 0 }, { name := "shift", type := .int, accessFlags := 18, slot := 4, constantValue := 0 }, { name := "size", type := .int, accessFlags := 2, slot := 5, constantValue := 0 }]
  methods := #[k2m0, k2m1, k2m2, k2m3, k2m4, k2m5, k2m6]
  instanceTypes := #[.int, (.array (.object "java/lang/Object")), (.array .int), (.array (.object "java/lang/Object")), .int, .int]
  staticTypes := #[.int]
  resolved := Array.replicate 115 none
  statics := none }

def pool3 : Array CpInfo := pool [(1, .class_ 2), (0, u "java/io/Serializable"), (0, .class_ 4), (0, u "java/lang/Object")] 2

/-- java/io/Serializable -/
def k3 : Class := { plain "java/io/Serializable" (some 0) with
  accessFlags := 1537
  interfaces := #[]
  cf := some (fileOf pool3 1 #[] #[] 1537 3 #[] #[])
  fields := #[]
  methods := #[]
  instanceTypes := #[]
  staticTypes := #[]
  resolved := Array.replicate 7 none
  statics := none }

def pool4 : Array CpInfo := pool [(2, .class_ 4), (1, u "java/lang/Object"), (0, u "<init>"), (0, u "()V"), (1, .class_ 10), (1, u "java/lang/Number"), (2, .class_ 14), (0, u "java/io/Serializable"), (0, u "serialVersionUID"), (0, u "J")] 20

def k4m0 : Method := { name := "<init>", desc := "()V", sig := { parameters := [], returnType := none }, accessFlags := 1, code := none }
/-- java/lang/Number -/
def k4 : Class := { plain "java/lang/Number" (some 0) with
  accessFlags := 1057
  interfaces := #[3]
  cf := some (fileOf pool4 8 #[] #[{ accessFlags := 1, nameIndex := 5, descriptorIndex := 6, attributes := #[] }] 1057 2 #[13] #[{ accessFlags := 26, nameIndex := 15, descriptorIndex := 16, attributes := #[] }])
  fields := #[{ name := "serialVersionUID", type := .long, accessFlags := 26, slot := 0, constantValue := 0 }]
  methods := #[k4m0]
  instanceTypes := #[]
  staticTypes := #[.long]
  resolved := Array.replicate 37 none
  statics := none }

def pool5 : Array CpInfo := pool [(1, .class_ 2), (0, u "java/lang/Comparable"), (0, .class_ 4), (0, u "java/lang/Object")] 7

/-- java/lang/Comparable -/
def k5 : Class := { plain "java/lang/Comparable" (some 0) with
  accessFlags := 1537
  interfaces := #[]
  cf := some (fileOf pool5 1 #[] #[] 1537 3 #[] #[])
  fields := #[]
  methods := #[]
  instanceTypes := #[]
  staticTypes := #[]
  resolved := Array.replicate 12 none
  statics := none }

def pool6 : Array CpInfo := pool [(1, .class_ 2), (0, u "java/lang/constant/Constable"), (0, .class_ 4), (0, u "java/lang/Object")] 6

/-- java/lang/constant/Constable -/
def k6 : Class := { plain "java/lang/constant/Constable" (some 0) with
  accessFlags := 1537
  interfaces := #[]
  cf := some (fileOf pool6 1 #[] #[] 1537 3 #[] #[])
  fields := #[]
  methods := #[]
  instanceTypes := #[]
  staticTypes := #[]
  resolved := Array.replicate 11 none
  statics := none }

def pool7 : Array CpInfo := pool [(1, .class_ 2), (0, u "java/lang/constant/ConstantDesc"), (0, .class_ 4), (0, u "java/lang/Object")] 32

/-- java/lang/constant/ConstantDesc -/
def k7 : Class := { plain "java/lang/constant/ConstantDesc" (some 0) with
  accessFlags := 1537
  interfaces := #[]
  cf := some (fileOf pool7 1 #[] #[] 1537 3 #[] #[])
  fields := #[]
  methods := #[]
  instanceTypes := #[]
  staticTypes := #[]
  resolved := Array.replicate 37 none
  statics := none }

def pool8 : Array CpInfo := pool [(1, .class_ 2), (0, u "java/lang/Integer"), (16, u "digits"), (0, u "[C"), (30, .methodref 1 52), (0, .nameAndType 53 54), (0, u "numberOfLeadingZeros"), (0, u "(I)I"), (30, u "DigitOnes"), (0, u "[B"), (2, u "DigitTens"), (37, .integer 2147483648), (59, u "valueOf"), (0, u "(I)Ljava/lang/Integer;"), (0, .class_ 190), (0, u "java/lang/Integer$IntegerCache"), (0, .fieldref 189 192), (0, .nameAndType 193 194), (0, u "high"), (0, u "I"), (0, .fieldref 189 196), (0, .nameAndType 197 198), (0, u "cache"), (0, u "[Ljava/lang/Integer;"), (4, .class_ 204), (0, u "java/lang/Number"), (2, u "value"), (56, .integer 65536), (37, u "TYPE"), (0, u "Ljava/lang/Class;"), (0, .class_ 305), (0, u "java/lang/Comparable"), (0, .class_ 307), (0, u "java/lang/constant/Constable"), (0, .class_ 309), (0, u "java/lang/constant/ConstantDesc"), (0, u "MIN_VALUE"), (1, u "MAX_VALUE"), (3, u "SIZE"), (1, u "BYTES"), (1, u "serialVersionUID"), (0, u "J"), (81, u "highestOneBit")] 49

def k8c0 : Code := { maxStack := 3, maxLocals := 1, code := jdk_33_method_22_code, exceptionTable := #[], attributes := #[] }
def k8m0 : Method := { name := "valueOf", desc := "(I)Ljava/lang/Integer;", sig := { parameters := [.int], returnType := some (.object "java/lang/Integer") }, accessFlags := 9, code := some k8c0 }
def k8c1 : Code := { maxStack := 3, maxLocals := 1, code := jdk_33_method_45_code, exceptionTable := #[], attributes := #[] }
def k8m1 : Method := { name := "highestOneBit", desc := "(I)I", sig := { parameters := [.int], returnType := some .int }, accessFlags := 9, code := some k8c1 }
def k8c2 : Code := { maxStack := 3, maxLocals := 2, code := jdk_33_method_47_code, exceptionTable := #[], attributes := #[] }
def k8m2 : Method := { name := "numberOfLeadingZeros", desc := "(I)I", sig := { parameters := [.int], returnType := some .int }, accessFlags := 9, code := some k8c2 }
/-- java/lang/Integer -/
def k8 : Class := { plain "java/lang/Integer" (some 4) with
  accessFlags := 49
  interfaces := #[5, 6, 7]
  cf := some (fileOf pool8 1 #[.nestMembers #[189]] #[{ accessFlags := 9, nameIndex := 187, descriptorIndex := 188, attributes := #[] }, { accessFlags := 9, nameIndex := 403, descriptorIndex := 54, attributes := #[] }, { accessFlags := 9, nameIndex := 53, descriptorIndex := 54, attributes := #[] }] 49 203 #[304, 306, 308] #[{ accessFlags := 25, nameIndex := 310, descriptorIndex := 194, attributes := #[] }, { accessFlags := 25, nameIndex := 312, descriptorIndex := 194, attributes := #[] }, { accessFlags := 25, nameIndex := 302, descriptorIndex := 303, attributes := #[] }, { accessFlags := 24, nameIndex := 19, descriptorIndex := 20, attributes := #[] }, { accessFlags := 24, nameIndex := 89, descriptorIndex := 86, attributes := #[] }, { accessFlags := 24, nameIndex := 85, descriptorIndex := 86, attributes := #[] }, { accessFlags := 18, nameIndex := 207, descriptorIndex := 194, attributes := #[] }, { accessFlags := 25, nameIndex := 316, descriptorIndex := 194, attributes := #[] }, { accessFlags := 25, nameIndex := 318, descriptorIndex := 194, attributes := #[] }, { accessFlags := 26, nameIndex := 320, descriptorIndex := 321, attributes := #[] }])
  fields := #[{ name := "MIN_VALUE", type := .int, accessFlags := 25, slot := 0, constantValue := 0 }, { name := "MAX_VALUE", type := .int, accessFlags := 25, slot := 1, constantValue := 0 }, { name := "TYPE", type := (.object "java/lang/Class"), accessFlags := 25, slot := 2, constantValue := 0 }, { name := "digits", type := (.array .char), accessFlags := 24, slot := 3, constantValue := 0 }, { name := "DigitTens", type := (.array .byte), accessFlags := 24, slot := 4, constantValue := 0 }, { name := "DigitOnes", type := (.array .byte), accessFlags := 24, slot := 5, constantValue := 0 }, { name := "value", type := .int, accessFlags := 18, slot := 0, constantValue := 0 }, { name := "SIZE", type := .int, accessFlags := 25, slot := 6, constantValue := 0 }, { name := "BYTES", type := .int, accessFlags := 25, slot := 7, constantValue := 0 }, { name := "serialVersionUID", type := .long, accessFlags := 26, slot := 8, constantValue := 0 }]
  methods := #[k8m0, k8m1, k8m2]
  instanceTypes := #[.int]
  staticTypes := #[.int, .int, (.object "java/lang/Class"), (.array .char), (.array .byte), (.array .byte), .int, .int, .long]
  resolved := Array.replicate 453 none
  statics := none }

def pool9 : Array CpInfo := pool [(2, .class_ 4), (1, u "java/lang/Object"), (0, u "<init>"), (0, u "()V"), (0, .class_ 8), (0, u "java/lang/Integer"), (7, .class_ 18), (1, u "java/lang/Integer$IntegerCache"), (0, u "$assertionsDisabled"), (0, u "Z"), (26, u "high"), (0, u "I"), (8, u "archivedCache"), (0, u "[Ljava/lang/Integer;"), (12, u "cache"), (0, u "low")] 27

def k9m0 : Method := { name := "<init>", desc := "()V", sig := { parameters := [], returnType := none }, accessFlags := 2, code := none }
/-- java/lang/Integer$IntegerCache -/
def k9 : Class := { plain "java/lang/Integer$IntegerCache" (some 0) with
  accessFlags := 48
  interfaces := #[]
  cf := some (fileOf pool9 16 #[.nestHost 7] #[{ accessFlags := 2, nameIndex := 5, descriptorIndex := 6, attributes := #[] }] 48 2 #[] #[{ accessFlags := 24, nameIndex := 72, descriptorIndex := 48, attributes := #[] }, { accessFlags := 24, nameIndex := 47, descriptorIndex := 48, attributes := #[] }, { accessFlags := 24, nameIndex := 71, descriptorIndex := 58, attributes := #[] }, { accessFlags := 8, nameIndex := 57, descriptorIndex := 58, attributes := #[] }, { accessFlags := 4120, nameIndex := 19, descriptorIndex := 20, attributes := #[] }])
  fields := #[{ name := "low", type := .int, accessFlags := 24, slot := 0, constantValue := 0 }, { name := "high", type := .int, accessFlags := 24, slot := 1, constantValue := 0 }, { name := "cache", type := (.array (.object "java/lang/Integer")), accessFlags := 24, slot := 2, constantValue := 0 }, { name := "archivedCache", type := (.array (.object "java/lang/Integer")), accessFlags := 8, slot := 3, constantValue := 0 }, { name := "$assertionsDisabled", type := .boolean, accessFlags := 4120, slot := 4, constantValue := 0 }]
  methods := #[k9m0]
  instanceTypes := #[]
  staticTypes := #[.int, .int, (.array (.object "java/lang/Integer")), (.array (.object "java/lang/Integer")), .boolean]
  resolved := Array.replicate 100 none
  statics := some 0 }

def pool10 : Array CpInfo := pool [(2, .class_ 4), (1, u "java/lang/Object"), (0, u "<init>"), (0, u "()V"), (7, .class_ 16), (1, u "java/util/Arrays"), (57, .class_ 76), (1, u "java/util/Arrays$NaturalOrder"), (36, .class_ 115), (1, u "java/util/Arrays$LegacyMergeSort"), (1, u "Z"), (257, .class_ 376), (0, u "java/util/Arrays$ArrayList"), (68, u "$assertionsDisabled"), (269, u "MIN_ARRAY_SORT_GRAN"), (0, u "I"), (2, u "INSERTIONSORT_THRESHOLD"), (120, u "fill"), (17, u "([Ljava/lang/Object;Ljava/lang/Object;)V"), (116, .class_ 976), (0, u "java/util/Arrays$ArrayItr")] 52

def k10m0 : Method := { name := "<init>", desc := "()V", sig := { parameters := [], returnType := none }, accessFlags := 2, code := none }
def k10c1 : Code := { maxStack := 3, maxLocals := 4, code := jdk_65_method_117_code, exceptionTable := #[], attributes := #[] }
def k10m1 : Method := { name := "fill", desc := "([Ljava/lang/Object;Ljava/lang/Object;)V", sig := { parameters := [(.array (.object "java/lang/Object")), (.object "java/lang/Object")], returnType := none }, accessFlags := 9, code := some k10c1 }
/-- java/util/Arrays -/
def k10 : Class := { plain "java/util/Arrays" (some 0) with
  accessFlags := 49
  interfaces := #[]
  cf := some (fileOf pool10 14 #[.nestMembers #[975, 375, 113, 74]] #[{ accessFlags := 2, nameIndex := 5, descriptorIndex := 6, attributes := #[] }, { accessFlags := 9, nameIndex := 840, descriptorIndex := 858, attributes := #[] }] 49 2 #[] #[{ accessFlags := 26, nameIndex := 715, descriptorIndex := 716, attributes := #[] }, { accessFlags := 26, nameIndex := 719, descriptorIndex := 716, attributes := #[] }, { accessFlags := 4120, nameIndex := 445, descriptorIndex := 117, attributes := #[] }])
  fields := #[{ name := "MIN_ARRAY_SORT_GRAN", type := .int, accessFlags := 26, slot := 0, constantValue := 0 }, { name := "INSERTIONSORT_THRESHOLD", type := .int, accessFlags := 26, slot := 1, constantValue := 0 }, { name := "$assertionsDisabled", type := .boolean, accessFlags := 4120, slot := 2, constantValue := 0 }]
  methods := #[k10m0, k10m1]
  instanceTypes := #[]
  staticTypes := #[.int, .int, .boolean]
  resolved := Array.replicate 1029 none
  statics := none }

def pool11 : Array CpInfo := pool [(1, u "java/lang/Cloneable"), (0, .class_ 1), (0, u "java/lang/Object"), (0, .class_ 3)] 3

/-- java/lang/Cloneable -/
def k11 : Class := { plain "java/lang/Cloneable" (some 0) with
  accessFlags := 1537
  interfaces := #[]
  cf := some (fileOf pool11 2 #[] #[] 1537 4 #[] #[])
  fields := #[]
  methods := #[]
  instanceTypes := #[]
  staticTypes := #[]
  resolved := Array.replicate 8 none
  statics := none }

/-- the primitive byte -/
def k12 : Class := { plain "byte" none with kind := .primitive 'B', accessFlags := 0x411 }
/-- [B -/
def k13 : Class := { plain "[B" (some 0) with kind := .array 12 .byte, interfaces := #[11, 3], accessFlags := 1041 }

/-- the primitive int -/
def k14 : Class := { plain "int" none with kind := .primitive 'I', accessFlags := 0x411 }
/-- [I -/
def k15 : Class := { plain "[I" (some 0) with kind := .array 14 .int, interfaces := #[11, 3], accessFlags := 1041 }

/-- [Ljava/lang/Integer; -/
def k16 : Class := { plain "[Ljava/lang/Integer;" (some 0) with kind := .array 8 (.object "java/lang/Integer"), interfaces := #[11, 3], accessFlags := 1041 }

/-- [Ljava/lang/Object; -/
def k17 : Class := { plain "[Ljava/lang/Object;" (some 0) with kind := .array 0 (.object "java/lang/Object"), interfaces := #[11, 3], accessFlags := 1041 }

def heap : Heap := #[{ cls := 9, slots := #[.int 0, .int 127, .ref 1, .null, .int 0], vm := .statics 9 },
  { cls := 16, slots := #[.ref 2, .ref 3, .ref 4, .ref 5, .ref 6, .ref 7, .ref 8, .ref 9, .ref 10, .ref 11, .ref 12, .ref 13, .ref 14, .ref 15, .ref 16, .ref 17, .ref 18, .ref 19, .ref 20, .ref 21, .ref 22, .ref 23, .ref 24, .ref 25, .ref 26, .ref 27, .ref 28, .ref 29, .ref 30, .ref 31, .ref 32, .ref 33, .ref 34, .ref 35, .ref 36, .ref 37, .ref 38, .ref 39, .ref 40, .ref 41, .ref 42, .ref 43, .ref 44, .ref 45, .ref 46, .ref 47, .ref 48, .ref 49, .ref 50, .ref 51, .ref 52, .ref 53, .ref 54, .ref 55, .ref 56, .ref 57, .ref 58, .ref 59, .ref 60, .ref 61, .ref 62, .ref 63, .ref 64, .ref 65, .ref 66, .ref 67, .ref 68, .ref 69, .ref 70, .ref 71, .ref 72, .ref 73, .ref 74, .ref 75, .ref 76, .ref 77, .ref 78, .ref 79, .ref 80, .ref 81, .ref 82, .ref 83, .ref 84, .ref 85, .ref 86, .ref 87, .ref 88, .ref 89, .ref 90, .ref 91, .ref 92, .ref 93, .ref 94, .ref 95, .ref 96, .ref 97, .ref 98, .ref 99, .ref 100, .ref 101, .ref 102, .ref 103, .ref 104, .ref 105, .ref 106, .ref 107, .ref 108, .ref 109, .ref 110, .ref 111, .ref 112, .ref 113, .ref 114, .ref 115, .ref 116, .ref 117, .ref 118, .ref 119, .ref 120, .ref 121, .ref 122, .ref 123, .ref 124, .ref 125, .ref 126, .ref 127, .ref 128, .ref 129, .ref 130, .ref 131, .ref 132, .ref 133, .ref 134, .ref 135, .ref 136, .ref 137, .ref 138, .ref 139, .ref 140, .ref 141, .ref 142, .ref 143, .ref 144, .ref 145, .ref 146, .ref 147, .ref 148, .ref 149, .ref 150, .ref 151, .ref 152, .ref 153, .ref 154, .ref 155, .ref 156, .ref 157, .ref 158, .ref 159, .ref 160, .ref 161, .ref 162, .ref 163, .ref 164, .ref 165, .ref 166, .ref 167, .ref 168, .ref 169, .ref 170, .ref 171, .ref 172, .ref 173, .ref 174, .ref 175, .ref 176, .ref 177, .ref 178, .ref 179, .ref 180, .ref 181, .ref 182, .ref 183, .ref 184, .ref 185, .ref 186, .ref 187, .ref 188, .ref 189, .ref 190, .ref 191, .ref 192, .ref 193, .ref 194, .ref 195, .ref 196, .ref 197, .ref 198, .ref 199, .ref 200, .ref 201, .ref 202, .ref 203, .ref 204, .ref 205, .ref 206, .ref 207, .ref 208, .ref 209, .ref 210, .ref 211, .ref 212, .ref 213, .ref 214, .ref 215, .ref 216, .ref 217, .ref 218, .ref 219, .ref 220, .ref 221, .ref 222, .ref 223, .ref 224, .ref 225, .ref 226, .ref 227, .ref 228, .ref 229, .ref 230, .ref 231, .ref 232, .ref 233, .ref 234, .ref 235, .ref 236, .ref 237, .ref 238, .ref 239, .ref 240, .ref 241, .ref 242, .ref 243, .ref 244, .ref 245, .ref 246, .ref 247, .ref 248, .ref 249, .ref 250, .ref 251, .ref 252, .ref 253, .ref 254, .ref 255, .ref 256, .ref 257], vm := .none },
  { cls := 8, slots := #[.int (-128)], vm := .none },
  { cls := 8, slots := #[.int (-127)], vm := .none },
  { cls := 8, slots := #[.int (-126)], vm := .none },
  { cls := 8, slots := #[.int (-125)], vm := .none },
  { cls := 8, slots := #[.int (-124)], vm := .none },
  { cls := 8, slots := #[.int (-123)], vm := .none },
  { cls := 8, slots := #[.int (-122)], vm := .none },
  { cls := 8, slots := #[.int (-121)], vm := .none },
  { cls := 8, slots := #[.int (-120)], vm := .none },
  { cls := 8, slots := #[.int (-119)], vm := .none },
  { cls := 8, slots := #[.int (-118)], vm := .none },
  { cls := 8, slots := #[.int (-117)], vm := .none },
  { cls := 8, slots := #[.int (-116)], vm := .none },
  { cls := 8, slots := #[.int (-115)], vm := .none },
  { cls := 8, slots := #[.int (-114)], vm := .none },
  { cls := 8, slots := #[.int (-113)], vm := .none },
  { cls := 8, slots := #[.int (-112)], vm := .none },
  { cls := 8, slots := #[.int (-111)], vm := .none },
  { cls := 8, slots := #[.int (-110)], vm := .none },
  { cls := 8, slots := #[.int (-109)], vm := .none },
  { cls := 8, slots := #[.int (-108)], vm := .none },
  { cls := 8, slots := #[.int (-107)], vm := .none },
  { cls := 8, slots := #[.int (-106)], vm := .none },
  { cls := 8, slots := #[.int (-105)], vm := .none },
  { cls := 8, slots := #[.int (-104)], vm := .none },
  { cls := 8, slots := #[.int (-103)], vm := .none },
  { cls := 8, slots := #[.int (-102)], vm := .none },
  { cls := 8, slots := #[.int (-101)], vm := .none },
  { cls := 8, slots := #[.int (-100)], vm := .none },
  { cls := 8, slots := #[.int (-99)], vm := .none },
  { cls := 8, slots := #[.int (-98)], vm := .none },
  { cls := 8, slots := #[.int (-97)], vm := .none },
  { cls := 8, slots := #[.int (-96)], vm := .none },
  { cls := 8, slots := #[.int (-95)], vm := .none },
  { cls := 8, slots := #[.int (-94)], vm := .none },
  { cls := 8, slots := #[.int (-93)], vm := .none },
  { cls := 8, slots := #[.int (-92)], vm := .none },
  { cls := 8, slots := #[.int (-91)], vm := .none },
  { cls := 8, slots := #[.int (-90)], vm := .none },
  { cls := 8, slots := #[.int (-89)], vm := .none },
  { cls := 8, slots := #[.int (-88)], vm := .none },
  { cls := 8, slots := #[.int (-87)], vm := .none },
  { cls := 8, slots := #[.int (-86)], vm := .none },
  { cls := 8, slots := #[.int (-85)], vm := .none },
  { cls := 8, slots := #[.int (-84)], vm := .none },
  { cls := 8, slots := #[.int (-83)], vm := .none },
  { cls := 8, slots := #[.int (-82)], vm := .none },
  { cls := 8, slots := #[.int (-81)], vm := .none },
  { cls := 8, slots := #[.int (-80)], vm := .none },
  { cls := 8, slots := #[.int (-79)], vm := .none },
  { cls := 8, slots := #[.int (-78)], vm := .none },
  { cls := 8, slots := #[.int (-77)], vm := .none },
  { cls := 8, slots := #[.int (-76)], vm := .none },
  { cls := 8, slots := #[.int (-75)], vm := .none },
  { cls := 8, slots := #[.int (-74)], vm := .none },
  { cls := 8, slots := #[.int (-73)], vm := .none },
  { cls := 8, slots := #[.int (-72)], vm := .none },
  { cls := 8, slots := #[.int (-71)], vm := .none },
  { cls := 8, slots := #[.int (-70)], vm := .none },
  { cls := 8, slots := #[.int (-69)], vm := .none },
  { cls := 8, slots := #[.int (-68)], vm := .none },
  { cls := 8, slots := #[.int (-67)], vm := .none },
  { cls := 8, slots := #[.int (-66)], vm := .none },
  { cls := 8, slots := #[.int (-65)], vm := .none },
  { cls := 8, slots := #[.int (-64)], vm := .none },
  { cls := 8, slots := #[.int (-63)], vm := .none },
  { cls := 8, slots := #[.int (-62)], vm := .none },
  { cls := 8, slots := #[.int (-61)], vm := .none },
  { cls := 8, slots := #[.int (-60)], vm := .none },
  { cls := 8, slots := #[.int (-59)], vm := .none },
  { cls := 8, slots := #[.int (-58)], vm := .none },
  { cls := 8, slots := #[.int (-57)], vm := .none },
  { cls := 8, slots := #[.int (-56)], vm := .none },
  { cls := 8, slots := #[.int (-55)], vm := .none },
  { cls := 8, slots := #[.int (-54)], vm := .none },
  { cls := 8, slots := #[.int (-53)], vm := .none },
  { cls := 8, slots := #[.int (-52)], vm := .none },
  { cls := 8, slots := #[.int (-51)], vm := .none },
  { cls := 8, slots := #[.int (-50)], vm := .none },
  { cls := 8, slots := #[.int (-49)], vm := .none },
  { cls := 8, slots := #[.int (-48)], vm := .none },
  { cls := 8, slots := #[.int (-47)], vm := .none },
  { cls := 8, slots := #[.int (-46)], vm := .none },
  { cls := 8, slots := #[.int (-45)], vm := .none },
  { cls := 8, slots := #[.int (-44)], vm := .none },
  { cls := 8, slots := #[.int (-43)], vm := .none },
  { cls := 8, slots := #[.int (-42)], vm := .none },
  { cls := 8, slots := #[.int (-41)], vm := .none },
  { cls := 8, slots := #[.int (-40)], vm := .none },
  { cls := 8, slots := #[.int (-39)], vm := .none },
  { cls := 8, slots := #[.int (-38)], vm := .none },
  { cls := 8, slots := #[.int (-37)], vm := .none },
  { cls := 8, slots := #[.int (-36)], vm := .none },
  { cls := 8, slots := #[.int (-35)], vm := .none },
  { cls := 8, slots := #[.int (-34)], vm := .none },
  { cls := 8, slots := #[.int (-33)], vm := .none },
  { cls := 8, slots := #[.int (-32)], vm := .none },
  { cls := 8, slots := #[.int (-31)], vm := .none },
  { cls := 8, slots := #[.int (-30)], vm := .none },
  { cls := 8, slots := #[.int (-29)], vm := .none },
  { cls := 8, slots := #[.int (-28)], vm := .none },
  { cls := 8, slots := #[.int (-27)], vm := .none },
  { cls := 8, slots := #[.int (-26)], vm := .none },
  { cls := 8, slots := #[.int (-25)], vm := .none },
  { cls := 8, slots := #[.int (-24)], vm := .none },
  { cls := 8, slots := #[.int (-23)], vm := .none },
  { cls := 8, slots := #[.int (-22)], vm := .none },
  { cls := 8, slots := #[.int (-21)], vm := .none },
  { cls := 8, slots := #[.int (-20)], vm := .none },
  { cls := 8, slots := #[.int (-19)], vm := .none },
  { cls := 8, slots := #[.int (-18)], vm := .none },
  { cls := 8, slots := #[.int (-17)], vm := .none },
  { cls := 8, slots := #[.int (-16)], vm := .none },
  { cls := 8, slots := #[.int (-15)], vm := .none },
  { cls := 8, slots := #[.int (-14)], vm := .none },
  { cls := 8, slots := #[.int (-13)], vm := .none },
  { cls := 8, slots := #[.int (-12)], vm := .none },
  { cls := 8, slots := #[.int (-11)], vm := .none },
  { cls := 8, slots := #[.int (-10)], vm := .none },
  { cls := 8, slots := #[.int (-9)], vm := .none },
  { cls := 8, slots := #[.int (-8)], vm := .none },
  { cls := 8, slots := #[.int (-7)], vm := .none },
  { cls := 8, slots := #[.int (-6)], vm := .none },
  { cls := 8, slots := #[.int (-5)], vm := .none },
  { cls := 8, slots := #[.int (-4)], vm := .none },
  { cls := 8, slots := #[.int (-3)], vm := .none },
  { cls := 8, slots := #[.int (-2)], vm := .none },
  { cls := 8, slots := #[.int (-1)], vm := .none },
  { cls := 8, slots := #[.int 0], vm := .none },
  { cls := 8, slots := #[.int 1], vm := .none },
  { cls := 8, slots := #[.int 2], vm := .none },
  { cls := 8, slots := #[.int 3], vm := .none },
  { cls := 8, slots := #[.int 4], vm := .none },
  { cls := 8, slots := #[.int 5], vm := .none },
  { cls := 8, slots := #[.int 6], vm := .none },
  { cls := 8, slots := #[.int 7], vm := .none },
  { cls := 8, slots := #[.int 8], vm := .none },
  { cls := 8, slots := #[.int 9], vm := .none },
  { cls := 8, slots := #[.int 10], vm := .none },
  { cls := 8, slots := #[.int 11], vm := .none },
  { cls := 8, slots := #[.int 12], vm := .none },
  { cls := 8, slots := #[.int 13], vm := .none },
  { cls := 8, slots := #[.int 14], vm := .none },
  { cls := 8, slots := #[.int 15], vm := .none },
  { cls := 8, slots := #[.int 16], vm := .none },
  { cls := 8, slots := #[.int 17], vm := .none },
  { cls := 8, slots := #[.int 18], vm := .none },
  { cls := 8, slots := #[.int 19], vm := .none },
  { cls := 8, slots := #[.int 20], vm := .none },
  { cls := 8, slots := #[.int 21], vm := .none },
  { cls := 8, slots := #[.int 22], vm := .none },
  { cls := 8, slots := #[.int 23], vm := .none },
  { cls := 8, slots := #[.int 24], vm := .none },
  { cls := 8, slots := #[.int 25], vm := .none },
  { cls := 8, slots := #[.int 26], vm := .none },
  { cls := 8, slots := #[.int 27], vm := .none },
  { cls := 8, slots := #[.int 28], vm := .none },
  { cls := 8, slots := #[.int 29], vm := .none },
  { cls := 8, slots := #[.int 30], vm := .none },
  { cls := 8, slots := #[.int 31], vm := .none },
  { cls := 8, slots := #[.int 32], vm := .none },
  { cls := 8, slots := #[.int 33], vm := .none },
  { cls := 8, slots := #[.int 34], vm := .none },
  { cls := 8, slots := #[.int 35], vm := .none },
  { cls := 8, slots := #[.int 36], vm := .none },
  { cls := 8, slots := #[.int 37], vm := .none },
  { cls := 8, slots := #[.int 38], vm := .none },
  { cls := 8, slots := #[.int 39], vm := .none },
  { cls := 8, slots := #[.int 40], vm := .none },
  { cls := 8, slots := #[.int 41], vm := .none },
  { cls := 8, slots := #[.int 42], vm := .none },
  { cls := 8, slots := #[.int 43], vm := .none },
  { cls := 8, slots := #[.int 44], vm := .none },
  { cls := 8, slots := #[.int 45], vm := .none },
  { cls := 8, slots := #[.int 46], vm := .none },
  { cls := 8, slots := #[.int 47], vm := .none },
  { cls := 8, slots := #[.int 48], vm := .none },
  { cls := 8, slots := #[.int 49], vm := .none },
  { cls := 8, slots := #[.int 50], vm := .none },
  { cls := 8, slots := #[.int 51], vm := .none },
  { cls := 8, slots := #[.int 52], vm := .none },
  { cls := 8, slots := #[.int 53], vm := .none },
  { cls := 8, slots := #[.int 54], vm := .none },
  { cls := 8, slots := #[.int 55], vm := .none },
  { cls := 8, slots := #[.int 56], vm := .none },
  { cls := 8, slots := #[.int 57], vm := .none },
  { cls := 8, slots := #[.int 58], vm := .none },
  { cls := 8, slots := #[.int 59], vm := .none },
  { cls := 8, slots := #[.int 60], vm := .none },
  { cls := 8, slots := #[.int 61], vm := .none },
  { cls := 8, slots := #[.int 62], vm := .none },
  { cls := 8, slots := #[.int 63], vm := .none },
  { cls := 8, slots := #[.int 64], vm := .none },
  { cls := 8, slots := #[.int 65], vm := .none },
  { cls := 8, slots := #[.int 66], vm := .none },
  { cls := 8, slots := #[.int 67], vm := .none },
  { cls := 8, slots := #[.int 68], vm := .none },
  { cls := 8, slots := #[.int 69], vm := .none },
  { cls := 8, slots := #[.int 70], vm := .none },
  { cls := 8, slots := #[.int 71], vm := .none },
  { cls := 8, slots := #[.int 72], vm := .none },
  { cls := 8, slots := #[.int 73], vm := .none },
  { cls := 8, slots := #[.int 74], vm := .none },
  { cls := 8, slots := #[.int 75], vm := .none },
  { cls := 8, slots := #[.int 76], vm := .none },
  { cls := 8, slots := #[.int 77], vm := .none },
  { cls := 8, slots := #[.int 78], vm := .none },
  { cls := 8, slots := #[.int 79], vm := .none },
  { cls := 8, slots := #[.int 80], vm := .none },
  { cls := 8, slots := #[.int 81], vm := .none },
  { cls := 8, slots := #[.int 82], vm := .none },
  { cls := 8, slots := #[.int 83], vm := .none },
  { cls := 8, slots := #[.int 84], vm := .none },
  { cls := 8, slots := #[.int 85], vm := .none },
  { cls := 8, slots := #[.int 86], vm := .none },
  { cls := 8, slots := #[.int 87], vm := .none },
  { cls := 8, slots := #[.int 88], vm := .none },
  { cls := 8, slots := #[.int 89], vm := .none },
  { cls := 8, slots := #[.int 90], vm := .none },
  { cls := 8, slots := #[.int 91], vm := .none },
  { cls := 8, slots := #[.int 92], vm := .none },
  { cls := 8, slots := #[.int 93], vm := .none },
  { cls := 8, slots := #[.int 94], vm := .none },
  { cls := 8, slots := #[.int 95], vm := .none },
  { cls := 8, slots := #[.int 96], vm := .none },
  { cls := 8, slots := #[.int 97], vm := .none },
  { cls := 8, slots := #[.int 98], vm := .none },
  { cls := 8, slots := #[.int 99], vm := .none },
  { cls := 8, slots := #[.int 100], vm := .none },
  { cls := 8, slots := #[.int 101], vm := .none },
  { cls := 8, slots := #[.int 102], vm := .none },
  { cls := 8, slots := #[.int 103], vm := .none },
  { cls := 8, slots := #[.int 104], vm := .none },
  { cls := 8, slots := #[.int 105], vm := .none },
  { cls := 8, slots := #[.int 106], vm := .none },
  { cls := 8, slots := #[.int 107], vm := .none },
  { cls := 8, slots := #[.int 108], vm := .none },
  { cls := 8, slots := #[.int 109], vm := .none },
  { cls := 8, slots := #[.int 110], vm := .none },
  { cls := 8, slots := #[.int 111], vm := .none },
  { cls := 8, slots := #[.int 112], vm := .none },
  { cls := 8, slots := #[.int 113], vm := .none },
  { cls := 8, slots := #[.int 114], vm := .none },
  { cls := 8, slots := #[.int 115], vm := .none },
  { cls := 8, slots := #[.int 116], vm := .none },
  { cls := 8, slots := #[.int 117], vm := .none },
  { cls := 8, slots := #[.int 118], vm := .none },
  { cls := 8, slots := #[.int 119], vm := .none },
  { cls := 8, slots := #[.int 120], vm := .none },
  { cls := 8, slots := #[.int 121], vm := .none },
  { cls := 8, slots := #[.int 122], vm := .none },
  { cls := 8, slots := #[.int 123], vm := .none },
  { cls := 8, slots := #[.int 124], vm := .none },
  { cls := 8, slots := #[.int 125], vm := .none },
  { cls := 8, slots := #[.int 126], vm := .none },
  { cls := 8, slots := #[.int 127], vm := .none }]
def classes : Array Class := #[k0, k1, k2, k3, k4, k5, k6, k7, k8, k9, k10, k11, k12, k13, k14, k15, k16, k17]
def interned : List (Array UInt16 × Addr) := []
def slotsUsed : Nat := 517
def theMethod : MethodId := ⟨1, 1⟩
def args0 : Array Value := #[.int 5, .int 5, .int 5, .int 5, .int 5]
def aboutOver (below : List Frame) : State where
  vm := { classes := classes, interned := interned.toArray }
  heap := heap
  slotsUsed := slotsUsed
  threads := #[{ frames := .invoking theMethod args0 :: below }]
def below0 : List Frame := [.native { method := ⟨0, 0⟩, args := #[] }]
def about1 : State := aboutOver below0
def p0 : Program := .bare "" "" ""
def e0 : Env := launch0.env 0 0 0
theorem w_frames : about1.frames = Frame.invoking theMethod args0 :: below0 := rfl
set_option maxRecDepth 65536 in
theorem w_args : argsFit about1.vm theMethod args0 = true := by decide +kernel
set_option maxRecDepth 65536 in
theorem w_heap : heapFits about1 = true := by decide +kernel
set_option maxRecDepth 65536 in
theorem w_runnable : about1.curStatus? = some .runnable := by decide +kernel
set_option maxRecDepth 65536 in
theorem w_alone : about1.alone = true := by decide +kernel
set_option maxRecDepth 65536 in
theorem w_named : about1.methodNamed? x = some theMethod := by decide +kernel
set_option maxRecDepth 65536 in
theorem w_hears : about1.hears theMethod below0 = true := by decide +kernel
set_option maxRecDepth 65536 in
theorem w_ripe : about1.ripe theMethod args0 below0 = true := by decide +kernel
theorem w_running : about1.status = .running := rfl
set_option maxRecDepth 65536 in
theorem w_room : about1.hasRoom e0.platform room_1 = true :=
  launch0.hasRoom_least _ room_1 (by decide +kernel) (by decide +kernel) (by decide +kernel) (by decide +kernel) (by decide +kernel) (by decide +kernel)
theorem allAtoms_all (ts : List Jvm.Cond) (a : Array Jvm.Value) (st : Jvm.State) : (allAtoms ts).before a st = ts.all (fun c => c.before a st) := by
  induction ts with
  | nil => rfl
  | cons c t ih =>
    show (Jvm.Cond.and c (allAtoms t)).before a st = _
    rw [Jvm.Cond.before_and, ih, List.all_cons]
def words1 : List Jvm.Cond := Jvm.Cond.code x code maxLocals ret :: tables_1
/-- a 'code' word, met by the world's own term for the bytes: nothing is compared byte by byte -/
theorem code_word {y : MethodName} {bytes : ByteArray} {mx : Nat} {rt : Option FieldType} {a : Array Value} {s : State} {m : MethodId} {meth : Method} {c : Code} (h1 : s.methodNamed? y = some m) (h2 : s.vm.method? m = some meth) (h3 : meth.code = some c) (h4 : c.code = bytes)
    (h5 : (c.maxLocals == mx && c.exceptionTable.isEmpty && decide (c.maxStack ≤ mostOperands) && decide (meth.sig.returnType = rt) && !meth.locks && decide (parseMethodDescriptor y.desc = some meth.sig)) = true) : (Jvm.Cond.code y bytes mx rt).before a s = true := by
  simp only [Bool.and_eq_true, beq_iff_eq, Bool.not_eq_true', decide_eq_true_eq] at h5
  obtain ⟨⟨⟨⟨⟨g1, g2⟩, g3⟩, g4⟩, g5⟩, g6⟩ := h5
  simp [Cond.before, Cond.holds, Cond.value, h1, h2, h3, h4, g1, g2, g3, g4, g5, g6]
def isCode : Jvm.Cond → Bool
  | .code _ _ _ _ => true
  | _ => false
theorem all_split {L : List Jvm.Cond} {P : Jvm.Cond → Bool} (h1 : L.all (fun c => isCode c || P c) = true) (h2 : ∀ c ∈ L.filter isCode, P c = true) : L.all P = true := by
  refine List.all_eq_true.mpr fun c hc => ?_
  have h := List.all_eq_true.mp h1 c hc
  rcases Bool.eq_false_or_eq_true (isCode c) with hi | hi
  · exact h2 c (List.mem_filter.mpr ⟨hc, hi⟩)
  · simpa [hi] using h
set_option maxRecDepth 65536 in
theorem w_c0 : (Jvm.Cond.code x code maxLocals ret).before args0 about1 = true := code_word (m := ⟨1, 1⟩) (meth := k1m1) (c := k1c1) (by decide +kernel) rfl rfl rfl (by decide +kernel)
set_option maxRecDepth 65536 in
theorem w_c1 : (Jvm.Cond.code ({ cls := "com/example/nehaba/nehaba/input/KeptValues", name := "<init>", desc := "(I)V" } : Jvm.MethodName) prog_31_method_1_code (3 : Nat) (Option.none : Option Jvm.ClassFile.FieldType)).before args0 about1 = true := code_word (m := ⟨2, 0⟩) (meth := k2m0) (c := k2c0) (by decide +kernel) rfl rfl rfl (by decide +kernel)
set_option maxRecDepth 65536 in
theorem w_c2 : (Jvm.Cond.code ({ cls := "java/lang/Object", name := "<init>", desc := "()V" } : Jvm.MethodName) object_method_1_code (1 : Nat) (Option.none : Option Jvm.ClassFile.FieldType)).before args0 about1 = true := code_word (m := ⟨0, 0⟩) (meth := k0m0) (c := k0c0) (by decide +kernel) rfl rfl rfl (by decide +kernel)
set_option maxRecDepth 65536 in
theorem w_c3 : (Jvm.Cond.code ({ cls := "java/lang/Integer", name := "highestOneBit", desc := "(I)I" } : Jvm.MethodName) jdk_33_method_45_code (1 : Nat) (Option.some Jvm.ClassFile.FieldType.int)).before args0 about1 = true := code_word (m := ⟨8, 1⟩) (meth := k8m1) (c := k8c1) (by decide +kernel) rfl rfl rfl (by decide +kernel)
set_option maxRecDepth 65536 in
theorem w_c4 : (Jvm.Cond.code ({ cls := "java/lang/Integer", name := "numberOfLeadingZeros", desc := "(I)I" } : Jvm.MethodName) jdk_33_method_47_code (2 : Nat) (Option.some Jvm.ClassFile.FieldType.int)).before args0 about1 = true := code_word (m := ⟨8, 2⟩) (meth := k8m2) (c := k8c2) (by decide +kernel) rfl rfl rfl (by decide +kernel)
set_option maxRecDepth 65536 in
theorem w_c5 : (Jvm.Cond.code ({ cls := "com/example/nehaba/nehaba/input/KeptValues", name := "place", desc := "(I)I" } : Jvm.MethodName) prog_31_method_2_code (2 : Nat) (Option.some Jvm.ClassFile.FieldType.int)).before args0 about1 = true := code_word (m := ⟨2, 1⟩) (meth := k2m1) (c := k2c1) (by decide +kernel) rfl rfl rfl (by decide +kernel)
set_option maxRecDepth 65536 in
theorem w_c6 : (Jvm.Cond.code ({ cls := "com/example/nehaba/nehaba/input/KeptValues", name := "first", desc := "(I)I" } : Jvm.MethodName) prog_31_method_9_code (2 : Nat) (Option.some Jvm.ClassFile.FieldType.int)).before args0 about1 = true := code_word (m := ⟨2, 4⟩) (meth := k2m4) (c := k2c4) (by decide +kernel) rfl rfl rfl (by decide +kernel)
set_option maxRecDepth 65536 in
theorem w_c7 : (Jvm.Cond.code ({ cls := "com/example/nehaba/nehaba/input/KeptValues", name := "seek", desc := "(II)I" } : Jvm.MethodName) prog_31_method_10_code (3 : Nat) (Option.some Jvm.ClassFile.FieldType.int)).before args0 about1 = true := code_word (m := ⟨2, 5⟩) (meth := k2m5) (c := k2c5) (by decide +kernel) rfl rfl rfl (by decide +kernel)
set_option maxRecDepth 65536 in
theorem w_c8 : (Jvm.Cond.code ({ cls := "com/example/nehaba/nehaba/input/KeptValues", name := "holds", desc := "(I)Z" } : Jvm.MethodName) prog_31_method_4_code (2 : Nat) (Option.some Jvm.ClassFile.FieldType.boolean)).before args0 about1 = true := code_word (m := ⟨2, 2⟩) (meth := k2m2) (c := k2c2) (by decide +kernel) rfl rfl rfl (by decide +kernel)
set_option maxRecDepth 65536 in
theorem w_c9 : (Jvm.Cond.code ({ cls := "java/lang/Integer", name := "valueOf", desc := "(I)Ljava/lang/Integer;" } : Jvm.MethodName) jdk_33_method_22_code (1 : Nat) (Option.some (Jvm.ClassFile.FieldType.object "java/lang/Integer"))).before args0 about1 = true := code_word (m := ⟨8, 0⟩) (meth := k8m0) (c := k8c0) (by decide +kernel) rfl rfl rfl (by decide +kernel)
set_option maxRecDepth 65536 in
theorem w_c10 : (Jvm.Cond.code ({ cls := "com/example/nehaba/nehaba/input/KeptValues", name := "put", desc := "(ILjava/lang/Object;Ljava/lang/Object;)Ljava/lang/Object;" } : Jvm.MethodName) prog_31_method_7_code (5 : Nat) (Option.some (Jvm.ClassFile.FieldType.object "java/lang/Object"))).before args0 about1 = true := code_word (m := ⟨2, 3⟩) (meth := k2m3) (c := k2c3) (by decide +kernel) rfl rfl rfl (by decide +kernel)
set_option maxRecDepth 65536 in
theorem w_c11 : (Jvm.Cond.code ({ cls := "java/util/Arrays", name := "fill", desc := "([Ljava/lang/Object;Ljava/lang/Object;)V" } : Jvm.MethodName) jdk_65_method_117_code (4 : Nat) (Option.none : Option Jvm.ClassFile.FieldType)).before args0 about1 = true := code_word (m := ⟨10, 1⟩) (meth := k10m1) (c := k10c1) (by decide +kernel) rfl rfl rfl (by decide +kernel)
set_option maxRecDepth 65536 in
theorem w_c12 : (Jvm.Cond.code ({ cls := "com/example/nehaba/nehaba/input/KeptValues", name := "after", desc := "(I)I" } : Jvm.MethodName) prog_31_method_11_code (2 : Nat) (Option.some Jvm.ClassFile.FieldType.int)).before args0 about1 = true := code_word (m := ⟨2, 6⟩) (meth := k2m6) (c := k2c6) (by decide +kernel) rfl rfl rfl (by decide +kernel)
def codes1 : List Jvm.Cond := [Jvm.Cond.code x code maxLocals ret, Jvm.Cond.code ({ cls := "com/example/nehaba/nehaba/input/KeptValues", name := "<init>", desc := "(I)V" } : Jvm.MethodName) prog_31_method_1_code (3 : Nat) (Option.none : Option Jvm.ClassFile.FieldType), Jvm.Cond.code ({ cls := "java/lang/Object", name := "<init>", desc := "()V" } : Jvm.MethodName) object_method_1_code (1 : Nat) (Option.none : Option Jvm.ClassFile.FieldType), Jvm.Cond.code ({ cls := "java/lang/Integer", name := "highestOneBit", desc := "(I)I" } : Jvm.MethodName) jdk_33_method_45_code (1 : Nat) (Option.some Jvm.ClassFile.FieldType.int), Jvm.Cond.code ({ cls := "java/lang/Integer", name := "numberOfLeadingZeros", desc := "(I)I" } : Jvm.MethodName) jdk_33_method_47_code (2 : Nat) (Option.some Jvm.ClassFile.FieldType.int), Jvm.Cond.code ({ cls := "com/example/nehaba/nehaba/input/KeptValues", name := "place", desc := "(I)I" } : Jvm.MethodName) prog_31_method_2_code (2 : Nat) (Option.some Jvm.ClassFile.FieldType.int), Jvm.Cond.code ({ cls := "com/example/nehaba/nehaba/input/KeptValues", name := "first", desc := "(I)I" } : Jvm.MethodName) prog_31_method_9_code (2 : Nat) (Option.some Jvm.ClassFile.FieldType.int), Jvm.Cond.code ({ cls := "com/example/nehaba/nehaba/input/KeptValues", name := "seek", desc := "(II)I" } : Jvm.MethodName) prog_31_method_10_code (3 : Nat) (Option.some Jvm.ClassFile.FieldType.int), Jvm.Cond.code ({ cls := "com/example/nehaba/nehaba/input/KeptValues", name := "holds", desc := "(I)Z" } : Jvm.MethodName) prog_31_method_4_code (2 : Nat) (Option.some Jvm.ClassFile.FieldType.boolean), Jvm.Cond.code ({ cls := "java/lang/Integer", name := "valueOf", desc := "(I)Ljava/lang/Integer;" } : Jvm.MethodName) jdk_33_method_22_code (1 : Nat) (Option.some (Jvm.ClassFile.FieldType.object "java/lang/Integer")), Jvm.Cond.code ({ cls := "com/example/nehaba/nehaba/input/KeptValues", name := "put", desc := "(ILjava/lang/Object;Ljava/lang/Object;)Ljava/lang/Object;" } : Jvm.MethodName) prog_31_method_7_code (5 : Nat) (Option.some (Jvm.ClassFile.FieldType.object "java/lang/Object")), Jvm.Cond.code ({ cls := "java/util/Arrays", name := "fill", desc := "([Ljava/lang/Object;Ljava/lang/Object;)V" } : Jvm.MethodName) jdk_65_method_117_code (4 : Nat) (Option.none : Option Jvm.ClassFile.FieldType), Jvm.Cond.code ({ cls := "com/example/nehaba/nehaba/input/KeptValues", name := "after", desc := "(I)I" } : Jvm.MethodName) prog_31_method_11_code (2 : Nat) (Option.some Jvm.ClassFile.FieldType.int)]
set_option maxRecDepth 65536 in
theorem codes_eq : words1.filter isCode = codes1 := rfl
theorem w_codes : ∀ c ∈ words1.filter isCode, c.before args0 about1 = true := by
  rw [codes_eq]
  intro c hc
  simp only [codes1, List.mem_cons, List.not_mem_nil, or_false] at hc
  rcases hc with rfl | rfl | rfl | rfl | rfl | rfl | rfl | rfl | rfl | rfl | rfl | rfl | rfl
  · exact w_c0
  · exact w_c1
  · exact w_c2
  · exact w_c3
  · exact w_c4
  · exact w_c5
  · exact w_c6
  · exact w_c7
  · exact w_c8
  · exact w_c9
  · exact w_c10
  · exact w_c11
  · exact w_c12
set_option maxRecDepth 65536 in
theorem w_t1 : (words1.take 24).all (fun c => isCode c || c.before args0 about1) = true := by decide +kernel
set_option maxRecDepth 65536 in
theorem w_t2 : ((words1.drop 24).take 24).all (fun c => isCode c || c.before args0 about1) = true := by decide +kernel
set_option maxRecDepth 65536 in
theorem w_t3 : (((words1.drop 24).drop 24).take 24).all (fun c => isCode c || c.before args0 about1) = true := by decide +kernel
set_option maxRecDepth 65536 in
theorem w_t4 : (((words1.drop 24).drop 24).drop 24).all (fun c => isCode c || c.before args0 about1) = true := by decide +kernel
theorem w_tables : (allAtoms (Jvm.Cond.code x code maxLocals ret :: tables_1)).before args0 about1 = true := by
  rw [allAtoms_all]
  show words1.all (fun c => c.before args0 about1) = true
  refine all_split ?_ w_codes
  rw [← List.take_append_drop 24 words1, List.all_append, w_t1, ← List.take_append_drop 24 (words1.drop 24), List.all_append, w_t2, ← List.take_append_drop 24 ((words1.drop 24).drop 24), List.all_append, w_t3, w_t4]
  rfl
set_option maxRecDepth 65536 in
theorem w_rest : rest_1_c.before args0 about1 = true := by decide +kernel
set_option maxRecDepth 65536 in
theorem w_case : (Jvm.Cond.and given_1 narrow_1).before args0 about1 = true := by decide +kernel
theorem w_applies : (headSpec (Jvm.Cond.code x code maxLocals ret :: tables_1) room_1).applies x e0.platform about1 = true :=
  (Spec.applies_iff w_frames).mpr ⟨w_running, w_runnable, w_alone, w_named, w_hears, w_ripe, w_room, w_tables⟩
theorem atStart : AtStart classFile x code maxLocals ret World_1 tables_1 room_1 Calls_1 rest_1 Pre_1 launch0 p0 e0 about1 theMethod args0 below0 :=
  ⟨lists_1, trivial, launch0.admits_env _ _ _, launch0.least_env, fairChoices_fair.cas, fairChoices_fair.clock, w_frames, w_args, w_heap, w_applies, trivial, w_rest, w_case⟩
end start1
theorem witness_1 : WitnessClaimed_1 := ⟨start1.p0, start1.e0, start1.about1, start1.theMethod, start1.args0, start1.below0, start1.atStart⟩
end Jvm.Pilot.@@N@@
