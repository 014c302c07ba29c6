import JvmDerived
import JvmDerived.Pilot.@@N@@Statement
import JvmDerived.Pilot.@@N@@Code
set_option linter.unusedVariables false
set_option linter.unusedSimpArgs false
@@BLOCK:NumsL.lean.txt@@
namespace Jvm.Pilot.@@N@@
open Jvm Jvm.ClassFile Sem Op Lib Jvm.Free Jvm.Stand Jvm.LawKit Jvm.RoadKit Bundle Jvm.Pilot.@@N@@.Jvm.D
section Own
variable {p : Program} {l : Launch} {e : Env} {R : Room} {s : State} {m : MethodId} {args : Array Value} {below : List Frame} {meth : Method} {c : Code} {T : State} {locs : List Loc} {cells slots cl sl : Nat} {Q : Option Value → Heap → List Loc → Prop}
/-- from the state S the invocation comes to its end, returns, and Q holds of what it returned and left -/
def Goes (p : Program) (e : Env) (below : List Frame) (s : State) (cl sl : Nat) (Q : Option Value → Heap → List Loc → Prop) (S : State) : Prop :=
  ∃ s₂ o, Steps p.tables e below S s₂ ∧ s₂.status = .running ∧ Ended s₂ below o ∧ ∃ v L, o = .returned v ∧ Q v s₂.heap L ∧ FrameEnd s o s₂ L cl sl
theorem Goes.step {S S' : State} (h : ∀ t, Steps p.tables e below S' t → Steps p.tables e below S t) (k : Goes p e below s cl sl Q S') : Goes p e below s cl sl Q S := by
  obtain ⟨s₂, o, a, b⟩ := k
  exact ⟨s₂, o, h _ a, b⟩
theorem Goes.back {S S' : State} (h : Steps p.tables e below S S') (k : Goes p e below s cl sl Q S') : Goes p e below s cl sl Q S := Goes.step (fun _ q => h.trans q) k
theorem Goes.ret (X : Stand p l e R s m args below meth c T locs cells slots) (hx : p.tables.exec = Jvm.exec) (hlk : meth.locks = false) {pc : Nat} {Ls : Array Slot} {w : Value} {t : FieldType} {i : Instr} {rest : List Value} (hret : meth.sig.returnType = some t) (hn : narrow t w = w)
    (hi : (i = .ireturn ∧ (t = .int ∨ t = .boolean ∨ t = .byte ∨ t = .char ∨ t = .short) ∧ ∃ z, w = .int z) ∨ (i = .lreturn ∧ t = .long ∧ ∃ z, w = .long z) ∨ (i = .dreturn ∧ t = .double ∧ ∃ z, w = .double z) ∨ (i = .freturn ∧ t = .float ∧ ∃ z, w = .float z) ∨ (i = .areturn ∧ t.isReference = true ∧ w.isRef = true))
    (hd : decode c.code pc = .ok (i, 1)) (hQ : Q (some w) T.heap locs) (hc : cells ≤ cl) (hs : slots ≤ sl) : Goes p e below s cl sl Q (T.setTop (mkF m pc Ls (w :: rest))) := by
  obtain ⟨fs, hr, hrun, hended, hW, hsame⟩ := X.leave (v := some w) (fun h => by rw [hret] at h; cases h) hlk
  exact ⟨_, _, retOut X hx hret hn hi hd hr, hrun, hended, _, _, rfl, hQ, ⟨_, rfl⟩, hW, hsame.mono hc hs⟩
theorem Goes.retV (X : Stand p l e R s m args below meth c T locs cells slots) (hx : p.tables.exec = Jvm.exec) (hlk : meth.locks = false) {pc : Nat} {Ls : Array Slot} (hret : meth.sig.returnType = none)
    (hd : decode c.code pc = .ok (.return_, 1)) (hQ : Q none T.heap locs) (hc : cells ≤ cl) (hs : slots ≤ sl) : Goes p e below s cl sl Q (T.setTop (mkF m pc Ls [])) := by
  obtain ⟨fs, hr, hrun, hended, hW, hsame⟩ := X.leave (v := none) (fun _ => rfl) hlk
  exact ⟨_, _, X.returnOut hx hret hd hr, hrun, hended, _, _, rfl, hQ, ⟨_, rfl⟩, hW, hsame.mono hc hs⟩
theorem own_eqInt {args : Array Value} {s : State} {t : Term} {k : Int32} (h : (Cond.eq t (.int k)).value args s none s [] = some true) : t.eval args s none [] s = some (.int k) := by
  obtain ⟨x, y, hx, hy, -, k2⟩ := cmp_v (Or.inl h)
  obtain rfl : y = .int k := (Option.some.inj hy).symm
  obtain ⟨z, rfl⟩ := k2
  have e : (Cond.eq t (.int k)).value args s none s [] = some (decide (z = k)) := by simp [Cond.value, hx, hy]
  rw [hx, gotT e h]
theorem own_eqLong {args : Array Value} {s : State} {t : Term} {k : Int64} (h : (Cond.eq t (.long k)).value args s none s [] = some true) : t.eval args s none [] s = some (.long k) := by
  obtain ⟨x, y, hx, hy, -, k2⟩ := cmp_v (Or.inl h)
  obtain rfl : y = .long k := (Option.some.inj hy).symm
  obtain ⟨z, rfl⟩ := k2
  rw [hx, gotT (eq_L hx hy) h]
theorem own_neFld {Z : State} {h : Heap} {a b : Addr} {C n d : String} {x y : Int32} (F : Fld Z h a C n d (.int x)) (G : Fld Z h b C n d (.int y)) (q : x ≠ y) : a ≠ b := fun e => by
  subst e
  obtain ⟨cell, cf, k, i, f, h1, h2, -, -, -, -, h7⟩ := F
  obtain ⟨cell', cf', k', i', f', g1, g2, -, -, -, -, g7⟩ := G
  cases h1.symm.trans g1
  cases h2.symm.trans g2
  rw [h7] at g7
  injection g7 with g8
  injection g8 with g9
  exact q g9
theorem own_miss1 {k : Int32} {a : Int} (b : Int32) (hb : b.toInt = a) (h : ¬ k = b) : a ≠ k.toInt := fun q => h (Int32.toInt_inj.mp (by rw [hb, q]))
theorem own_find3 {k : Int32} {a b c' o1 o2 o3 : Int} {a' b' d' : Int32} (ha : ¬ k = a') (hb : ¬ k = b') (hc : ¬ k = d') (ea : a'.toInt = a := by rfl) (eb : b'.toInt = b := by rfl) (ec : d'.toInt = c' := by rfl) : (#[(a, o1), (b, o2), (c', o3)] : Array (Int × Int)).find? (·.1 == k.toInt) = none :=
  find_miss fun p hp => by
    simp only [List.mem_cons, List.not_mem_nil, or_false] at hp
    rcases hp with rfl | rfl | rfl
    · exact own_miss1 _ ea ha
    · exact own_miss1 _ eb hb
    · exact own_miss1 _ ec hc
theorem own_insKeep {Z : State} {h h' : Heap} {a : Addr} {C : String} {b : Bool} {ws : List Addr} (F : Ins Z h a C b) (K : Keep h h' ws) : Ins Z h' a C b := by
  obtain ⟨cell, cT, h1, h2, h3⟩ := F
  obtain ⟨c', q, r1, r2, r3⟩ := K.2.2 a cell h1
  exact ⟨c', cT, q, h2, by rw [r1, r2]; exact h3⟩
theorem own_insLt {Z : State} {h : Heap} {a : Addr} {C : String} {b : Bool} (F : Ins Z h a C b) : a < h.size := by
  obtain ⟨cell, cT, h1, -⟩ := F
  exact (Array.getElem?_eq_some_iff.mp h1).1
theorem own_cat {v : Value} (h : v.isRef = true) : v.category = 1 := by cases v <;> first | rfl | (simp [Value.isRef] at h)
theorem own_nar {ty : FieldType} {v : Value} (h : v.isRef = true) : narrow ty v = v := by cases v <;> first | (simp [Value.isRef] at h; done) | (cases ty <;> rfl)
theorem own_fit {C : String} {v : Value} (h : v.isRef = true) : fits (.object C) v = true := by cases v <;> first | rfl | (simp [Value.isRef] at h)
/-- a private method is selected by its own type, which is no interface since another method of it is selected -/
theorem own_selPriv {s : State} {args : Array Value} {C : String} {x z y : MethodName} (w : (Cond.selects C x z).before args s = true) (hc : z.cls = y.cls) (hp : (Cond.privateMethod y).before args s = true) (hi : (Cond.instanceMethod y).before args s = true)
    (hy : y.cls ≠ "java/lang/invoke/MethodHandle" ∧ y.cls ≠ "java/lang/invoke/VarHandle") : (Cond.selects y.cls y y).before args s = true := by
  obtain ⟨c2, r2, m2, -, -, q3, -, kP, hkP, hkPi⟩ := Cond.selects_spec w
  have hf := findClass_of_methodNamed q3
  rw [hc] at hf
  exact selects_self_of_private hf hkP hkPi (Cond.privateMethod_at hp) hi hy
/-- an array whose contents aren't told -/
def Arx (Z : State) (h : Heap) (a : Addr) (k : ClassId) (ty : FieldType) (n : Int32) : Prop :=
  ∃ cl : Cell, Arr Z h a cl ty ∧ cl.cls = k ∧ cl.slots.size = n.toNatClampNeg ∧ ¬ n < 0 ∧ ∀ i, i < cl.slots.size → ∃ v, cl.slots[i]? = some v ∧ fits ty v = true
theorem Arx.lt {Z : State} {h : Heap} {a : Addr} {k : ClassId} {ty : FieldType} {n : Int32} (F : Arx Z h a k ty n) : a < h.size := by obtain ⟨cl, A, -⟩ := F; exact A.lt
theorem Arx.ext {Z : State} {h h' : Heap} {a : Addr} {k : ClassId} {ty : FieldType} {n : Int32} (F : Arx Z h a k ty n) (E : Ext h h') : Arx Z h' a k ty n := by obtain ⟨cl, A, r⟩ := F; exact ⟨cl, A.ext E, r⟩
theorem Arx.other {Z : State} {h h' : Heap} {a b : Addr} {k : ClassId} {ty : FieldType} {n : Int32} {sl : Nat} {v : Value} (F : Arx Z h b k ty n) (W : Wr h h' a sl v) (q : b ≠ a) : Arx Z h' b k ty n := by obtain ⟨cl, A, r⟩ := F; exact ⟨cl, A.other W q, r⟩
theorem Arx.keep {Z : State} {h h' : Heap} {a : Addr} {k : ClassId} {ty : FieldType} {n : Int32} {ws : List Addr} (F : Arx Z h a k ty n) (K : Keep h h' ws) (q : a ∉ ws) : Arx Z h' a k ty n := by obtain ⟨cl, A, r⟩ := F; exact ⟨cl, ⟨K.2.1 a cl A.1 q, A.2⟩, r⟩
theorem Arx.set {Z : State} {h h' : Heap} {a : Addr} {k : ClassId} {ty : FieldType} {n : Int32} {cl : Cell} {sl : Nat} {v : Value} (A : Arr Z h a cl ty) (q1 : cl.cls = k) (S : cl.slots.size = n.toNatClampNeg) (P : ¬ n < 0) (G : ∀ i, i < cl.slots.size → ∃ v, cl.slots[i]? = some v ∧ fits ty v = true) (hv : fits ty v = true) (W : Wr h h' a sl v) : Arx Z h' a k ty n := by
  refine ⟨_, A.same W, q1, by rw [sz_set]; exact S, P, fun i hi => ?_⟩
  rw [sz_set] at hi
  by_cases u : sl = i
  · subst u
    exact ⟨v, by simp [Cell.setSlot, hi], hv⟩
  · obtain ⟨w, e1, e2⟩ := G i hi
    refine ⟨w, ?_, e2⟩
    show (cl.slots.setIfInBounds sl v)[i]? = some w
    rw [Array.getElem?_setIfInBounds_ne u]
    exact e1
theorem own_arx {Z : State} {h : Heap} {a : Addr} {k : ClassId} {ty : FieldType} {n : Int32} {vs : List Value} {d : Value} (F : Arv Z h a k ty n vs d) : Arx Z h a k ty n := by
  obtain ⟨cl, A, r1, r2, r3, H, G⟩ := F
  exact ⟨cl, A, r1, r2, r3, fun i hi => ⟨_, H i hi, G i hi⟩⟩
theorem own_arI {cl : Cell} {j : Int32} (G : ∀ i, i < cl.slots.size → ∃ v, cl.slots[i]? = some v ∧ fits .int v = true) (hin : ¬ (j < 0 ∨ cl.slots.size ≤ j.toNatClampNeg)) : ∃ x : Int32, cl.slots[j.toNatClampNeg]? = some (.int x) := by
  obtain ⟨v, e1, e2⟩ := G _ (Nat.lt_of_not_le fun q => hin (Or.inr q))
  obtain ⟨x, rfl⟩ := fit_I e2 (Or.inl rfl)
  exact ⟨x, e1⟩
theorem own_arD {cl : Cell} {j : Int32} (G : ∀ i, i < cl.slots.size → ∃ v, cl.slots[i]? = some v ∧ fits .double v = true) (hin : ¬ (j < 0 ∨ cl.slots.size ≤ j.toNatClampNeg)) : ∃ x, cl.slots[j.toNatClampNeg]? = some (.double x) := by
  obtain ⟨v, e1, e2⟩ := G _ (Nat.lt_of_not_le fun q => hin (Or.inr q))
  obtain ⟨x, rfl⟩ := fit_D e2
  exact ⟨x, e1⟩
end Own
theorem own_arx0 {s : State} {args : Array Value} {t : Term} {a : Addr} {cl : Cell} {ty : FieldType} {n : Int32} (hfit : Fit s) (et : t.eval args s none [] s = some (.ref a)) (A : Arr s s.heap a cl ty) (hl : (Term.length t).eval args s none [] s = some (.int n)) (hn : ¬ n < 0) : Arx s s.heap a cl.cls ty n := by
  obtain ⟨x, c2, e1, e2, e4, e3⟩ := Jvm.Free.SB.Term.length_small hl
  cases et.symm.trans e1
  cases (A.fin (Vm.Alike.refl _)).symm.trans e2
  injection e4 with e5
  have hs : cl.slots.size = n.toNatClampNeg := by
    rw [e5]
    simp only [Int32.toNatClampNeg, len_toInt e3]
    rfl
  refine ⟨cl, A, rfl, hs, hn, fun i hi => ?_⟩
  have hq : ¬ (i.toInt32 < 0 ∨ cl.slots.size ≤ i.toInt32.toNatClampNeg) := idx_in hi e3
  obtain ⟨v, r1, r2⟩ := elem_fit hfit A hq
  refine ⟨v, ?_, r2⟩
  have hi2 : i.toInt32.toNatClampNeg = i := by simp only [Int32.toNatClampNeg, len_toInt (Nat.lt_trans hi e3)]; rfl
  rw [hi2] at r1
  exact r1
section OwnNums
theorem own_maskNN (x : Int32) : 0 ≤ (x &&& 2147483647).toInt ∧ (x &&& 2147483647).toInt < 2 ^ 31 := by
  have h : (x &&& 2147483647).toInt = x.toInt % 2 ^ 31 := Jvm.Kit.i32_mask x 2147483647 (k := 31) (by decide) (by decide)
  omega
theorem own_remB (x : Int32) (n : Int32) (hn : 0 < n.toInt) : 0 ≤ ((x &&& 2147483647) % n).toInt ∧ ((x &&& 2147483647) % n).toInt < n.toInt := by
  rw [Int32.toInt_mod, Int.tmod_eq_emod_of_nonneg (own_maskNN x).1]
  exact ⟨Int.emod_nonneg _ (by omega), Int.emod_lt_of_pos _ hn⟩
theorem own_eqOf {i : Int32} (k : Int32) (h : i.toInt = k.toInt) : i = k := Int32.toInt_inj.mp h
end OwnNums
section OwnKept
/-- an array whose places hold what f tells -/
def ArF (Z : State) (h : Heap) (a : Addr) (k : ClassId) (ty : FieldType) (N : Nat) (f : Nat → Value) : Prop :=
  ∃ cl : Cell, Arr Z h a cl ty ∧ cl.cls = k ∧ cl.slots.size = N ∧ ∀ j, j < N → cl.slots[j]? = some (f j)
variable {Z : State} {h h' : Heap} {a b : Addr} {k : ClassId} {ty : FieldType} {N : Nat} {f g : Nat → Value} {ws : List Addr} {sl : Nat} {v : Value}
theorem ArF.lt (F : ArF Z h a k ty N f) : a < h.size := by obtain ⟨cl, A, -⟩ := F; exact A.lt
theorem ArF.ext (F : ArF Z h a k ty N f) (E : Ext h h') : ArF Z h' a k ty N f := by obtain ⟨cl, A, r⟩ := F; exact ⟨cl, A.ext E, r⟩
theorem ArF.other (F : ArF Z h b k ty N f) (W : Wr h h' a sl v) (q : b ≠ a) : ArF Z h' b k ty N f := by obtain ⟨cl, A, r⟩ := F; exact ⟨cl, A.other W q, r⟩
theorem ArF.keep (F : ArF Z h a k ty N f) (K : Keep h h' ws) (q : a ∉ ws) : ArF Z h' a k ty N f := by obtain ⟨cl, A, r⟩ := F; exact ⟨cl, ⟨K.2.1 a cl A.1 q, A.2⟩, r⟩
theorem ArF.congr (F : ArF Z h a k ty N f) (q : ∀ j, j < N → f j = g j) : ArF Z h a k ty N g := by obtain ⟨cl, A, r1, r2, r3⟩ := F; exact ⟨cl, A, r1, r2, fun j hj => (q j hj) ▸ r3 j hj⟩
theorem ArF.set {cl : Cell} (A : Arr Z h a cl ty) (q1 : cl.cls = k) (S : cl.slots.size = N) (H : ∀ j, j < N → cl.slots[j]? = some (f j)) (W : Wr h h' a sl v) : ArF Z h' a k ty N (fun j => if j = sl then v else f j) := by
  refine ⟨_, A.same W, q1, by rw [sz_set]; exact S, fun j hj => ?_⟩
  show (cl.slots.setIfInBounds sl v)[j]? = some (if j = sl then v else f j)
  by_cases u : j = sl
  · subst u
    rw [if_pos rfl, Array.getElem?_setIfInBounds_self_of_lt (by rw [S]; exact hj)]
  · rw [if_neg u, Array.getElem?_setIfInBounds_ne (Ne.symm u)]
    exact H j hj
theorem own_arf {n : Int32} {d : Value} (F : Arv Z h a k ty n [] d) (hN : n.toNatClampNeg = N := by decide) : ArF Z h a k ty N (fun _ => d) := by
  obtain ⟨cl, A, r1, r2, r3, H, G⟩ := F
  refine ⟨cl, A, r1, r2.trans hN, fun j hj => ?_⟩
  exact H j (by rw [r2, hN]; exact hj)
theorem own_arfin {cl : Cell} {i : Int32} (S : cl.slots.size = N) (h1 : ¬ i < 0) (h2 : i.toNatClampNeg < N) : ¬ (i < 0 ∨ cl.slots.size ≤ i.toNatClampNeg) := fun q => q.elim h1 fun r => by rw [S] at r; omega
/-- a place of the table: nothing, or the entry's object -/
def rfv (K : Nat → Addr) : Option Nat → Value
  | none => .null
  | some i => .ref (K i)
theorem own_rfv (K : Nat → Addr) (o : Option Nat) : (rfv K o).isRef = true := by cases o <;> rfl
theorem own_rfvf (K : Nat → Addr) (o : Option Nat) (C : String) : fits (.object C) (rfv K o) = true := by cases o <;> rfl
/-! the table's plain functions -/
def seekP (t : Nat → Option Nat) (e : Nat → Bool) (N : Nat) : Nat → Nat → Option Nat
  | 0, _ => none
  | k + 1, p => match t p with
    | none => some p
    | some i => if e i then some p else seekP t e N k ((p + 1) % N)
def probeP (t : Nat → Option Nat) (N : Nat) : Nat → Nat → Option Nat
  | 0, _ => none
  | k + 1, p => match t p with
    | none => some p
    | some _ => probeP t N k ((p + 1) % N)
theorem own_after {i : Int32} (hN : N = 2 ∨ N = 4 ∨ N = 8) (h1 : ¬ i < 0) (h2 : i.toNatClampNeg < N) :
    ¬ ((i + (1 : Int32)) &&& (N.toInt32 - (1 : Int32))) < 0 ∧ ((i + (1 : Int32)) &&& (N.toInt32 - (1 : Int32))).toNatClampNeg = (i.toNatClampNeg + 1) % N := by
  have e := (back32 h1).1
  generalize i.toNatClampNeg = q at e h2
  subst e
  have t2 : ∀ q : Fin 2, ¬ ((q.val.toInt32 + (1 : Int32)) &&& ((2 : Nat).toInt32 - (1 : Int32))) < 0 ∧ ((q.val.toInt32 + (1 : Int32)) &&& ((2 : Nat).toInt32 - (1 : Int32))).toNatClampNeg = (q.val + 1) % 2 := by decide +kernel
  have t4 : ∀ q : Fin 4, ¬ ((q.val.toInt32 + (1 : Int32)) &&& ((4 : Nat).toInt32 - (1 : Int32))) < 0 ∧ ((q.val.toInt32 + (1 : Int32)) &&& ((4 : Nat).toInt32 - (1 : Int32))).toNatClampNeg = (q.val + 1) % 4 := by decide +kernel
  have t8 : ∀ q : Fin 8, ¬ ((q.val.toInt32 + (1 : Int32)) &&& ((8 : Nat).toInt32 - (1 : Int32))) < 0 ∧ ((q.val.toInt32 + (1 : Int32)) &&& ((8 : Nat).toInt32 - (1 : Int32))).toNatClampNeg = (q.val + 1) % 8 := by decide +kernel
  rcases hN with rfl | rfl | rfl
  · exact t2 ⟨q, h2⟩
  · exact t4 ⟨q, h2⟩
  · exact t8 ⟨q, h2⟩
/-- the first place of a hash -/
def own_f (hs sh : Int32) : Int32 := (((hs * (-1640531527 : Int32)).toUInt32 >>> (sh &&& 31).toUInt32).toInt32)
theorem own_small {u : UInt32} {n : Nat} (hn : n = 2 ∨ n = 4 ∨ n = 8) (hu : u.toNat < n) : ¬ u.toInt32 < 0 ∧ u.toInt32.toNatClampNeg < n := by
  have e : u = UInt32.ofNat u.toNat := (UInt32.ofNat_toNat).symm
  generalize u.toNat = q at e hu
  subst e
  have t2 : ∀ q : Fin 2, ¬ (UInt32.ofNat q.val).toInt32 < 0 ∧ (UInt32.ofNat q.val).toInt32.toNatClampNeg < 2 := by decide +kernel
  have t4 : ∀ q : Fin 4, ¬ (UInt32.ofNat q.val).toInt32 < 0 ∧ (UInt32.ofNat q.val).toInt32.toNatClampNeg < 4 := by decide +kernel
  have t8 : ∀ q : Fin 8, ¬ (UInt32.ofNat q.val).toInt32 < 0 ∧ (UInt32.ofNat q.val).toInt32.toNatClampNeg < 8 := by decide +kernel
  rcases hn with rfl | rfl | rfl
  · exact t2 ⟨q, hu⟩
  · exact t4 ⟨q, hu⟩
  · exact t8 ⟨q, hu⟩
theorem own_first {sh : Int32} (hs : Int32) (hN : (N = 2 ∧ sh = 31) ∨ (N = 4 ∧ sh = 30) ∨ (N = 8 ∧ sh = 29)) : ¬ own_f hs sh < 0 ∧ (own_f hs sh).toNatClampNeg < N := by
  have key : ∀ (u : UInt32) (s : UInt32) (j : Nat), s.toNat = j → j < 32 → (u >>> s).toNat < 2 ^ (32 - j) := by
    intro u s j hj hj2
    rw [UInt32.toNat_shiftRight, hj, Nat.mod_eq_of_lt hj2, Nat.shiftRight_eq_div_pow]
    have hu : u.toNat < 2 ^ 32 := u.toNat_lt
    rw [Nat.div_lt_iff_lt_mul (Nat.two_pow_pos j), ← Nat.pow_add, Nat.sub_add_cancel (Nat.le_of_lt hj2)]
    exact hu
  rcases hN with ⟨rfl, rfl⟩ | ⟨rfl, rfl⟩ | ⟨rfl, rfl⟩
  · exact own_small (Or.inl rfl) (key _ _ 31 (by decide) (by decide))
  · exact own_small (Or.inr (Or.inl rfl)) (key _ _ 30 (by decide) (by decide))
  · exact own_small (Or.inr (Or.inr rfl)) (key _ _ 29 (by decide) (by decide))
end OwnKept
section OwnKept2
variable {N k p q i0 : Nat} {t : Nat → Option Nat} {e : Nat → Bool} {hf H : Nat → Int32} {KA VA : Nat → Addr}
def own_t0 : Nat → Option Nat := fun _ => none
def own_put (t : Nat → Option Nat) (q i : Nat) : Nat → Option Nat := fun j => if j = q then some i else t j
def own_hp (hf : Nat → Int32) (q : Nat) (x : Int32) : Nat → Int32 := fun j => if j = q then x else hf j
def own_b : Option Nat → Int32
  | none => 0
  | some _ => 1
theorem own_seekNone (ht : t p = none) (hs : seekP t e N (k + 1) p = some q) : p = q := by simp only [seekP, ht] at hs; exact Option.some.inj hs
theorem own_seekHit {j : Nat} (ht : t p = some j) (he : e j = true) (hs : seekP t e N (k + 1) p = some q) : p = q := by simp only [seekP, ht, he, if_true] at hs; exact Option.some.inj hs
theorem own_seekGo {j : Nat} (ht : t p = some j) (he : e j = false) (hs : seekP t e N (k + 1) p = some q) : seekP t e N k ((p + 1) % N) = some q := by
  simp only [seekP, ht, he, Bool.false_eq_true, if_false] at hs; exact hs
theorem own_probeNone (ht : t p = none) (hs : probeP t N (k + 1) p = some q) : p = q := by simp only [probeP, ht] at hs; exact Option.some.inj hs
theorem own_probeGo {j : Nat} (ht : t p = some j) (hs : probeP t N (k + 1) p = some q) : probeP t N k ((p + 1) % N) = some q := by simp only [probeP, ht] at hs; exact hs
theorem own_npos (hN : N = 2 ∨ N = 4 ∨ N = 8) : 0 < N := by omega
theorem own_afterLt {i : Int32} (hN : N = 2 ∨ N = 4 ∨ N = 8) (h1 : ¬ i < 0) (h2 : i.toNatClampNeg < N) : ((i + (1 : Int32)) &&& (N.toInt32 - (1 : Int32))).toNatClampNeg < N := by rw [(own_after hN h1 h2).2]; exact Nat.mod_lt _ (own_npos hN)
theorem own_rfset {x : Addr} (hk : KA i0 = x) (r : Nat) (hr : r = q) : ∀ j, j < N → (if j = r then Value.ref x else rfv KA (t j)) = rfv KA (own_put t q i0 j) := fun j _ => by
  subst hr
  unfold own_put
  by_cases u : j = r
  · rw [if_pos u, if_pos u, ← hk]; rfl
  · rw [if_neg u, if_neg u]
theorem own_hset {x : Int32} (r : Nat) (hr : r = q) : ∀ j, j < N → (if j = r then Value.int x else Value.int (hf j)) = Value.int (own_hp hf q x j) := fun j _ => by
  subst hr
  unfold own_hp
  by_cases u : j = r
  · rw [if_pos u, if_pos u]
  · rw [if_neg u, if_neg u]
theorem own_hH (h : ∀ p j, t p = some j → hf p = H j) {x : Int32} (hx : H i0 = x) : ∀ p j, own_put t q i0 p = some j → own_hp hf q x p = H j := fun p j hp => by
  unfold own_put at hp
  unfold own_hp
  by_cases u : p = q
  · rw [if_pos u] at hp ⊢
    cases hp
    exact hx.symm
  · rw [if_neg u] at hp ⊢
    exact h p j hp
theorem own_hH0 : ∀ p j, own_t0 p = some j → hf p = H j := fun p j hp => by cases hp
theorem own_lt3 (h : ∀ p j, t p = some j → j < 3) (hi : i0 < 3) : ∀ p j, own_put t q i0 p = some j → j < 3 := fun p j hp => by
  unfold own_put at hp
  by_cases u : p = q
  · rw [if_pos u] at hp; cases hp; exact hi
  · rw [if_neg u] at hp; exact h p j hp
theorem own_lt30 : ∀ p j, own_t0 p = some j → j < 3 := fun p j hp => by cases hp
/-- what the law's own search comes to -/
def findP (t : Nat → Option Nat) (e : Nat → Bool) (N i0 f : Nat) : Option (Option Nat) :=
  match seekP t e N 9 f with
  | none => none
  | some p0 => match t p0 with
    | none => some none
    | some j0 => if j0 = i0 then some (some j0) else
      match seekP t e N 9 ((p0 + 1) % N) with
      | none => none
      | some p1 => match t p1 with
        | none => some none
        | some j1 => if j1 = i0 then some (some j1) else
          match seekP t e N 9 ((p1 + 1) % N) with
          | none => none
          | some p2 => match t p2 with
            | none => some none
            | some j2 => if j2 = i0 then some (some j2) else some none
end OwnKept2
section OwnLaw
def own_ev (a b : Bool) (i0 : Nat) : Nat → Bool := fun j => if j = i0 then true else if j = (if i0 = 0 then 1 else 0) then a else b
def own_three (q1 q2 q3 : Nat) : Nat → Option Nat := own_put (own_put (own_put own_t0 q1 0) q2 1) q3 2
set_option maxRecDepth 65536 in
set_option maxHeartbeats 40000000 in
theorem own_all8 : ∀ (f1 f2 f3 : Fin 8) (a b c : Bool), (a = true → f1 = f2) → (b = true → f1 = f3) → (c = true → f2 = f3) → (a = true → b = c) → (b = true → a = c) →
    ∃ q2 q3 : Fin 8, probeP (own_put own_t0 f1.val 0) 8 9 f2.val = some q2.val ∧ probeP (own_put (own_put own_t0 f1.val 0) q2.val 1) 8 9 f3.val = some q3.val ∧
      findP (own_three f1.val q2.val q3.val) (own_ev a b 0) 8 0 f1.val = some (some 0) ∧ findP (own_three f1.val q2.val q3.val) (own_ev a c 1) 8 1 f2.val = some (some 1) ∧ findP (own_three f1.val q2.val q3.val) (own_ev b c 2) 8 2 f3.val = some (some 2) := by decide +kernel
set_option maxRecDepth 65536 in
set_option maxHeartbeats 40000000 in
theorem own_one2 : ∀ (f1 f2 f3 : Fin 2) (a b c : Bool), (c = true → f2 = f3) → (b = true → f1 = f3) → findP (own_put own_t0 f3.val 2) (own_ev a b 0) 2 0 f1.val = some none ∧ findP (own_put own_t0 f3.val 2) (own_ev a c 1) 2 1 f2.val = some none ∧ findP (own_put own_t0 f3.val 2) (own_ev b c 2) 2 2 f3.val = some (some 2) := by decide +kernel
set_option maxRecDepth 65536 in
set_option maxHeartbeats 40000000 in
theorem own_one4 : ∀ (f1 f2 f3 : Fin 4) (a b c : Bool), (c = true → f2 = f3) → (b = true → f1 = f3) → (∃ q2 : Fin 4, probeP (own_put own_t0 f1.val 0) 4 9 f2.val = some q2.val) ∧ findP (own_put own_t0 f3.val 2) (own_ev a b 0) 4 0 f1.val = some none ∧ findP (own_put own_t0 f3.val 2) (own_ev a c 1) 4 1 f2.val = some none ∧ findP (own_put own_t0 f3.val 2) (own_ev b c 2) 4 2 f3.val = some (some 2) := by decide +kernel
theorem own_probe0 (N f : Nat) : probeP own_t0 N 9 f = some f := rfl
/-- the three hashes, by the entry's number -/
def own_H (h1 h2 h3 : Int32) : Nat → Int32 := fun j => if j = 0 then h1 else if j = 1 then h2 else h3
def own_K (k1 k2 k3 : Addr) : Nat → Addr := fun j => if j = 0 then k1 else if j = 1 then k2 else k3
theorem own_e0 (h1 h2 h3 : Int32) : (fun j => decide (own_H h1 h2 h3 j = h1)) = own_ev (decide (h1 = h2)) (decide (h1 = h3)) 0 := by
  funext j
  by_cases u : j = 0
  · simp [own_H, own_ev, u]
  · by_cases w : j = 1
    · simp [own_H, own_ev, w, eq_comm]
    · simp [own_H, own_ev, u, w, eq_comm]
theorem own_e1 (h1 h2 h3 : Int32) : (fun j => decide (own_H h1 h2 h3 j = h2)) = own_ev (decide (h1 = h2)) (decide (h2 = h3)) 1 := by
  funext j
  by_cases u : j = 0
  · simp [own_H, own_ev, u]
  · by_cases w : j = 1
    · simp [own_H, own_ev, w]
    · simp [own_H, own_ev, u, w, eq_comm]
theorem own_e2 (h1 h2 h3 : Int32) : ∀ j, j < 3 → decide (own_H h1 h2 h3 j = h3) = own_ev (decide (h1 = h3)) (decide (h2 = h3)) 2 j := by
  intro j hj
  rcases (show j = 0 ∨ j = 1 ∨ j = 2 by omega) with rfl | rfl | rfl <;> simp [own_H, own_ev]
theorem own_seekCongr {t : Nat → Option Nat} {e e' : Nat → Bool} {N : Nat} (ht : ∀ p j, t p = some j → j < 3) (he : ∀ j, j < 3 → e j = e' j) : ∀ k p, seekP t e N k p = seekP t e' N k p := by
  intro k
  induction k with
  | zero => intro p; rfl
  | succ k ih =>
    intro p
    unfold seekP
    cases hp : t p with
    | none => rfl
    | some j => simp only [he j (ht p j hp), ih]
theorem own_findCongr {t : Nat → Option Nat} {e e' : Nat → Bool} {N i0 f : Nat} (ht : ∀ p j, t p = some j → j < 3) (he : ∀ j, j < 3 → e j = e' j) : findP t e N i0 f = findP t e' N i0 f := by
  unfold findP
  simp only [own_seekCongr ht he]
end OwnLaw
theorem d6_0 : decode prog_31_method_9_code 0 = .ok (.iload_n 1, 1) := by decide +kernel
theorem d6_1 : decode prog_31_method_9_code 1 = .ok (.ldc 75, 2) := by decide +kernel
theorem d6_3 : decode prog_31_method_9_code 3 = .ok (.imul, 1) := by decide +kernel
theorem d6_4 : decode prog_31_method_9_code 4 = .ok (.aload_n 0, 1) := by decide +kernel
theorem d6_5 : decode prog_31_method_9_code 5 = .ok (.getfield 43, 3) := by decide +kernel
theorem d6_8 : decode prog_31_method_9_code 8 = .ok (.iushr, 1) := by decide +kernel
theorem d6_9 : decode prog_31_method_9_code 9 = .ok (.ireturn, 1) := by decide +kernel
theorem pn_6 : plainName "com/example/nehaba/nehaba/input/KeptValues" = true := by first | (simp [plainName, overriddenIn]; done) | decide +kernel
theorem ef_6 (m : MethodId) (x0 : Addr) (x1 : Int32) (ka : Addr) (ha : Addr) (va : Addr) (kk : ClassId) (kh : ClassId) (kw : ClassId) (N : Nat) (t : Nat → Option Nat) (hf : Nat → Int32) (KA : Nat → Addr) (VA : Nat → Addr) (sh : Int32) (mo : Int32) (sz : Int32)  : entryFrame m #[(.ref x0), (.int x1)] 2 = mkF m 0 #[.val (.ref x0), .val (.int x1)] [] := by first | (simp [entryFrame, mkF, argsToLocals, Value.category]; done) | rfl
def Q6 (Z : State) (x0 : Addr) (x1 : Int32) (ka : Addr) (ha : Addr) (va : Addr) (kk : ClassId) (kh : ClassId) (kw : ClassId) (N : Nat) (t : Nat → Option Nat) (hf : Nat → Int32) (KA : Nat → Addr) (VA : Nat → Addr) (sh : Int32) (mo : Int32) (sz : Int32) (h0 : Heap) (n0 : Nat) (v : Option Value) (h : Heap) (L : List Loc) : Prop := Fr n0 L ∧ h = h0 ∧ v = some (.int (own_f x1 sh))
set_option maxRecDepth 65536 in
set_option maxHeartbeats 40000000 in
theorem rm6 (l : Launch) (Z : State) (a0 : Array Value) (hw : ∀ d ∈ tables_1, d.before a0 Z = true) (ws : List Jvm.Cond) (x0 : Addr) (x1 : Int32) (ka : Addr) (ha : Addr) (va : Addr) (kk : ClassId) (kh : ClassId) (kw : ClassId) (N : Nat) (t : Nat → Option Nat) (hf : Nat → Int32) (KA : Nat → Addr) (VA : Nat → Addr) (sh : Int32) (mo : Int32) (sz : Int32) (h0 : Heap) (n0 : Nat) (Z0 : n0 ≤ h0.size) (E0 : Exa Z h0 x0 "com/example/nehaba/nehaba/input/KeptValues") (Fk : Fld Z h0 x0 "com/example/nehaba/nehaba/input/KeptValues" "keys" "[Ljava/lang/Object;" (.ref ka)) (Fh : Fld Z h0 x0 "com/example/nehaba/nehaba/input/KeptValues" "hashes" "[I" (.ref ha)) (Fv : Fld Z h0 x0 "com/example/nehaba/nehaba/input/KeptValues" "values" "[Ljava/lang/Object;" (.ref va)) (Fm : Fld Z h0 x0 "com/example/nehaba/nehaba/input/KeptValues" "most" "I" (.int mo)) (Fz : Fld Z h0 x0 "com/example/nehaba/nehaba/input/KeptValues" "size" "I" (.int sz)) (Fs : Fld Z h0 x0 "com/example/nehaba/nehaba/input/KeptValues" "shift" "I" (.int sh)) (Ak : ArF Z h0 ka kk (.object "java/lang/Object") N (fun j => rfv KA (t j))) (Ah : ArF Z h0 ha kh .int N (fun j => .int (hf j))) (Av : ArF Z h0 va kw (.object "java/lang/Object") N (fun j => rfv VA (t j))) :
    MetFree l (⟨"com/example/nehaba/nehaba/input/KeptValues", "first", "(I)I"⟩ : MethodName) (head1 (Jvm.Cond.code (⟨"com/example/nehaba/nehaba/input/KeptValues", "first", "(I)I"⟩ : MethodName) prog_31_method_9_code 2 (some .int) :: ws) ({ frames := 0, cells := 0, slots := 0, locals := 0 } : Room)) (fun a U => a = #[(.ref x0), (.int x1)] ∧ Z.Warmed39 U.vm ∧ U.heap = h0) (fun _ _ _ _ _ => True) (fun _ U o U' => ∃ v L, o = .returned v ∧ Q6 Z x0 x1 ka ha va kk kh kw N t hf KA VA sh mo sz h0 n0 v U'.heap L ∧ FrameEnd U o U' L ({ frames := 0, cells := 0, slots := 0, locals := 0 } : Room).cells ({ frames := 0, cells := 0, slots := 0, locals := 0 } : Room).slots) := by
  refine MetFree.of_bodySF (plainFor_of_name pn_6) hisR ?_
  intro p e s m args below meth c s₁ Bd hml0 hP hK
  obtain ⟨rfl, hZ, hh⟩ := hP
  have hx := Bd.exec
  have hby := Bd.bytes
  have hml : c.maxLocals = 2 := hml0
  have hown : s.vm.findClass "com/example/nehaba/nehaba/input/KeptValues" = some m.cls := findClass_of_methodNamed Bd.named
  have hnm := (name_of_methodNamed Bd.named Bd.method).1
  have X0 : Stand p l e ({ frames := 0, cells := 0, slots := 0, locals := 0 } : Room) s m #[(.ref x0), (.int x1)] below meth c s₁ [] 0 0 := Stand.of_body Bd
  have e0 : s₁.heap = h0 := by rw [← hh, Bd.state]; rfl
  have N0 := Fr.nil n0
  have K0 : Keep h0 h0 [] := Keep.refl h0 _
  refine (?_ : Goes p e below s ({ frames := 0, cells := 0, slots := 0, locals := 0 } : Room).cells ({ frames := 0, cells := 0, slots := 0, locals := 0 } : Room).slots (fun v h L => Q6 Z x0 x1 ka ha va kk kh kw N t hf KA VA sh mo sz h0 n0 v h L) (s₁.setTop (entryFrame m #[(.ref x0), (.int x1)] 2)))
  rw [ef_6 m x0 x1 ka ha va kk kh kw N t hf KA VA sh mo sz ]
  show Goes _ _ _ _ _ _ _ (s₁.setTop (mkF m 0 #[.val (.ref x0), .val (.int x1)] []))
  refine Goes.step (fun _ k => XS.iloadN X0.here hx rfl (hb hby d6_0) rfl  k) ?_
  show Goes _ _ _ _ _ _ _ (s₁.setTop (mkF m 1 #[.val (.ref x0), .val (.int x1)] [(.int x1)]))
  refine Goes.step (fun _ k => X0.ldcInt hx hown (mvT hZ (hw _ (List.mem_of_getElem? (i := 44) rfl))) (g := (mkF m 1 #[.val (.ref x0), .val (.int x1)] [(.int x1)])) rfl (hb hby d6_1) _ k) ?_
  show Goes _ _ _ _ _ _ _ (s₁.setTop (mkF m 3 #[.val (.ref x0), .val (.int x1)] [(.int (-1640531527 : Int32)), (.int x1)]))
  refine Goes.step (fun _ k => XS.imul X0.here hx rfl (hb hby d6_3) rfl k) ?_
  show Goes _ _ _ _ _ _ _ (s₁.setTop (mkF m 4 #[.val (.ref x0), .val (.int x1)] [(.int (x1 * (-1640531527 : Int32)))]))
  refine Goes.step (fun _ k => XS.aloadN X0.here hx rfl (hb hby d6_4) rfl rfl k) ?_
  show Goes _ _ _ _ _ _ _ (s₁.setTop (mkF m 5 #[.val (.ref x0), .val (.int x1)] [(.ref x0), (.int (x1 * (-1640531527 : Int32)))]))
  obtain ⟨T1, X1, e1, st1⟩ := getF X0 hx hZ hown (host := "") (Or.inl (hw _ (List.mem_of_getElem? (i := 31) rfl))) Via.refl e0 Fs (g := (mkF m 5 #[.val (.ref x0), .val (.int x1)] [(.ref x0), (.int (x1 * (-1640531527 : Int32)))])) rfl rfl (hb hby d6_5)
  refine Goes.step st1 ?_
  show Goes _ _ _ _ _ _ _ (T1.setTop (mkF m 8 #[.val (.ref x0), .val (.int x1)] [(.int sh), (.int (x1 * (-1640531527 : Int32)))]))
  refine Goes.step (fun _ k => XS.iushr X1.here hx rfl (hb hby d6_8) rfl k) ?_
  show Goes _ _ _ _ _ _ _ (T1.setTop (mkF m 9 #[.val (.ref x0), .val (.int x1)] [(.int (((x1 * (-1640531527 : Int32)).toUInt32 >>> (sh &&& 31).toUInt32).toInt32))]))
  exact Goes.ret X1 hx (BodyLoose.notSynchronized Bd) Bd.returns rfl (Or.inl ⟨rfl, by simp, _, rfl⟩) (hb hby d6_9) (by show Q6 Z x0 x1 ka ha va kk kh kw N t hf KA VA sh mo sz h0 n0 (some (.int (((x1 * (-1640531527 : Int32)).toUInt32 >>> (sh &&& 31).toUInt32).toInt32))) T1.heap _; rw [e1]; exact ⟨N0, rfl, rfl⟩) (by decide) (by decide)
theorem d11_0 : decode prog_31_method_11_code 0 = .ok (.iload_n 1, 1) := by decide +kernel
theorem d11_1 : decode prog_31_method_11_code 1 = .ok (.iconst 1, 1) := by decide +kernel
theorem d11_2 : decode prog_31_method_11_code 2 = .ok (.iadd, 1) := by decide +kernel
theorem d11_3 : decode prog_31_method_11_code 3 = .ok (.aload_n 0, 1) := by decide +kernel
theorem d11_4 : decode prog_31_method_11_code 4 = .ok (.getfield 29, 3) := by decide +kernel
theorem d11_7 : decode prog_31_method_11_code 7 = .ok (.arraylength, 1) := by decide +kernel
theorem d11_8 : decode prog_31_method_11_code 8 = .ok (.iconst 1, 1) := by decide +kernel
theorem d11_9 : decode prog_31_method_11_code 9 = .ok (.isub, 1) := by decide +kernel
theorem d11_10 : decode prog_31_method_11_code 10 = .ok (.iand, 1) := by decide +kernel
theorem d11_11 : decode prog_31_method_11_code 11 = .ok (.ireturn, 1) := by decide +kernel
theorem pn_11 : plainName "com/example/nehaba/nehaba/input/KeptValues" = true := by first | (simp [plainName, overriddenIn]; done) | decide +kernel
theorem ef_11 (m : MethodId) (x0 : Addr) (x1 : Int32) (ka : Addr) (ha : Addr) (va : Addr) (kk : ClassId) (kh : ClassId) (kw : ClassId) (N : Nat) (t : Nat → Option Nat) (hf : Nat → Int32) (KA : Nat → Addr) (VA : Nat → Addr) (sh : Int32) (mo : Int32) (sz : Int32)  : entryFrame m #[(.ref x0), (.int x1)] 2 = mkF m 0 #[.val (.ref x0), .val (.int x1)] [] := by first | (simp [entryFrame, mkF, argsToLocals, Value.category]; done) | rfl
def Q11 (Z : State) (x0 : Addr) (x1 : Int32) (ka : Addr) (ha : Addr) (va : Addr) (kk : ClassId) (kh : ClassId) (kw : ClassId) (N : Nat) (t : Nat → Option Nat) (hf : Nat → Int32) (KA : Nat → Addr) (VA : Nat → Addr) (sh : Int32) (mo : Int32) (sz : Int32) (h0 : Heap) (n0 : Nat) (v : Option Value) (h : Heap) (L : List Loc) : Prop := Fr n0 L ∧ h = h0 ∧ v = some (.int ((x1 + (1 : Int32)) &&& ((N).toInt32 - (1 : Int32))))
set_option maxRecDepth 65536 in
set_option maxHeartbeats 40000000 in
theorem rm11 (l : Launch) (Z : State) (a0 : Array Value) (hw : ∀ d ∈ tables_1, d.before a0 Z = true) (ws : List Jvm.Cond) (x0 : Addr) (x1 : Int32) (ka : Addr) (ha : Addr) (va : Addr) (kk : ClassId) (kh : ClassId) (kw : ClassId) (N : Nat) (t : Nat → Option Nat) (hf : Nat → Int32) (KA : Nat → Addr) (VA : Nat → Addr) (sh : Int32) (mo : Int32) (sz : Int32) (h0 : Heap) (n0 : Nat) (Z0 : n0 ≤ h0.size) (E0 : Exa Z h0 x0 "com/example/nehaba/nehaba/input/KeptValues") (Fk : Fld Z h0 x0 "com/example/nehaba/nehaba/input/KeptValues" "keys" "[Ljava/lang/Object;" (.ref ka)) (Fh : Fld Z h0 x0 "com/example/nehaba/nehaba/input/KeptValues" "hashes" "[I" (.ref ha)) (Fv : Fld Z h0 x0 "com/example/nehaba/nehaba/input/KeptValues" "values" "[Ljava/lang/Object;" (.ref va)) (Fm : Fld Z h0 x0 "com/example/nehaba/nehaba/input/KeptValues" "most" "I" (.int mo)) (Fz : Fld Z h0 x0 "com/example/nehaba/nehaba/input/KeptValues" "size" "I" (.int sz)) (Fs : Fld Z h0 x0 "com/example/nehaba/nehaba/input/KeptValues" "shift" "I" (.int sh)) (Ak : ArF Z h0 ka kk (.object "java/lang/Object") N (fun j => rfv KA (t j))) (Ah : ArF Z h0 ha kh .int N (fun j => .int (hf j))) (Av : ArF Z h0 va kw (.object "java/lang/Object") N (fun j => rfv VA (t j))) :
    MetFree l (⟨"com/example/nehaba/nehaba/input/KeptValues", "after", "(I)I"⟩ : MethodName) (head1 (Jvm.Cond.code (⟨"com/example/nehaba/nehaba/input/KeptValues", "after", "(I)I"⟩ : MethodName) prog_31_method_11_code 2 (some .int) :: ws) ({ frames := 0, cells := 0, slots := 0, locals := 0 } : Room)) (fun a U => a = #[(.ref x0), (.int x1)] ∧ Z.Warmed39 U.vm ∧ U.heap = h0) (fun _ _ _ _ _ => True) (fun _ U o U' => ∃ v L, o = .returned v ∧ Q11 Z x0 x1 ka ha va kk kh kw N t hf KA VA sh mo sz h0 n0 v U'.heap L ∧ FrameEnd U o U' L ({ frames := 0, cells := 0, slots := 0, locals := 0 } : Room).cells ({ frames := 0, cells := 0, slots := 0, locals := 0 } : Room).slots) := by
  refine MetFree.of_bodySF (plainFor_of_name pn_11) hisR ?_
  intro p e s m args below meth c s₁ Bd hml0 hP hK
  obtain ⟨rfl, hZ, hh⟩ := hP
  have hx := Bd.exec
  have hby := Bd.bytes
  have hml : c.maxLocals = 2 := hml0
  have hown : s.vm.findClass "com/example/nehaba/nehaba/input/KeptValues" = some m.cls := findClass_of_methodNamed Bd.named
  have hnm := (name_of_methodNamed Bd.named Bd.method).1
  have X0 : Stand p l e ({ frames := 0, cells := 0, slots := 0, locals := 0 } : Room) s m #[(.ref x0), (.int x1)] below meth c s₁ [] 0 0 := Stand.of_body Bd
  have e0 : s₁.heap = h0 := by rw [← hh, Bd.state]; rfl
  have N0 := Fr.nil n0
  have K0 : Keep h0 h0 [] := Keep.refl h0 _
  refine (?_ : Goes p e below s ({ frames := 0, cells := 0, slots := 0, locals := 0 } : Room).cells ({ frames := 0, cells := 0, slots := 0, locals := 0 } : Room).slots (fun v h L => Q11 Z x0 x1 ka ha va kk kh kw N t hf KA VA sh mo sz h0 n0 v h L) (s₁.setTop (entryFrame m #[(.ref x0), (.int x1)] 2)))
  rw [ef_11 m x0 x1 ka ha va kk kh kw N t hf KA VA sh mo sz ]
  show Goes _ _ _ _ _ _ _ (s₁.setTop (mkF m 0 #[.val (.ref x0), .val (.int x1)] []))
  refine Goes.step (fun _ k => XS.iloadN X0.here hx rfl (hb hby d11_0) rfl  k) ?_
  show Goes _ _ _ _ _ _ _ (s₁.setTop (mkF m 1 #[.val (.ref x0), .val (.int x1)] [(.int x1)]))
  refine Goes.step (fun _ k => XS.iconst X0.here hx rfl (hb hby d11_1) k) ?_
  show Goes _ _ _ _ _ _ _ (s₁.setTop (mkF m 2 #[.val (.ref x0), .val (.int x1)] [(.int (1 : Int32)), (.int x1)]))
  refine Goes.step (fun _ k => XS.iadd X0.here hx rfl (hb hby d11_2) rfl k) ?_
  show Goes _ _ _ _ _ _ _ (s₁.setTop (mkF m 3 #[.val (.ref x0), .val (.int x1)] [(.int (x1 + (1 : Int32)))]))
  refine Goes.step (fun _ k => XS.aloadN X0.here hx rfl (hb hby d11_3) rfl rfl k) ?_
  show Goes _ _ _ _ _ _ _ (s₁.setTop (mkF m 4 #[.val (.ref x0), .val (.int x1)] [(.ref x0), (.int (x1 + (1 : Int32)))]))
  obtain ⟨T1, X1, e1, st1⟩ := getF X0 hx hZ hown (host := "") (Or.inl (hw _ (List.mem_of_getElem? (i := 24) rfl))) Via.refl e0 Fk (g := (mkF m 4 #[.val (.ref x0), .val (.int x1)] [(.ref x0), (.int (x1 + (1 : Int32)))])) rfl rfl (hb hby d11_4)
  refine Goes.step st1 ?_
  show Goes _ _ _ _ _ _ _ (T1.setTop (mkF m 7 #[.val (.ref x0), .val (.int x1)] [(.ref ka), (.int (x1 + (1 : Int32)))]))
  obtain ⟨cl2, Ar2, q2, S2, H2⟩ := id Ak
  refine Goes.step (fun _ k => X1.arraylength hx (by rw [e1]; exact Ar2.1) (State.isArrayOf_alike hZ.alike Ar2.2.1) (g := (mkF m 7 #[.val (.ref x0), .val (.int x1)] [(.ref ka), (.int (x1 + (1 : Int32)))])) rfl rfl (hb hby d11_7) _ k) ?_
  rw [S2]
  show Goes _ _ _ _ _ _ _ (T1.setTop (mkF m 8 #[.val (.ref x0), .val (.int x1)] [(.int (N).toInt32), (.int (x1 + (1 : Int32)))]))
  refine Goes.step (fun _ k => XS.iconst X1.here hx rfl (hb hby d11_8) k) ?_
  show Goes _ _ _ _ _ _ _ (T1.setTop (mkF m 9 #[.val (.ref x0), .val (.int x1)] [(.int (1 : Int32)), (.int (N).toInt32), (.int (x1 + (1 : Int32)))]))
  refine Goes.step (fun _ k => XS.isub X1.here hx rfl (hb hby d11_9) rfl k) ?_
  show Goes _ _ _ _ _ _ _ (T1.setTop (mkF m 10 #[.val (.ref x0), .val (.int x1)] [(.int ((N).toInt32 - (1 : Int32))), (.int (x1 + (1 : Int32)))]))
  refine Goes.step (fun _ k => XS.iand X1.here hx rfl (hb hby d11_10) rfl k) ?_
  show Goes _ _ _ _ _ _ _ (T1.setTop (mkF m 11 #[.val (.ref x0), .val (.int x1)] [(.int ((x1 + (1 : Int32)) &&& ((N).toInt32 - (1 : Int32))))]))
  exact Goes.ret X1 hx (BodyLoose.notSynchronized Bd) Bd.returns rfl (Or.inl ⟨rfl, by simp, _, rfl⟩) (hb hby d11_11) (by show Q11 Z x0 x1 ka ha va kk kh kw N t hf KA VA sh mo sz h0 n0 (some (.int ((x1 + (1 : Int32)) &&& ((N).toInt32 - (1 : Int32))))) T1.heap _; rw [e1]; exact ⟨N0, rfl, rfl⟩) (by decide) (by decide)
theorem d10_0 : decode prog_31_method_10_code 0 = .ok (.aload_n 0, 1) := by decide +kernel
theorem d10_1 : decode prog_31_method_10_code 1 = .ok (.getfield 29, 3) := by decide +kernel
theorem d10_4 : decode prog_31_method_10_code 4 = .ok (.iload_n 1, 1) := by decide +kernel
theorem d10_5 : decode prog_31_method_10_code 5 = .ok (.aaload, 1) := by decide +kernel
theorem d10_6 : decode prog_31_method_10_code 6 = .ok (.ifnull 22, 3) := by decide +kernel
theorem d10_9 : decode prog_31_method_10_code 9 = .ok (.aload_n 0, 1) := by decide +kernel
theorem d10_10 : decode prog_31_method_10_code 10 = .ok (.getfield 33, 3) := by decide +kernel
theorem d10_13 : decode prog_31_method_10_code 13 = .ok (.iload_n 1, 1) := by decide +kernel
theorem d10_14 : decode prog_31_method_10_code 14 = .ok (.iaload, 1) := by decide +kernel
theorem d10_15 : decode prog_31_method_10_code 15 = .ok (.iload_n 2, 1) := by decide +kernel
theorem d10_16 : decode prog_31_method_10_code 16 = .ok (.if_icmp .eq 12, 3) := by decide +kernel
theorem d10_19 : decode prog_31_method_10_code 19 = .ok (.aload_n 0, 1) := by decide +kernel
theorem d10_20 : decode prog_31_method_10_code 20 = .ok (.iload_n 1, 1) := by decide +kernel
theorem d10_21 : decode prog_31_method_10_code 21 = .ok (.invokevirtual 53, 3) := by decide +kernel
theorem d10_24 : decode prog_31_method_10_code 24 = .ok (.istore_n 1, 1) := by decide +kernel
theorem d10_25 : decode prog_31_method_10_code 25 = .ok (.goto (-25), 3) := by decide +kernel
theorem d10_28 : decode prog_31_method_10_code 28 = .ok (.iload_n 1, 1) := by decide +kernel
theorem d10_29 : decode prog_31_method_10_code 29 = .ok (.ireturn, 1) := by decide +kernel
theorem pn_10 : plainName "com/example/nehaba/nehaba/input/KeptValues" = true := by first | (simp [plainName, overriddenIn]; done) | decide +kernel
theorem ef_10 (m : MethodId) (x0 : Addr) (x1 : Int32) (x2 : Int32) (ka : Addr) (ha : Addr) (va : Addr) (kk : ClassId) (kh : ClassId) (kw : ClassId) (N : Nat) (t : Nat → Option Nat) (hf : Nat → Int32) (KA : Nat → Addr) (VA : Nat → Addr) (sh : Int32) (mo : Int32) (sz : Int32) (H : Nat → Int32) (kf : Nat) (q : Nat)  : entryFrame m #[(.ref x0), (.int x1), (.int x2)] 3 = mkF m 0 #[.val (.ref x0), .val (.int x1), .val (.int x2)] [] := by first | (simp [entryFrame, mkF, argsToLocals, Value.category]; done) | rfl
theorem pd_2 : parseMethodDescriptor "(I)I" = some ⟨[.int], some .int⟩ := by decide +kernel
def Q10 (Z : State) (x0 : Addr) (x1 : Int32) (x2 : Int32) (ka : Addr) (ha : Addr) (va : Addr) (kk : ClassId) (kh : ClassId) (kw : ClassId) (N : Nat) (t : Nat → Option Nat) (hf : Nat → Int32) (KA : Nat → Addr) (VA : Nat → Addr) (sh : Int32) (mo : Int32) (sz : Int32) (H : Nat → Int32) (kf : Nat) (q : Nat) (h0 : Heap) (n0 : Nat) (v : Option Value) (h : Heap) (L : List Loc) : Prop := Fr n0 L ∧ h = h0 ∧ ∃ r : Int32, v = some (.int r) ∧ ¬ r < 0 ∧ r.toNatClampNeg = q ∧ r.toNatClampNeg < N
set_option maxRecDepth 65536 in
set_option maxHeartbeats 40000000 in
theorem rm10 (l : Launch) (Z : State) (a0 : Array Value) (hw : ∀ d ∈ tables_1, d.before a0 Z = true) (ws : List Jvm.Cond) (x0 : Addr) (x1 : Int32) (x2 : Int32) (ka : Addr) (ha : Addr) (va : Addr) (kk : ClassId) (kh : ClassId) (kw : ClassId) (N : Nat) (t : Nat → Option Nat) (hf : Nat → Int32) (KA : Nat → Addr) (VA : Nat → Addr) (sh : Int32) (mo : Int32) (sz : Int32) (H : Nat → Int32) (kf : Nat) (q : Nat) (h0 : Heap) (n0 : Nat) (Z0 : n0 ≤ h0.size) (E0 : Exa Z h0 x0 "com/example/nehaba/nehaba/input/KeptValues") (Fk : Fld Z h0 x0 "com/example/nehaba/nehaba/input/KeptValues" "keys" "[Ljava/lang/Object;" (.ref ka)) (Fh : Fld Z h0 x0 "com/example/nehaba/nehaba/input/KeptValues" "hashes" "[I" (.ref ha)) (Fv : Fld Z h0 x0 "com/example/nehaba/nehaba/input/KeptValues" "values" "[Ljava/lang/Object;" (.ref va)) (Fm : Fld Z h0 x0 "com/example/nehaba/nehaba/input/KeptValues" "most" "I" (.int mo)) (Fz : Fld Z h0 x0 "com/example/nehaba/nehaba/input/KeptValues" "size" "I" (.int sz)) (Fs : Fld Z h0 x0 "com/example/nehaba/nehaba/input/KeptValues" "shift" "I" (.int sh)) (Ak : ArF Z h0 ka kk (.object "java/lang/Object") N (fun j => rfv KA (t j))) (Ah : ArF Z h0 ha kh .int N (fun j => .int (hf j))) (Av : ArF Z h0 va kw (.object "java/lang/Object") N (fun j => rfv VA (t j))) (hN : N = 2 ∨ N = 4 ∨ N = 8) (hH : ∀ p j, t p = some j → hf p = H j) (hi1 : ¬ x1 < 0) (hi2 : x1.toNatClampNeg < N) (hs0 : seekP t (fun j => decide (H j = x2)) N kf x1.toNatClampNeg = some q) :
    MetFree l (⟨"com/example/nehaba/nehaba/input/KeptValues", "seek", "(II)I"⟩ : MethodName) (head1 (Jvm.Cond.code (⟨"com/example/nehaba/nehaba/input/KeptValues", "seek", "(II)I"⟩ : MethodName) prog_31_method_10_code 3 (some .int) :: ws) ({ frames := 1, cells := 0, slots := 0, locals := 13 } : Room)) (fun a U => a = #[(.ref x0), (.int x1), (.int x2)] ∧ Z.Warmed39 U.vm ∧ U.heap = h0) (fun _ _ _ _ _ => True) (fun _ U o U' => ∃ v L, o = .returned v ∧ Q10 Z x0 x1 x2 ka ha va kk kh kw N t hf KA VA sh mo sz H kf q h0 n0 v U'.heap L ∧ FrameEnd U o U' L ({ frames := 1, cells := 0, slots := 0, locals := 13 } : Room).cells ({ frames := 1, cells := 0, slots := 0, locals := 13 } : Room).slots) := by
  refine MetFree.of_bodySF (plainFor_of_name pn_10) hisR ?_
  intro p e s m args below meth c s₁ Bd hml0 hP hK
  obtain ⟨rfl, hZ, hh⟩ := hP
  have hx := Bd.exec
  have hby := Bd.bytes
  have hml : c.maxLocals = 3 := hml0
  have hown : s.vm.findClass "com/example/nehaba/nehaba/input/KeptValues" = some m.cls := findClass_of_methodNamed Bd.named
  have hnm := (name_of_methodNamed Bd.named Bd.method).1
  have X0 : Stand p l e ({ frames := 1, cells := 0, slots := 0, locals := 13 } : Room) s m #[(.ref x0), (.int x1), (.int x2)] below meth c s₁ [] 0 0 := Stand.of_body Bd
  have e0 : s₁.heap = h0 := by rw [← hh, Bd.state]; rfl
  have N0 := Fr.nil n0
  have K0 : Keep h0 h0 [] := Keep.refl h0 _
  refine (?_ : Goes p e below s ({ frames := 1, cells := 0, slots := 0, locals := 13 } : Room).cells ({ frames := 1, cells := 0, slots := 0, locals := 13 } : Room).slots (fun v h L => Q10 Z x0 x1 x2 ka ha va kk kh kw N t hf KA VA sh mo sz H kf q h0 n0 v h L) (s₁.setTop (entryFrame m #[(.ref x0), (.int x1), (.int x2)] 3)))
  rw [ef_10 m x0 x1 x2 ka ha va kk kh kw N t hf KA VA sh mo sz H kf q ]
  have loop : ∀ (kf : Nat) (i : Int32) (T : State) (Lf : List Loc) (X : Stand p l e ({ frames := 1, cells := 0, slots := 0, locals := 13 } : Room) s m #[(.ref x0), (.int x1), (.int x2)] below meth c T Lf 0 0) (eT : T.heap = h0) (NL : Fr n0 Lf), ¬ i < 0 → i.toNatClampNeg < N → seekP t (fun j => decide (H j = x2)) N kf i.toNatClampNeg = some q → Goes p e below s ({ frames := 1, cells := 0, slots := 0, locals := 13 } : Room).cells ({ frames := 1, cells := 0, slots := 0, locals := 13 } : Room).slots (fun v h L => Q10 Z x0 x1 x2 ka ha va kk kh kw N t hf KA VA sh mo sz H kf q h0 n0 v h L) (T.setTop (mkF m 0 #[.val (.ref x0), .val (.int i), .val (.int x2)] [])) := by
    intro kf
    induction kf with
    | zero => intro i T Lf X eT NL h1 h2 hs; exact absurd hs (by simp [seekP])
    | succ kf ih =>
      intro i T Lf X eT NL h1 h2 hs
      refine Goes.step (fun _ k => XS.aloadN X.here hx rfl (hb hby d10_0) rfl rfl k) ?_
      show Goes _ _ _ _ _ _ _ (T.setTop (mkF m 1 #[.val (.ref x0), .val (.int i), .val (.int x2)] [(.ref x0)]))
      obtain ⟨T1, X1, e1, st1⟩ := getF X hx hZ hown (host := "") (Or.inl (hw _ (List.mem_of_getElem? (i := 24) rfl))) Via.refl eT Fk (g := (mkF m 1 #[.val (.ref x0), .val (.int i), .val (.int x2)] [(.ref x0)])) rfl rfl (hb hby d10_1)
      refine Goes.step st1 ?_
      show Goes _ _ _ _ _ _ _ (T1.setTop (mkF m 4 #[.val (.ref x0), .val (.int i), .val (.int x2)] [(.ref ka)]))
      refine Goes.step (fun _ k => XS.iloadN X1.here hx rfl (hb hby d10_4) rfl  k) ?_
      show Goes _ _ _ _ _ _ _ (T1.setTop (mkF m 5 #[.val (.ref x0), .val (.int i), .val (.int x2)] [(.int i), (.ref ka)]))
      obtain ⟨cl2, Ar2, q2, S2, H2⟩ := id Ak
      have hin2 := own_arfin S2 h1 h2
      have hat2 : cl2.slots[(i).toNatClampNeg]? = some (rfv KA (t (i).toNatClampNeg)) := H2 _ h2
      refine Goes.step (fun _ k => X1.aaload hx (j := i) (v := (rfv KA (t (i).toNatClampNeg))) (by rw [e1]; exact Ar2.1) (State.isArrayOf_alike hZ.alike Ar2.2.1) rfl Ar2.2.2 hin2 hat2 (g := (mkF m 5 #[.val (.ref x0), .val (.int i), .val (.int x2)] [(.int i), (.ref ka)])) rfl rfl (hb hby d10_5) _ k) ?_
      show Goes _ _ _ _ _ _ _ (T1.setTop (mkF m 6 #[.val (.ref x0), .val (.int i), .val (.int x2)] [(rfv KA (t (i).toNatClampNeg))]))
      rcases ht3 : t (i).toNatClampNeg with _ | j3
      · refine Goes.step (fun _ k => XS.ifnullYes X1.here hx rfl (pc0 := 6) (pc' := 28) rfl (hb hby d10_6) rfl (by decide) (by decide) k) ?_
        show Goes _ _ _ _ _ _ _ (T1.setTop (mkF m 28 #[.val (.ref x0), .val (.int i), .val (.int x2)] []))
        refine Goes.step (fun _ k => XS.iloadN X1.here hx rfl (hb hby d10_28) rfl  k) ?_
        show Goes _ _ _ _ _ _ _ (T1.setTop (mkF m 29 #[.val (.ref x0), .val (.int i), .val (.int x2)] [(.int i)]))
        exact Goes.ret X1 hx (BodyLoose.notSynchronized Bd) Bd.returns rfl (Or.inl ⟨rfl, by simp, _, rfl⟩) (hb hby d10_29) (by show Q10 Z x0 x1 x2 ka ha va kk kh kw N t hf KA VA sh mo sz H kf q h0 n0 (some (.int i)) T1.heap _; rw [e1]; exact ⟨NL, rfl, i, rfl, h1, own_seekNone ht3 hs, h2⟩) (by decide) (by decide)
      · refine Goes.step (fun _ k => XS.ifnullNo X1.here hx rfl (hb hby d10_6) rfl k) ?_
        show Goes _ _ _ _ _ _ _ (T1.setTop (mkF m 9 #[.val (.ref x0), .val (.int i), .val (.int x2)] []))
        refine Goes.step (fun _ k => XS.aloadN X1.here hx rfl (hb hby d10_9) rfl rfl k) ?_
        show Goes _ _ _ _ _ _ _ (T1.setTop (mkF m 10 #[.val (.ref x0), .val (.int i), .val (.int x2)] [(.ref x0)]))
        obtain ⟨T4, X4, e4, st4⟩ := getF X1 hx hZ hown (host := "") (Or.inl (hw _ (List.mem_of_getElem? (i := 26) rfl))) Via.refl e1 Fh (g := (mkF m 10 #[.val (.ref x0), .val (.int i), .val (.int x2)] [(.ref x0)])) rfl rfl (hb hby d10_10)
        refine Goes.step st4 ?_
        show Goes _ _ _ _ _ _ _ (T4.setTop (mkF m 13 #[.val (.ref x0), .val (.int i), .val (.int x2)] [(.ref ha)]))
        refine Goes.step (fun _ k => XS.iloadN X4.here hx rfl (hb hby d10_13) rfl  k) ?_
        show Goes _ _ _ _ _ _ _ (T4.setTop (mkF m 14 #[.val (.ref x0), .val (.int i), .val (.int x2)] [(.int i), (.ref ha)]))
        obtain ⟨cl5, Ar5, q5, S5, H5⟩ := id Ah
        have hin5 := own_arfin S5 h1 h2
        have hat5 : cl5.slots[(i).toNatClampNeg]? = some (.int (hf (i).toNatClampNeg)) := H5 _ h2
        refine Goes.step (fun _ k => X4.iaload hx (j := i) (v := (.int (hf (i).toNatClampNeg))) (by rw [e4]; exact Ar5.1) (State.isArrayOf_alike hZ.alike Ar5.2.1) Ar5.2.2 hin5 hat5 (g := (mkF m 14 #[.val (.ref x0), .val (.int i), .val (.int x2)] [(.int i), (.ref ha)])) rfl rfl (hb hby d10_14) _ k) ?_
        show Goes _ _ _ _ _ _ _ (T4.setTop (mkF m 15 #[.val (.ref x0), .val (.int i), .val (.int x2)] [(.int (hf (i).toNatClampNeg))]))
        refine Goes.step (fun _ k => XS.iloadN X4.here hx rfl (hb hby d10_15) rfl  k) ?_
        show Goes _ _ _ _ _ _ _ (T4.setTop (mkF m 16 #[.val (.ref x0), .val (.int i), .val (.int x2)] [(.int x2), (.int (hf (i).toNatClampNeg))]))
        by_cases c16_6 : (hf (i).toNatClampNeg) = x2
        · refine Goes.step (fun _ k => XS.icmpYes X4.here hx rfl (pc0 := 16) (pc' := 28) rfl (hb hby d10_16) rfl (teq c16_6).1 (by decide) (by decide) k) ?_
          show Goes _ _ _ _ _ _ _ (T4.setTop (mkF m 28 #[.val (.ref x0), .val (.int i), .val (.int x2)] []))
          refine Goes.step (fun _ k => XS.iloadN X4.here hx rfl (hb hby d10_28) rfl  k) ?_
          show Goes _ _ _ _ _ _ _ (T4.setTop (mkF m 29 #[.val (.ref x0), .val (.int i), .val (.int x2)] [(.int i)]))
          exact Goes.ret X4 hx (BodyLoose.notSynchronized Bd) Bd.returns rfl (Or.inl ⟨rfl, by simp, _, rfl⟩) (hb hby d10_29) (by show Q10 Z x0 x1 x2 ka ha va kk kh kw N t hf KA VA sh mo sz H kf q h0 n0 (some (.int i)) T4.heap _; rw [e4]; exact ⟨NL, rfl, i, rfl, h1, own_seekHit ht3 (by rw [← hH _ _ ht3]; exact decide_eq_true c16_6) hs, h2⟩) (by decide) (by decide)
        · refine Goes.step (fun _ k => XS.icmpNo X4.here hx rfl (hb hby d10_16) rfl (feq c16_6).1 k) ?_
          show Goes _ _ _ _ _ _ _ (T4.setTop (mkF m 19 #[.val (.ref x0), .val (.int i), .val (.int x2)] []))
          refine Goes.step (fun _ k => XS.aloadN X4.here hx rfl (hb hby d10_19) rfl rfl k) ?_
          show Goes _ _ _ _ _ _ _ (T4.setTop (mkF m 20 #[.val (.ref x0), .val (.int i), .val (.int x2)] [(.ref x0)]))
          refine Goes.step (fun _ k => XS.iloadN X4.here hx rfl (hb hby d10_20) rfl  k) ?_
          show Goes _ _ _ _ _ _ _ (T4.setTop (mkF m 21 #[.val (.ref x0), .val (.int i), .val (.int x2)] [(.int i), (.ref x0)]))
          obtain ⟨cq7, q7, q7'⟩ := E0.cell
          obtain ⟨_, _, ⟨T7, L7, k7, n7⟩, -, X7, ⟨Lc7, hQ7, l7, y7, z7⟩, st7⟩ := X4.privateBack hx (y := (⟨"com/example/nehaba/nehaba/input/KeptValues", "after", "(I)I"⟩ : MethodName)) hown (mvT hZ (hw _ (List.mem_of_getElem? (i := 63) rfl))) (mvT hZ (hw _ (List.mem_of_getElem? (i := 64) rfl))) (own_selPriv (mvT hZ (hw _ (List.mem_of_getElem? (i := 36) rfl))) rfl (mvP hZ (hw _ (List.mem_of_getElem? (i := 65) rfl))) (mvT hZ (hw _ (List.mem_of_getElem? (i := 64) rfl))) (by decide)) (Cond.privateMethod_at (mvP hZ (hw _ (List.mem_of_getElem? (i := 65) rfl)) (args := #[]))) (mvT hZ (hw _ (List.mem_of_getElem? (i := 66) rfl))) (by decide) (backOf (W := 0) (rm11 l Z a0 hw [] x0 i ka ha va kk kh kw N t hf KA VA sh mo sz h0 n0 Z0 E0 Fk Fh Fv Fm Fz Fs Ak Ah Av) hZ (hw _ (List.mem_of_getElem? (i := 66) rfl)) (hw _ (List.mem_of_getElem? (i := 3) rfl)) (by decide) (by decide)) (g := (mkF m 21 #[.val (.ref x0), .val (.int i), .val (.int x2)] [(.int i), (.ref x0)])) rfl (by rw [hml]; rfl) (Steps.refl _) (a := x0) (by rw [e4]; exact q7) q7' (argsL := [(.int i)]) (rest := []) (lenOf pd_2 rfl) rfl (by show 2 * 0 + _ ≤ _; exact Nat.le_of_eq rfl) (hb hby d10_21) (fun _ _ => ⟨rfl, e4, (by decide : 0 + 0 ≤ _), (by decide : 0 + 0 ≤ _)⟩)
          dsimp only [Pt.U, Pt.locs, Pt.cells, Pt.slots] at X7 l7 y7 z7 st7 hQ7
          subst l7 y7 z7
          obtain ⟨N7, eh7, hv7⟩ := hQ7
          have NA7 := Fr.app NL N7
          subst hv7
          refine Goes.back st7 ?_
          show Goes _ _ _ _ _ _ _ (T7.setTop (mkF m 24 #[.val (.ref x0), .val (.int i), .val (.int x2)] [(.int ((i + (1 : Int32)) &&& ((N).toInt32 - (1 : Int32))))]))
          refine Goes.step (fun _ k => XS.istoreN X7.here hx rfl (hb hby d10_24) rfl (l' := #[.val (.ref x0), .val (.int ((i + (1 : Int32)) &&& ((N).toInt32 - (1 : Int32)))), .val (.int x2)]) rfl k) ?_
          show Goes _ _ _ _ _ _ _ (T7.setTop (mkF m 25 #[.val (.ref x0), .val (.int ((i + (1 : Int32)) &&& ((N).toInt32 - (1 : Int32)))), .val (.int x2)] []))
          refine Goes.step (fun _ k => XS.goto X7.here hx rfl (pc0 := 25) (pc' := 0) rfl (hb hby d10_25) (by decide) (by decide) k) ?_
          show Goes _ _ _ _ _ _ _ (T7.setTop (mkF m 0 #[.val (.ref x0), .val (.int ((i + (1 : Int32)) &&& ((N).toInt32 - (1 : Int32)))), .val (.int x2)] []))
          exact ih _ _ _ X7 eh7 NA7 (own_after hN h1 h2).1 (own_afterLt hN h1 h2) (by rw [(own_after hN h1 h2).2]; exact own_seekGo ht3 (by rw [← hH _ _ ht3]; exact decide_eq_false c16_6) hs)
  exact loop kf _ _ _ X0 e0 N0 hi1 hi2 hs0
theorem d9_0 : decode prog_31_method_2_code 0 = .ok (.aload_n 0, 1) := by decide +kernel
theorem d9_1 : decode prog_31_method_2_code 1 = .ok (.aload_n 0, 1) := by decide +kernel
theorem d9_2 : decode prog_31_method_2_code 2 = .ok (.iload_n 1, 1) := by decide +kernel
theorem d9_3 : decode prog_31_method_2_code 3 = .ok (.invokevirtual 46, 3) := by decide +kernel
theorem d9_6 : decode prog_31_method_2_code 6 = .ok (.iload_n 1, 1) := by decide +kernel
theorem d9_7 : decode prog_31_method_2_code 7 = .ok (.invokevirtual 49, 3) := by decide +kernel
theorem d9_10 : decode prog_31_method_2_code 10 = .ok (.ireturn, 1) := by decide +kernel
theorem pn_9 : plainName "com/example/nehaba/nehaba/input/KeptValues" = true := by first | (simp [plainName, overriddenIn]; done) | decide +kernel
theorem ef_9 (m : MethodId) (x0 : Addr) (x1 : Int32) (ka : Addr) (ha : Addr) (va : Addr) (kk : ClassId) (kh : ClassId) (kw : ClassId) (N : Nat) (t : Nat → Option Nat) (hf : Nat → Int32) (KA : Nat → Addr) (VA : Nat → Addr) (sh : Int32) (mo : Int32) (sz : Int32) (H : Nat → Int32) (kf : Nat) (q : Nat)  : entryFrame m #[(.ref x0), (.int x1)] 2 = mkF m 0 #[.val (.ref x0), .val (.int x1)] [] := by first | (simp [entryFrame, mkF, argsToLocals, Value.category]; done) | rfl
theorem pd_6 : parseMethodDescriptor "(II)I" = some ⟨[.int, .int], some .int⟩ := by decide +kernel
def Q9 (Z : State) (x0 : Addr) (x1 : Int32) (ka : Addr) (ha : Addr) (va : Addr) (kk : ClassId) (kh : ClassId) (kw : ClassId) (N : Nat) (t : Nat → Option Nat) (hf : Nat → Int32) (KA : Nat → Addr) (VA : Nat → Addr) (sh : Int32) (mo : Int32) (sz : Int32) (H : Nat → Int32) (kf : Nat) (q : Nat) (h0 : Heap) (n0 : Nat) (v : Option Value) (h : Heap) (L : List Loc) : Prop := Fr n0 L ∧ h = h0 ∧ ∃ r : Int32, v = some (.int r) ∧ ¬ r < 0 ∧ r.toNatClampNeg = q ∧ r.toNatClampNeg < N
set_option maxRecDepth 65536 in
set_option maxHeartbeats 40000000 in
theorem rm9 (l : Launch) (Z : State) (a0 : Array Value) (hw : ∀ d ∈ tables_1, d.before a0 Z = true) (ws : List Jvm.Cond) (x0 : Addr) (x1 : Int32) (ka : Addr) (ha : Addr) (va : Addr) (kk : ClassId) (kh : ClassId) (kw : ClassId) (N : Nat) (t : Nat → Option Nat) (hf : Nat → Int32) (KA : Nat → Addr) (VA : Nat → Addr) (sh : Int32) (mo : Int32) (sz : Int32) (H : Nat → Int32) (kf : Nat) (q : Nat) (h0 : Heap) (n0 : Nat) (Z0 : n0 ≤ h0.size) (E0 : Exa Z h0 x0 "com/example/nehaba/nehaba/input/KeptValues") (Fk : Fld Z h0 x0 "com/example/nehaba/nehaba/input/KeptValues" "keys" "[Ljava/lang/Object;" (.ref ka)) (Fh : Fld Z h0 x0 "com/example/nehaba/nehaba/input/KeptValues" "hashes" "[I" (.ref ha)) (Fv : Fld Z h0 x0 "com/example/nehaba/nehaba/input/KeptValues" "values" "[Ljava/lang/Object;" (.ref va)) (Fm : Fld Z h0 x0 "com/example/nehaba/nehaba/input/KeptValues" "most" "I" (.int mo)) (Fz : Fld Z h0 x0 "com/example/nehaba/nehaba/input/KeptValues" "size" "I" (.int sz)) (Fs : Fld Z h0 x0 "com/example/nehaba/nehaba/input/KeptValues" "shift" "I" (.int sh)) (Ak : ArF Z h0 ka kk (.object "java/lang/Object") N (fun j => rfv KA (t j))) (Ah : ArF Z h0 ha kh .int N (fun j => .int (hf j))) (Av : ArF Z h0 va kw (.object "java/lang/Object") N (fun j => rfv VA (t j))) (hN : N = 2 ∨ N = 4 ∨ N = 8) (hH : ∀ p j, t p = some j → hf p = H j) (hS : (N = 2 ∧ sh = 31) ∨ (N = 4 ∧ sh = 30) ∨ (N = 8 ∧ sh = 29)) (hs0 : seekP t (fun j => decide (H j = x1)) N kf (own_f x1 sh).toNatClampNeg = some q) :
    MetFree l (⟨"com/example/nehaba/nehaba/input/KeptValues", "place", "(I)I"⟩ : MethodName) (head1 (Jvm.Cond.code (⟨"com/example/nehaba/nehaba/input/KeptValues", "place", "(I)I"⟩ : MethodName) prog_31_method_2_code 2 (some .int) :: ws) ({ frames := 2, cells := 0, slots := 0, locals := 27 } : Room)) (fun a U => a = #[(.ref x0), (.int x1)] ∧ Z.Warmed39 U.vm ∧ U.heap = h0) (fun _ _ _ _ _ => True) (fun _ U o U' => ∃ v L, o = .returned v ∧ Q9 Z x0 x1 ka ha va kk kh kw N t hf KA VA sh mo sz H kf q h0 n0 v U'.heap L ∧ FrameEnd U o U' L ({ frames := 2, cells := 0, slots := 0, locals := 27 } : Room).cells ({ frames := 2, cells := 0, slots := 0, locals := 27 } : Room).slots) := by
  refine MetFree.of_bodySF (plainFor_of_name pn_9) hisR ?_
  intro p e s m args below meth c s₁ Bd hml0 hP hK
  obtain ⟨rfl, hZ, hh⟩ := hP
  have hx := Bd.exec
  have hby := Bd.bytes
  have hml : c.maxLocals = 2 := hml0
  have hown : s.vm.findClass "com/example/nehaba/nehaba/input/KeptValues" = some m.cls := findClass_of_methodNamed Bd.named
  have hnm := (name_of_methodNamed Bd.named Bd.method).1
  have X0 : Stand p l e ({ frames := 2, cells := 0, slots := 0, locals := 27 } : Room) s m #[(.ref x0), (.int x1)] below meth c s₁ [] 0 0 := Stand.of_body Bd
  have e0 : s₁.heap = h0 := by rw [← hh, Bd.state]; rfl
  have N0 := Fr.nil n0
  have K0 : Keep h0 h0 [] := Keep.refl h0 _
  refine (?_ : Goes p e below s ({ frames := 2, cells := 0, slots := 0, locals := 27 } : Room).cells ({ frames := 2, cells := 0, slots := 0, locals := 27 } : Room).slots (fun v h L => Q9 Z x0 x1 ka ha va kk kh kw N t hf KA VA sh mo sz H kf q h0 n0 v h L) (s₁.setTop (entryFrame m #[(.ref x0), (.int x1)] 2)))
  rw [ef_9 m x0 x1 ka ha va kk kh kw N t hf KA VA sh mo sz H kf q ]
  show Goes _ _ _ _ _ _ _ (s₁.setTop (mkF m 0 #[.val (.ref x0), .val (.int x1)] []))
  refine Goes.step (fun _ k => XS.aloadN X0.here hx rfl (hb hby d9_0) rfl rfl k) ?_
  show Goes _ _ _ _ _ _ _ (s₁.setTop (mkF m 1 #[.val (.ref x0), .val (.int x1)] [(.ref x0)]))
  refine Goes.step (fun _ k => XS.aloadN X0.here hx rfl (hb hby d9_1) rfl rfl k) ?_
  show Goes _ _ _ _ _ _ _ (s₁.setTop (mkF m 2 #[.val (.ref x0), .val (.int x1)] [(.ref x0), (.ref x0)]))
  refine Goes.step (fun _ k => XS.iloadN X0.here hx rfl (hb hby d9_2) rfl  k) ?_
  show Goes _ _ _ _ _ _ _ (s₁.setTop (mkF m 3 #[.val (.ref x0), .val (.int x1)] [(.int x1), (.ref x0), (.ref x0)]))
  obtain ⟨cq1, q1, q1'⟩ := E0.cell
  obtain ⟨_, _, ⟨T1, L1, k1, n1⟩, -, X1, ⟨Lc1, hQ1, l1, y1, z1⟩, st1⟩ := X0.privateBack hx (y := (⟨"com/example/nehaba/nehaba/input/KeptValues", "first", "(I)I"⟩ : MethodName)) hown (mvT hZ (hw _ (List.mem_of_getElem? (i := 40) rfl))) (mvT hZ (hw _ (List.mem_of_getElem? (i := 41) rfl))) (own_selPriv (mvT hZ (hw _ (List.mem_of_getElem? (i := 36) rfl))) rfl (mvP hZ (hw _ (List.mem_of_getElem? (i := 42) rfl))) (mvT hZ (hw _ (List.mem_of_getElem? (i := 41) rfl))) (by decide)) (Cond.privateMethod_at (mvP hZ (hw _ (List.mem_of_getElem? (i := 42) rfl)) (args := #[]))) (mvT hZ (hw _ (List.mem_of_getElem? (i := 43) rfl))) (by decide) (backOf (W := 1) (rm6 l Z a0 hw [] x0 x1 ka ha va kk kh kw N t hf KA VA sh mo sz h0 n0 Z0 E0 Fk Fh Fv Fm Fz Fs Ak Ah Av) hZ (hw _ (List.mem_of_getElem? (i := 43) rfl)) (hw _ (List.mem_of_getElem? (i := 3) rfl)) (by decide) (by decide)) (g := (mkF m 3 #[.val (.ref x0), .val (.int x1)] [(.int x1), (.ref x0), (.ref x0)])) rfl (by rw [hml]; rfl) (Steps.refl _) (a := x0) (by rw [e0]; exact q1) q1' (argsL := [(.int x1)]) (rest := [(.ref x0)]) (lenOf pd_2 rfl) rfl (by show 2 * 0 + _ ≤ _; exact Nat.le_of_eq rfl) (hb hby d9_3) (fun _ _ => ⟨rfl, e0, (by decide : 0 + 0 ≤ _), (by decide : 0 + 0 ≤ _)⟩)
  dsimp only [Pt.U, Pt.locs, Pt.cells, Pt.slots] at X1 l1 y1 z1 st1 hQ1
  subst l1 y1 z1
  obtain ⟨N1, eh1, hv1⟩ := hQ1
  have NA1 := Fr.app N0 N1
  subst hv1
  refine Goes.back st1 ?_
  show Goes _ _ _ _ _ _ _ (T1.setTop (mkF m 6 #[.val (.ref x0), .val (.int x1)] [(.int (own_f x1 sh)), (.ref x0)]))
  refine Goes.step (fun _ k => XS.iloadN X1.here hx rfl (hb hby d9_6) rfl  k) ?_
  show Goes _ _ _ _ _ _ _ (T1.setTop (mkF m 7 #[.val (.ref x0), .val (.int x1)] [(.int x1), (.int (own_f x1 sh)), (.ref x0)]))
  obtain ⟨cq2, q2, q2'⟩ := E0.cell
  obtain ⟨_, _, ⟨T2, L2, k2, n2⟩, -, X2, ⟨Lc2, hQ2, l2, y2, z2⟩, st2⟩ := X1.privateBack hx (y := (⟨"com/example/nehaba/nehaba/input/KeptValues", "seek", "(II)I"⟩ : MethodName)) hown (mvT hZ (hw _ (List.mem_of_getElem? (i := 59) rfl))) (mvT hZ (hw _ (List.mem_of_getElem? (i := 60) rfl))) (own_selPriv (mvT hZ (hw _ (List.mem_of_getElem? (i := 36) rfl))) rfl (mvP hZ (hw _ (List.mem_of_getElem? (i := 61) rfl))) (mvT hZ (hw _ (List.mem_of_getElem? (i := 60) rfl))) (by decide)) (Cond.privateMethod_at (mvP hZ (hw _ (List.mem_of_getElem? (i := 61) rfl)) (args := #[]))) (mvT hZ (hw _ (List.mem_of_getElem? (i := 62) rfl))) (by decide) (backOf (W := 0) (rm10 l Z a0 hw [] x0 (own_f x1 sh) x1 ka ha va kk kh kw N t hf KA VA sh mo sz H kf q h0 n0 Z0 E0 Fk Fh Fv Fm Fz Fs Ak Ah Av hN hH (own_first x1 hS).1 (own_first x1 hS).2 hs0) hZ (hw _ (List.mem_of_getElem? (i := 62) rfl)) (hw _ (List.mem_of_getElem? (i := 3) rfl)) (by decide) (by decide)) (g := (mkF m 7 #[.val (.ref x0), .val (.int x1)] [(.int x1), (.int (own_f x1 sh)), (.ref x0)])) rfl (by rw [hml]; rfl) (Steps.refl _) (a := x0) (by rw [eh1]; exact q2) q2' (argsL := [(.int (own_f x1 sh)), (.int x1)]) (rest := []) (lenOf pd_6 rfl) rfl (by show 2 * 0 + _ ≤ _; exact Nat.le_of_eq rfl) (hb hby d9_7) (fun _ _ => ⟨rfl, eh1, (by decide : 0 + 0 ≤ _), (by decide : 0 + 0 ≤ _)⟩)
  dsimp only [Pt.U, Pt.locs, Pt.cells, Pt.slots] at X2 l2 y2 z2 st2 hQ2
  subst l2 y2 z2
  obtain ⟨N2, eh2, r2, rfl, r1_2, r2_2, r3_2⟩ := hQ2
  have NA2 := Fr.app NA1 N2
  refine Goes.back st2 ?_
  show Goes _ _ _ _ _ _ _ (T2.setTop (mkF m 10 #[.val (.ref x0), .val (.int x1)] [(.int r2)]))
  exact Goes.ret X2 hx (BodyLoose.notSynchronized Bd) Bd.returns rfl (Or.inl ⟨rfl, by simp, _, rfl⟩) (hb hby d9_10) (by show Q9 Z x0 x1 ka ha va kk kh kw N t hf KA VA sh mo sz H kf q h0 n0 (some (.int r2)) T2.heap _; rw [eh2]; exact ⟨NA2, rfl, r2, rfl, r1_2, r2_2, r3_2⟩) (by decide) (by decide)
theorem d12_0 : decode prog_31_method_4_code 0 = .ok (.aload_n 0, 1) := by decide +kernel
theorem d12_1 : decode prog_31_method_4_code 1 = .ok (.getfield 29, 3) := by decide +kernel
theorem d12_4 : decode prog_31_method_4_code 4 = .ok (.iload_n 1, 1) := by decide +kernel
theorem d12_5 : decode prog_31_method_4_code 5 = .ok (.aaload, 1) := by decide +kernel
theorem d12_6 : decode prog_31_method_4_code 6 = .ok (.ifnull 7, 3) := by decide +kernel
theorem d12_9 : decode prog_31_method_4_code 9 = .ok (.iconst 1, 1) := by decide +kernel
theorem d12_10 : decode prog_31_method_4_code 10 = .ok (.goto 4, 3) := by decide +kernel
theorem d12_13 : decode prog_31_method_4_code 13 = .ok (.iconst 0, 1) := by decide +kernel
theorem d12_14 : decode prog_31_method_4_code 14 = .ok (.ireturn, 1) := by decide +kernel
theorem pn_12 : plainName "com/example/nehaba/nehaba/input/KeptValues" = true := by first | (simp [plainName, overriddenIn]; done) | decide +kernel
theorem ef_12 (m : MethodId) (x0 : Addr) (x1 : Int32) (ka : Addr) (ha : Addr) (va : Addr) (kk : ClassId) (kh : ClassId) (kw : ClassId) (N : Nat) (t : Nat → Option Nat) (hf : Nat → Int32) (KA : Nat → Addr) (VA : Nat → Addr) (sh : Int32) (mo : Int32) (sz : Int32)  : entryFrame m #[(.ref x0), (.int x1)] 2 = mkF m 0 #[.val (.ref x0), .val (.int x1)] [] := by first | (simp [entryFrame, mkF, argsToLocals, Value.category]; done) | rfl
def Q12 (Z : State) (x0 : Addr) (x1 : Int32) (ka : Addr) (ha : Addr) (va : Addr) (kk : ClassId) (kh : ClassId) (kw : ClassId) (N : Nat) (t : Nat → Option Nat) (hf : Nat → Int32) (KA : Nat → Addr) (VA : Nat → Addr) (sh : Int32) (mo : Int32) (sz : Int32) (h0 : Heap) (n0 : Nat) (v : Option Value) (h : Heap) (L : List Loc) : Prop := Fr n0 L ∧ h = h0 ∧ v = some (.int (own_b (t x1.toNatClampNeg)))
set_option maxRecDepth 65536 in
set_option maxHeartbeats 40000000 in
theorem rm12 (l : Launch) (Z : State) (a0 : Array Value) (hw : ∀ d ∈ tables_1, d.before a0 Z = true) (ws : List Jvm.Cond) (x0 : Addr) (x1 : Int32) (ka : Addr) (ha : Addr) (va : Addr) (kk : ClassId) (kh : ClassId) (kw : ClassId) (N : Nat) (t : Nat → Option Nat) (hf : Nat → Int32) (KA : Nat → Addr) (VA : Nat → Addr) (sh : Int32) (mo : Int32) (sz : Int32) (h0 : Heap) (n0 : Nat) (Z0 : n0 ≤ h0.size) (E0 : Exa Z h0 x0 "com/example/nehaba/nehaba/input/KeptValues") (Fk : Fld Z h0 x0 "com/example/nehaba/nehaba/input/KeptValues" "keys" "[Ljava/lang/Object;" (.ref ka)) (Fh : Fld Z h0 x0 "com/example/nehaba/nehaba/input/KeptValues" "hashes" "[I" (.ref ha)) (Fv : Fld Z h0 x0 "com/example/nehaba/nehaba/input/KeptValues" "values" "[Ljava/lang/Object;" (.ref va)) (Fm : Fld Z h0 x0 "com/example/nehaba/nehaba/input/KeptValues" "most" "I" (.int mo)) (Fz : Fld Z h0 x0 "com/example/nehaba/nehaba/input/KeptValues" "size" "I" (.int sz)) (Fs : Fld Z h0 x0 "com/example/nehaba/nehaba/input/KeptValues" "shift" "I" (.int sh)) (Ak : ArF Z h0 ka kk (.object "java/lang/Object") N (fun j => rfv KA (t j))) (Ah : ArF Z h0 ha kh .int N (fun j => .int (hf j))) (Av : ArF Z h0 va kw (.object "java/lang/Object") N (fun j => rfv VA (t j))) (hi1 : ¬ x1 < 0) (hi2 : x1.toNatClampNeg < N) :
    MetFree l (⟨"com/example/nehaba/nehaba/input/KeptValues", "holds", "(I)Z"⟩ : MethodName) (head1 (Jvm.Cond.code (⟨"com/example/nehaba/nehaba/input/KeptValues", "holds", "(I)Z"⟩ : MethodName) prog_31_method_4_code 2 (some .boolean) :: ws) ({ frames := 0, cells := 0, slots := 0, locals := 0 } : Room)) (fun a U => a = #[(.ref x0), (.int x1)] ∧ Z.Warmed39 U.vm ∧ U.heap = h0) (fun _ _ _ _ _ => True) (fun _ U o U' => ∃ v L, o = .returned v ∧ Q12 Z x0 x1 ka ha va kk kh kw N t hf KA VA sh mo sz h0 n0 v U'.heap L ∧ FrameEnd U o U' L ({ frames := 0, cells := 0, slots := 0, locals := 0 } : Room).cells ({ frames := 0, cells := 0, slots := 0, locals := 0 } : Room).slots) := by
  refine MetFree.of_bodySF (plainFor_of_name pn_12) hisR ?_
  intro p e s m args below meth c s₁ Bd hml0 hP hK
  obtain ⟨rfl, hZ, hh⟩ := hP
  have hx := Bd.exec
  have hby := Bd.bytes
  have hml : c.maxLocals = 2 := hml0
  have hown : s.vm.findClass "com/example/nehaba/nehaba/input/KeptValues" = some m.cls := findClass_of_methodNamed Bd.named
  have hnm := (name_of_methodNamed Bd.named Bd.method).1
  have X0 : Stand p l e ({ frames := 0, cells := 0, slots := 0, locals := 0 } : Room) s m #[(.ref x0), (.int x1)] below meth c s₁ [] 0 0 := Stand.of_body Bd
  have e0 : s₁.heap = h0 := by rw [← hh, Bd.state]; rfl
  have N0 := Fr.nil n0
  have K0 : Keep h0 h0 [] := Keep.refl h0 _
  refine (?_ : Goes p e below s ({ frames := 0, cells := 0, slots := 0, locals := 0 } : Room).cells ({ frames := 0, cells := 0, slots := 0, locals := 0 } : Room).slots (fun v h L => Q12 Z x0 x1 ka ha va kk kh kw N t hf KA VA sh mo sz h0 n0 v h L) (s₁.setTop (entryFrame m #[(.ref x0), (.int x1)] 2)))
  rw [ef_12 m x0 x1 ka ha va kk kh kw N t hf KA VA sh mo sz ]
  show Goes _ _ _ _ _ _ _ (s₁.setTop (mkF m 0 #[.val (.ref x0), .val (.int x1)] []))
  refine Goes.step (fun _ k => XS.aloadN X0.here hx rfl (hb hby d12_0) rfl rfl k) ?_
  show Goes _ _ _ _ _ _ _ (s₁.setTop (mkF m 1 #[.val (.ref x0), .val (.int x1)] [(.ref x0)]))
  obtain ⟨T1, X1, e1, st1⟩ := getF X0 hx hZ hown (host := "") (Or.inl (hw _ (List.mem_of_getElem? (i := 24) rfl))) Via.refl e0 Fk (g := (mkF m 1 #[.val (.ref x0), .val (.int x1)] [(.ref x0)])) rfl rfl (hb hby d12_1)
  refine Goes.step st1 ?_
  show Goes _ _ _ _ _ _ _ (T1.setTop (mkF m 4 #[.val (.ref x0), .val (.int x1)] [(.ref ka)]))
  refine Goes.step (fun _ k => XS.iloadN X1.here hx rfl (hb hby d12_4) rfl  k) ?_
  show Goes _ _ _ _ _ _ _ (T1.setTop (mkF m 5 #[.val (.ref x0), .val (.int x1)] [(.int x1), (.ref ka)]))
  obtain ⟨cl2, Ar2, q2, S2, H2⟩ := id Ak
  have hin2 := own_arfin S2 hi1 hi2
  have hat2 : cl2.slots[(x1).toNatClampNeg]? = some (rfv KA (t (x1).toNatClampNeg)) := H2 _ hi2
  refine Goes.step (fun _ k => X1.aaload hx (j := x1) (v := (rfv KA (t (x1).toNatClampNeg))) (by rw [e1]; exact Ar2.1) (State.isArrayOf_alike hZ.alike Ar2.2.1) rfl Ar2.2.2 hin2 hat2 (g := (mkF m 5 #[.val (.ref x0), .val (.int x1)] [(.int x1), (.ref ka)])) rfl rfl (hb hby d12_5) _ k) ?_
  show Goes _ _ _ _ _ _ _ (T1.setTop (mkF m 6 #[.val (.ref x0), .val (.int x1)] [(rfv KA (t (x1).toNatClampNeg))]))
  rcases ht3 : t (x1).toNatClampNeg with _ | j3
  · refine Goes.step (fun _ k => XS.ifnullYes X1.here hx rfl (pc0 := 6) (pc' := 13) rfl (hb hby d12_6) rfl (by decide) (by decide) k) ?_
    show Goes _ _ _ _ _ _ _ (T1.setTop (mkF m 13 #[.val (.ref x0), .val (.int x1)] []))
    refine Goes.step (fun _ k => XS.iconst X1.here hx rfl (hb hby d12_13) k) ?_
    show Goes _ _ _ _ _ _ _ (T1.setTop (mkF m 14 #[.val (.ref x0), .val (.int x1)] [(.int (0 : Int32))]))
    exact Goes.ret X1 hx (BodyLoose.notSynchronized Bd) Bd.returns rfl (Or.inl ⟨rfl, by simp, _, rfl⟩) (hb hby d12_14) (by show Q12 Z x0 x1 ka ha va kk kh kw N t hf KA VA sh mo sz h0 n0 (some (.int (0 : Int32))) T1.heap _; rw [e1]; exact ⟨N0, rfl, by rw [ht3]; rfl⟩) (by decide) (by decide)
  · refine Goes.step (fun _ k => XS.ifnullNo X1.here hx rfl (hb hby d12_6) rfl k) ?_
    show Goes _ _ _ _ _ _ _ (T1.setTop (mkF m 9 #[.val (.ref x0), .val (.int x1)] []))
    refine Goes.step (fun _ k => XS.iconst X1.here hx rfl (hb hby d12_9) k) ?_
    show Goes _ _ _ _ _ _ _ (T1.setTop (mkF m 10 #[.val (.ref x0), .val (.int x1)] [(.int (1 : Int32))]))
    refine Goes.step (fun _ k => XS.goto X1.here hx rfl (pc0 := 10) (pc' := 14) rfl (hb hby d12_10) (by decide) (by decide) k) ?_
    show Goes _ _ _ _ _ _ _ (T1.setTop (mkF m 14 #[.val (.ref x0), .val (.int x1)] [(.int (1 : Int32))]))
    exact Goes.ret X1 hx (BodyLoose.notSynchronized Bd) Bd.returns rfl (Or.inl ⟨rfl, by simp, _, rfl⟩) (hb hby d12_14) (by show Q12 Z x0 x1 ka ha va kk kh kw N t hf KA VA sh mo sz h0 n0 (some (.int (1 : Int32))) T1.heap _; rw [e1]; exact ⟨N0, rfl, by rw [ht3]; rfl⟩) (by decide) (by decide)
theorem d13_0 : decode prog_31_method_5_code 0 = .ok (.aload_n 0, 1) := by decide +kernel
theorem d13_1 : decode prog_31_method_5_code 1 = .ok (.getfield 29, 3) := by decide +kernel
theorem d13_4 : decode prog_31_method_5_code 4 = .ok (.iload_n 1, 1) := by decide +kernel
theorem d13_5 : decode prog_31_method_5_code 5 = .ok (.aaload, 1) := by decide +kernel
theorem d13_6 : decode prog_31_method_5_code 6 = .ok (.areturn, 1) := by decide +kernel
theorem pn_13 : plainName "com/example/nehaba/nehaba/input/KeptValues" = true := by first | (simp [plainName, overriddenIn]; done) | decide +kernel
theorem ef_13 (m : MethodId) (x0 : Addr) (x1 : Int32) (ka : Addr) (ha : Addr) (va : Addr) (kk : ClassId) (kh : ClassId) (kw : ClassId) (N : Nat) (t : Nat → Option Nat) (hf : Nat → Int32) (KA : Nat → Addr) (VA : Nat → Addr) (sh : Int32) (mo : Int32) (sz : Int32)  : entryFrame m #[(.ref x0), (.int x1)] 2 = mkF m 0 #[.val (.ref x0), .val (.int x1)] [] := by first | (simp [entryFrame, mkF, argsToLocals, Value.category]; done) | rfl
def Q13 (Z : State) (x0 : Addr) (x1 : Int32) (ka : Addr) (ha : Addr) (va : Addr) (kk : ClassId) (kh : ClassId) (kw : ClassId) (N : Nat) (t : Nat → Option Nat) (hf : Nat → Int32) (KA : Nat → Addr) (VA : Nat → Addr) (sh : Int32) (mo : Int32) (sz : Int32) (h0 : Heap) (n0 : Nat) (v : Option Value) (h : Heap) (L : List Loc) : Prop := Fr n0 L ∧ h = h0 ∧ v = some (rfv KA (t x1.toNatClampNeg))
set_option maxRecDepth 65536 in
set_option maxHeartbeats 40000000 in
theorem rm13 (l : Launch) (Z : State) (a0 : Array Value) (hw : ∀ d ∈ tables_1, d.before a0 Z = true) (ws : List Jvm.Cond) (x0 : Addr) (x1 : Int32) (ka : Addr) (ha : Addr) (va : Addr) (kk : ClassId) (kh : ClassId) (kw : ClassId) (N : Nat) (t : Nat → Option Nat) (hf : Nat → Int32) (KA : Nat → Addr) (VA : Nat → Addr) (sh : Int32) (mo : Int32) (sz : Int32) (h0 : Heap) (n0 : Nat) (Z0 : n0 ≤ h0.size) (E0 : Exa Z h0 x0 "com/example/nehaba/nehaba/input/KeptValues") (Fk : Fld Z h0 x0 "com/example/nehaba/nehaba/input/KeptValues" "keys" "[Ljava/lang/Object;" (.ref ka)) (Fh : Fld Z h0 x0 "com/example/nehaba/nehaba/input/KeptValues" "hashes" "[I" (.ref ha)) (Fv : Fld Z h0 x0 "com/example/nehaba/nehaba/input/KeptValues" "values" "[Ljava/lang/Object;" (.ref va)) (Fm : Fld Z h0 x0 "com/example/nehaba/nehaba/input/KeptValues" "most" "I" (.int mo)) (Fz : Fld Z h0 x0 "com/example/nehaba/nehaba/input/KeptValues" "size" "I" (.int sz)) (Fs : Fld Z h0 x0 "com/example/nehaba/nehaba/input/KeptValues" "shift" "I" (.int sh)) (Ak : ArF Z h0 ka kk (.object "java/lang/Object") N (fun j => rfv KA (t j))) (Ah : ArF Z h0 ha kh .int N (fun j => .int (hf j))) (Av : ArF Z h0 va kw (.object "java/lang/Object") N (fun j => rfv VA (t j))) (hi1 : ¬ x1 < 0) (hi2 : x1.toNatClampNeg < N) :
    MetFree l (⟨"com/example/nehaba/nehaba/input/KeptValues", "key", "(I)Ljava/lang/Object;"⟩ : MethodName) (head1 (Jvm.Cond.code (⟨"com/example/nehaba/nehaba/input/KeptValues", "key", "(I)Ljava/lang/Object;"⟩ : MethodName) prog_31_method_5_code 2 (some (.object "java/lang/Object")) :: ws) ({ frames := 0, cells := 0, slots := 0, locals := 0 } : Room)) (fun a U => a = #[(.ref x0), (.int x1)] ∧ Z.Warmed39 U.vm ∧ U.heap = h0) (fun _ _ _ _ _ => True) (fun _ U o U' => ∃ v L, o = .returned v ∧ Q13 Z x0 x1 ka ha va kk kh kw N t hf KA VA sh mo sz h0 n0 v U'.heap L ∧ FrameEnd U o U' L ({ frames := 0, cells := 0, slots := 0, locals := 0 } : Room).cells ({ frames := 0, cells := 0, slots := 0, locals := 0 } : Room).slots) := by
  refine MetFree.of_bodySF (plainFor_of_name pn_13) hisR ?_
  intro p e s m args below meth c s₁ Bd hml0 hP hK
  obtain ⟨rfl, hZ, hh⟩ := hP
  have hx := Bd.exec
  have hby := Bd.bytes
  have hml : c.maxLocals = 2 := hml0
  have hown : s.vm.findClass "com/example/nehaba/nehaba/input/KeptValues" = some m.cls := findClass_of_methodNamed Bd.named
  have hnm := (name_of_methodNamed Bd.named Bd.method).1
  have X0 : Stand p l e ({ frames := 0, cells := 0, slots := 0, locals := 0 } : Room) s m #[(.ref x0), (.int x1)] below meth c s₁ [] 0 0 := Stand.of_body Bd
  have e0 : s₁.heap = h0 := by rw [← hh, Bd.state]; rfl
  have N0 := Fr.nil n0
  have K0 : Keep h0 h0 [] := Keep.refl h0 _
  refine (?_ : Goes p e below s ({ frames := 0, cells := 0, slots := 0, locals := 0 } : Room).cells ({ frames := 0, cells := 0, slots := 0, locals := 0 } : Room).slots (fun v h L => Q13 Z x0 x1 ka ha va kk kh kw N t hf KA VA sh mo sz h0 n0 v h L) (s₁.setTop (entryFrame m #[(.ref x0), (.int x1)] 2)))
  rw [ef_13 m x0 x1 ka ha va kk kh kw N t hf KA VA sh mo sz ]
  show Goes _ _ _ _ _ _ _ (s₁.setTop (mkF m 0 #[.val (.ref x0), .val (.int x1)] []))
  refine Goes.step (fun _ k => XS.aloadN X0.here hx rfl (hb hby d13_0) rfl rfl k) ?_
  show Goes _ _ _ _ _ _ _ (s₁.setTop (mkF m 1 #[.val (.ref x0), .val (.int x1)] [(.ref x0)]))
  obtain ⟨T1, X1, e1, st1⟩ := getF X0 hx hZ hown (host := "") (Or.inl (hw _ (List.mem_of_getElem? (i := 24) rfl))) Via.refl e0 Fk (g := (mkF m 1 #[.val (.ref x0), .val (.int x1)] [(.ref x0)])) rfl rfl (hb hby d13_1)
  refine Goes.step st1 ?_
  show Goes _ _ _ _ _ _ _ (T1.setTop (mkF m 4 #[.val (.ref x0), .val (.int x1)] [(.ref ka)]))
  refine Goes.step (fun _ k => XS.iloadN X1.here hx rfl (hb hby d13_4) rfl  k) ?_
  show Goes _ _ _ _ _ _ _ (T1.setTop (mkF m 5 #[.val (.ref x0), .val (.int x1)] [(.int x1), (.ref ka)]))
  obtain ⟨cl2, Ar2, q2, S2, H2⟩ := id Ak
  have hin2 := own_arfin S2 hi1 hi2
  have hat2 : cl2.slots[(x1).toNatClampNeg]? = some (rfv KA (t (x1).toNatClampNeg)) := H2 _ hi2
  refine Goes.step (fun _ k => X1.aaload hx (j := x1) (v := (rfv KA (t (x1).toNatClampNeg))) (by rw [e1]; exact Ar2.1) (State.isArrayOf_alike hZ.alike Ar2.2.1) rfl Ar2.2.2 hin2 hat2 (g := (mkF m 5 #[.val (.ref x0), .val (.int x1)] [(.int x1), (.ref ka)])) rfl rfl (hb hby d13_5) _ k) ?_
  show Goes _ _ _ _ _ _ _ (T1.setTop (mkF m 6 #[.val (.ref x0), .val (.int x1)] [(rfv KA (t (x1).toNatClampNeg))]))
  exact Goes.ret X1 hx (BodyLoose.notSynchronized Bd) Bd.returns (own_nar (own_rfv _ _)) (Or.inr (Or.inr (Or.inr (Or.inr ⟨rfl, rfl, (own_rfv _ _)⟩)))) (hb hby d13_6) (by show Q13 Z x0 x1 ka ha va kk kh kw N t hf KA VA sh mo sz h0 n0 (some (rfv KA (t (x1).toNatClampNeg))) T1.heap _; rw [e1]; exact ⟨N0, rfl, rfl⟩) (by decide) (by decide)
theorem d14_0 : decode prog_31_method_6_code 0 = .ok (.aload_n 0, 1) := by decide +kernel
theorem d14_1 : decode prog_31_method_6_code 1 = .ok (.getfield 37, 3) := by decide +kernel
theorem d14_4 : decode prog_31_method_6_code 4 = .ok (.iload_n 1, 1) := by decide +kernel
theorem d14_5 : decode prog_31_method_6_code 5 = .ok (.aaload, 1) := by decide +kernel
theorem d14_6 : decode prog_31_method_6_code 6 = .ok (.areturn, 1) := by decide +kernel
theorem pn_14 : plainName "com/example/nehaba/nehaba/input/KeptValues" = true := by first | (simp [plainName, overriddenIn]; done) | decide +kernel
theorem ef_14 (m : MethodId) (x0 : Addr) (x1 : Int32) (ka : Addr) (ha : Addr) (va : Addr) (kk : ClassId) (kh : ClassId) (kw : ClassId) (N : Nat) (t : Nat → Option Nat) (hf : Nat → Int32) (KA : Nat → Addr) (VA : Nat → Addr) (sh : Int32) (mo : Int32) (sz : Int32)  : entryFrame m #[(.ref x0), (.int x1)] 2 = mkF m 0 #[.val (.ref x0), .val (.int x1)] [] := by first | (simp [entryFrame, mkF, argsToLocals, Value.category]; done) | rfl
def Q14 (Z : State) (x0 : Addr) (x1 : Int32) (ka : Addr) (ha : Addr) (va : Addr) (kk : ClassId) (kh : ClassId) (kw : ClassId) (N : Nat) (t : Nat → Option Nat) (hf : Nat → Int32) (KA : Nat → Addr) (VA : Nat → Addr) (sh : Int32) (mo : Int32) (sz : Int32) (h0 : Heap) (n0 : Nat) (v : Option Value) (h : Heap) (L : List Loc) : Prop := Fr n0 L ∧ h = h0 ∧ v = some (rfv VA (t x1.toNatClampNeg))
set_option maxRecDepth 65536 in
set_option maxHeartbeats 40000000 in
theorem rm14 (l : Launch) (Z : State) (a0 : Array Value) (hw : ∀ d ∈ tables_1, d.before a0 Z = true) (ws : List Jvm.Cond) (x0 : Addr) (x1 : Int32) (ka : Addr) (ha : Addr) (va : Addr) (kk : ClassId) (kh : ClassId) (kw : ClassId) (N : Nat) (t : Nat → Option Nat) (hf : Nat → Int32) (KA : Nat → Addr) (VA : Nat → Addr) (sh : Int32) (mo : Int32) (sz : Int32) (h0 : Heap) (n0 : Nat) (Z0 : n0 ≤ h0.size) (E0 : Exa Z h0 x0 "com/example/nehaba/nehaba/input/KeptValues") (Fk : Fld Z h0 x0 "com/example/nehaba/nehaba/input/KeptValues" "keys" "[Ljava/lang/Object;" (.ref ka)) (Fh : Fld Z h0 x0 "com/example/nehaba/nehaba/input/KeptValues" "hashes" "[I" (.ref ha)) (Fv : Fld Z h0 x0 "com/example/nehaba/nehaba/input/KeptValues" "values" "[Ljava/lang/Object;" (.ref va)) (Fm : Fld Z h0 x0 "com/example/nehaba/nehaba/input/KeptValues" "most" "I" (.int mo)) (Fz : Fld Z h0 x0 "com/example/nehaba/nehaba/input/KeptValues" "size" "I" (.int sz)) (Fs : Fld Z h0 x0 "com/example/nehaba/nehaba/input/KeptValues" "shift" "I" (.int sh)) (Ak : ArF Z h0 ka kk (.object "java/lang/Object") N (fun j => rfv KA (t j))) (Ah : ArF Z h0 ha kh .int N (fun j => .int (hf j))) (Av : ArF Z h0 va kw (.object "java/lang/Object") N (fun j => rfv VA (t j))) (hi1 : ¬ x1 < 0) (hi2 : x1.toNatClampNeg < N) :
    MetFree l (⟨"com/example/nehaba/nehaba/input/KeptValues", "value", "(I)Ljava/lang/Object;"⟩ : MethodName) (head1 (Jvm.Cond.code (⟨"com/example/nehaba/nehaba/input/KeptValues", "value", "(I)Ljava/lang/Object;"⟩ : MethodName) prog_31_method_6_code 2 (some (.object "java/lang/Object")) :: ws) ({ frames := 0, cells := 0, slots := 0, locals := 0 } : Room)) (fun a U => a = #[(.ref x0), (.int x1)] ∧ Z.Warmed39 U.vm ∧ U.heap = h0) (fun _ _ _ _ _ => True) (fun _ U o U' => ∃ v L, o = .returned v ∧ Q14 Z x0 x1 ka ha va kk kh kw N t hf KA VA sh mo sz h0 n0 v U'.heap L ∧ FrameEnd U o U' L ({ frames := 0, cells := 0, slots := 0, locals := 0 } : Room).cells ({ frames := 0, cells := 0, slots := 0, locals := 0 } : Room).slots) := by
  refine MetFree.of_bodySF (plainFor_of_name pn_14) hisR ?_
  intro p e s m args below meth c s₁ Bd hml0 hP hK
  obtain ⟨rfl, hZ, hh⟩ := hP
  have hx := Bd.exec
  have hby := Bd.bytes
  have hml : c.maxLocals = 2 := hml0
  have hown : s.vm.findClass "com/example/nehaba/nehaba/input/KeptValues" = some m.cls := findClass_of_methodNamed Bd.named
  have hnm := (name_of_methodNamed Bd.named Bd.method).1
  have X0 : Stand p l e ({ frames := 0, cells := 0, slots := 0, locals := 0 } : Room) s m #[(.ref x0), (.int x1)] below meth c s₁ [] 0 0 := Stand.of_body Bd
  have e0 : s₁.heap = h0 := by rw [← hh, Bd.state]; rfl
  have N0 := Fr.nil n0
  have K0 : Keep h0 h0 [] := Keep.refl h0 _
  refine (?_ : Goes p e below s ({ frames := 0, cells := 0, slots := 0, locals := 0 } : Room).cells ({ frames := 0, cells := 0, slots := 0, locals := 0 } : Room).slots (fun v h L => Q14 Z x0 x1 ka ha va kk kh kw N t hf KA VA sh mo sz h0 n0 v h L) (s₁.setTop (entryFrame m #[(.ref x0), (.int x1)] 2)))
  rw [ef_14 m x0 x1 ka ha va kk kh kw N t hf KA VA sh mo sz ]
  show Goes _ _ _ _ _ _ _ (s₁.setTop (mkF m 0 #[.val (.ref x0), .val (.int x1)] []))
  refine Goes.step (fun _ k => XS.aloadN X0.here hx rfl (hb hby d14_0) rfl rfl k) ?_
  show Goes _ _ _ _ _ _ _ (s₁.setTop (mkF m 1 #[.val (.ref x0), .val (.int x1)] [(.ref x0)]))
  obtain ⟨T1, X1, e1, st1⟩ := getF X0 hx hZ hown (host := "") (Or.inl (hw _ (List.mem_of_getElem? (i := 28) rfl))) Via.refl e0 Fv (g := (mkF m 1 #[.val (.ref x0), .val (.int x1)] [(.ref x0)])) rfl rfl (hb hby d14_1)
  refine Goes.step st1 ?_
  show Goes _ _ _ _ _ _ _ (T1.setTop (mkF m 4 #[.val (.ref x0), .val (.int x1)] [(.ref va)]))
  refine Goes.step (fun _ k => XS.iloadN X1.here hx rfl (hb hby d14_4) rfl  k) ?_
  show Goes _ _ _ _ _ _ _ (T1.setTop (mkF m 5 #[.val (.ref x0), .val (.int x1)] [(.int x1), (.ref va)]))
  obtain ⟨cl2, Ar2, q2, S2, H2⟩ := id Av
  have hin2 := own_arfin S2 hi1 hi2
  have hat2 : cl2.slots[(x1).toNatClampNeg]? = some (rfv VA (t (x1).toNatClampNeg)) := H2 _ hi2
  refine Goes.step (fun _ k => X1.aaload hx (j := x1) (v := (rfv VA (t (x1).toNatClampNeg))) (by rw [e1]; exact Ar2.1) (State.isArrayOf_alike hZ.alike Ar2.2.1) rfl Ar2.2.2 hin2 hat2 (g := (mkF m 5 #[.val (.ref x0), .val (.int x1)] [(.int x1), (.ref va)])) rfl rfl (hb hby d14_5) _ k) ?_
  show Goes _ _ _ _ _ _ _ (T1.setTop (mkF m 6 #[.val (.ref x0), .val (.int x1)] [(rfv VA (t (x1).toNatClampNeg))]))
  exact Goes.ret X1 hx (BodyLoose.notSynchronized Bd) Bd.returns (own_nar (own_rfv _ _)) (Or.inr (Or.inr (Or.inr (Or.inr ⟨rfl, rfl, (own_rfv _ _)⟩)))) (hb hby d14_6) (by show Q14 Z x0 x1 ka ha va kk kh kw N t hf KA VA sh mo sz h0 n0 (some (rfv VA (t (x1).toNatClampNeg))) T1.heap _; rw [e1]; exact ⟨N0, rfl, rfl⟩) (by decide) (by decide)
theorem d15_0 : decode prog_31_method_3_code 0 = .ok (.aload_n 0, 1) := by decide +kernel
theorem d15_1 : decode prog_31_method_3_code 1 = .ok (.aload_n 0, 1) := by decide +kernel
theorem d15_2 : decode prog_31_method_3_code 2 = .ok (.iload_n 1, 1) := by decide +kernel
theorem d15_3 : decode prog_31_method_3_code 3 = .ok (.invokevirtual 53, 3) := by decide +kernel
theorem d15_6 : decode prog_31_method_3_code 6 = .ok (.iload_n 2, 1) := by decide +kernel
theorem d15_7 : decode prog_31_method_3_code 7 = .ok (.invokevirtual 49, 3) := by decide +kernel
theorem d15_10 : decode prog_31_method_3_code 10 = .ok (.ireturn, 1) := by decide +kernel
theorem pn_15 : plainName "com/example/nehaba/nehaba/input/KeptValues" = true := by first | (simp [plainName, overriddenIn]; done) | decide +kernel
theorem ef_15 (m : MethodId) (x0 : Addr) (x1 : Int32) (x2 : Int32) (ka : Addr) (ha : Addr) (va : Addr) (kk : ClassId) (kh : ClassId) (kw : ClassId) (N : Nat) (t : Nat → Option Nat) (hf : Nat → Int32) (KA : Nat → Addr) (VA : Nat → Addr) (sh : Int32) (mo : Int32) (sz : Int32) (H : Nat → Int32) (kf : Nat) (q : Nat)  : entryFrame m #[(.ref x0), (.int x1), (.int x2)] 3 = mkF m 0 #[.val (.ref x0), .val (.int x1), .val (.int x2)] [] := by first | (simp [entryFrame, mkF, argsToLocals, Value.category]; done) | rfl
def Q15 (Z : State) (x0 : Addr) (x1 : Int32) (x2 : Int32) (ka : Addr) (ha : Addr) (va : Addr) (kk : ClassId) (kh : ClassId) (kw : ClassId) (N : Nat) (t : Nat → Option Nat) (hf : Nat → Int32) (KA : Nat → Addr) (VA : Nat → Addr) (sh : Int32) (mo : Int32) (sz : Int32) (H : Nat → Int32) (kf : Nat) (q : Nat) (h0 : Heap) (n0 : Nat) (v : Option Value) (h : Heap) (L : List Loc) : Prop := Fr n0 L ∧ h = h0 ∧ ∃ r : Int32, v = some (.int r) ∧ ¬ r < 0 ∧ r.toNatClampNeg = q ∧ r.toNatClampNeg < N
set_option maxRecDepth 65536 in
set_option maxHeartbeats 40000000 in
theorem rm15 (l : Launch) (Z : State) (a0 : Array Value) (hw : ∀ d ∈ tables_1, d.before a0 Z = true) (ws : List Jvm.Cond) (x0 : Addr) (x1 : Int32) (x2 : Int32) (ka : Addr) (ha : Addr) (va : Addr) (kk : ClassId) (kh : ClassId) (kw : ClassId) (N : Nat) (t : Nat → Option Nat) (hf : Nat → Int32) (KA : Nat → Addr) (VA : Nat → Addr) (sh : Int32) (mo : Int32) (sz : Int32) (H : Nat → Int32) (kf : Nat) (q : Nat) (h0 : Heap) (n0 : Nat) (Z0 : n0 ≤ h0.size) (E0 : Exa Z h0 x0 "com/example/nehaba/nehaba/input/KeptValues") (Fk : Fld Z h0 x0 "com/example/nehaba/nehaba/input/KeptValues" "keys" "[Ljava/lang/Object;" (.ref ka)) (Fh : Fld Z h0 x0 "com/example/nehaba/nehaba/input/KeptValues" "hashes" "[I" (.ref ha)) (Fv : Fld Z h0 x0 "com/example/nehaba/nehaba/input/KeptValues" "values" "[Ljava/lang/Object;" (.ref va)) (Fm : Fld Z h0 x0 "com/example/nehaba/nehaba/input/KeptValues" "most" "I" (.int mo)) (Fz : Fld Z h0 x0 "com/example/nehaba/nehaba/input/KeptValues" "size" "I" (.int sz)) (Fs : Fld Z h0 x0 "com/example/nehaba/nehaba/input/KeptValues" "shift" "I" (.int sh)) (Ak : ArF Z h0 ka kk (.object "java/lang/Object") N (fun j => rfv KA (t j))) (Ah : ArF Z h0 ha kh .int N (fun j => .int (hf j))) (Av : ArF Z h0 va kw (.object "java/lang/Object") N (fun j => rfv VA (t j))) (hN : N = 2 ∨ N = 4 ∨ N = 8) (hH : ∀ p j, t p = some j → hf p = H j) (hi1 : ¬ x1 < 0) (hi2 : x1.toNatClampNeg < N) (hs0 : seekP t (fun j => decide (H j = x2)) N kf ((x1.toNatClampNeg + 1) % N) = some q) :
    MetFree l (⟨"com/example/nehaba/nehaba/input/KeptValues", "next", "(II)I"⟩ : MethodName) (head1 (Jvm.Cond.code (⟨"com/example/nehaba/nehaba/input/KeptValues", "next", "(II)I"⟩ : MethodName) prog_31_method_3_code 3 (some .int) :: ws) ({ frames := 2, cells := 0, slots := 0, locals := 27 } : Room)) (fun a U => a = #[(.ref x0), (.int x1), (.int x2)] ∧ Z.Warmed39 U.vm ∧ U.heap = h0) (fun _ _ _ _ _ => True) (fun _ U o U' => ∃ v L, o = .returned v ∧ Q15 Z x0 x1 x2 ka ha va kk kh kw N t hf KA VA sh mo sz H kf q h0 n0 v U'.heap L ∧ FrameEnd U o U' L ({ frames := 2, cells := 0, slots := 0, locals := 27 } : Room).cells ({ frames := 2, cells := 0, slots := 0, locals := 27 } : Room).slots) := by
  refine MetFree.of_bodySF (plainFor_of_name pn_15) hisR ?_
  intro p e s m args below meth c s₁ Bd hml0 hP hK
  obtain ⟨rfl, hZ, hh⟩ := hP
  have hx := Bd.exec
  have hby := Bd.bytes
  have hml : c.maxLocals = 3 := hml0
  have hown : s.vm.findClass "com/example/nehaba/nehaba/input/KeptValues" = some m.cls := findClass_of_methodNamed Bd.named
  have hnm := (name_of_methodNamed Bd.named Bd.method).1
  have X0 : Stand p l e ({ frames := 2, cells := 0, slots := 0, locals := 27 } : Room) s m #[(.ref x0), (.int x1), (.int x2)] below meth c s₁ [] 0 0 := Stand.of_body Bd
  have e0 : s₁.heap = h0 := by rw [← hh, Bd.state]; rfl
  have N0 := Fr.nil n0
  have K0 : Keep h0 h0 [] := Keep.refl h0 _
  refine (?_ : Goes p e below s ({ frames := 2, cells := 0, slots := 0, locals := 27 } : Room).cells ({ frames := 2, cells := 0, slots := 0, locals := 27 } : Room).slots (fun v h L => Q15 Z x0 x1 x2 ka ha va kk kh kw N t hf KA VA sh mo sz H kf q h0 n0 v h L) (s₁.setTop (entryFrame m #[(.ref x0), (.int x1), (.int x2)] 3)))
  rw [ef_15 m x0 x1 x2 ka ha va kk kh kw N t hf KA VA sh mo sz H kf q ]
  show Goes _ _ _ _ _ _ _ (s₁.setTop (mkF m 0 #[.val (.ref x0), .val (.int x1), .val (.int x2)] []))
  refine Goes.step (fun _ k => XS.aloadN X0.here hx rfl (hb hby d15_0) rfl rfl k) ?_
  show Goes _ _ _ _ _ _ _ (s₁.setTop (mkF m 1 #[.val (.ref x0), .val (.int x1), .val (.int x2)] [(.ref x0)]))
  refine Goes.step (fun _ k => XS.aloadN X0.here hx rfl (hb hby d15_1) rfl rfl k) ?_
  show Goes _ _ _ _ _ _ _ (s₁.setTop (mkF m 2 #[.val (.ref x0), .val (.int x1), .val (.int x2)] [(.ref x0), (.ref x0)]))
  refine Goes.step (fun _ k => XS.iloadN X0.here hx rfl (hb hby d15_2) rfl  k) ?_
  show Goes _ _ _ _ _ _ _ (s₁.setTop (mkF m 3 #[.val (.ref x0), .val (.int x1), .val (.int x2)] [(.int x1), (.ref x0), (.ref x0)]))
  obtain ⟨cq1, q1, q1'⟩ := E0.cell
  obtain ⟨_, _, ⟨T1, L1, k1, n1⟩, -, X1, ⟨Lc1, hQ1, l1, y1, z1⟩, st1⟩ := X0.privateBack hx (y := (⟨"com/example/nehaba/nehaba/input/KeptValues", "after", "(I)I"⟩ : MethodName)) hown (mvT hZ (hw _ (List.mem_of_getElem? (i := 63) rfl))) (mvT hZ (hw _ (List.mem_of_getElem? (i := 64) rfl))) (own_selPriv (mvT hZ (hw _ (List.mem_of_getElem? (i := 36) rfl))) rfl (mvP hZ (hw _ (List.mem_of_getElem? (i := 65) rfl))) (mvT hZ (hw _ (List.mem_of_getElem? (i := 64) rfl))) (by decide)) (Cond.privateMethod_at (mvP hZ (hw _ (List.mem_of_getElem? (i := 65) rfl)) (args := #[]))) (mvT hZ (hw _ (List.mem_of_getElem? (i := 66) rfl))) (by decide) (backOf (W := 1) (rm11 l Z a0 hw [] x0 x1 ka ha va kk kh kw N t hf KA VA sh mo sz h0 n0 Z0 E0 Fk Fh Fv Fm Fz Fs Ak Ah Av) hZ (hw _ (List.mem_of_getElem? (i := 66) rfl)) (hw _ (List.mem_of_getElem? (i := 3) rfl)) (by decide) (by decide)) (g := (mkF m 3 #[.val (.ref x0), .val (.int x1), .val (.int x2)] [(.int x1), (.ref x0), (.ref x0)])) rfl (by rw [hml]; rfl) (Steps.refl _) (a := x0) (by rw [e0]; exact q1) q1' (argsL := [(.int x1)]) (rest := [(.ref x0)]) (lenOf pd_2 rfl) rfl (by show 2 * 0 + _ ≤ _; exact Nat.le_of_eq rfl) (hb hby d15_3) (fun _ _ => ⟨rfl, e0, (by decide : 0 + 0 ≤ _), (by decide : 0 + 0 ≤ _)⟩)
  dsimp only [Pt.U, Pt.locs, Pt.cells, Pt.slots] at X1 l1 y1 z1 st1 hQ1
  subst l1 y1 z1
  obtain ⟨N1, eh1, hv1⟩ := hQ1
  have NA1 := Fr.app N0 N1
  subst hv1
  refine Goes.back st1 ?_
  show Goes _ _ _ _ _ _ _ (T1.setTop (mkF m 6 #[.val (.ref x0), .val (.int x1), .val (.int x2)] [(.int ((x1 + (1 : Int32)) &&& ((N).toInt32 - (1 : Int32)))), (.ref x0)]))
  refine Goes.step (fun _ k => XS.iloadN X1.here hx rfl (hb hby d15_6) rfl  k) ?_
  show Goes _ _ _ _ _ _ _ (T1.setTop (mkF m 7 #[.val (.ref x0), .val (.int x1), .val (.int x2)] [(.int x2), (.int ((x1 + (1 : Int32)) &&& ((N).toInt32 - (1 : Int32)))), (.ref x0)]))
  obtain ⟨cq2, q2, q2'⟩ := E0.cell
  obtain ⟨_, _, ⟨T2, L2, k2, n2⟩, -, X2, ⟨Lc2, hQ2, l2, y2, z2⟩, st2⟩ := X1.privateBack hx (y := (⟨"com/example/nehaba/nehaba/input/KeptValues", "seek", "(II)I"⟩ : MethodName)) hown (mvT hZ (hw _ (List.mem_of_getElem? (i := 59) rfl))) (mvT hZ (hw _ (List.mem_of_getElem? (i := 60) rfl))) (own_selPriv (mvT hZ (hw _ (List.mem_of_getElem? (i := 36) rfl))) rfl (mvP hZ (hw _ (List.mem_of_getElem? (i := 61) rfl))) (mvT hZ (hw _ (List.mem_of_getElem? (i := 60) rfl))) (by decide)) (Cond.privateMethod_at (mvP hZ (hw _ (List.mem_of_getElem? (i := 61) rfl)) (args := #[]))) (mvT hZ (hw _ (List.mem_of_getElem? (i := 62) rfl))) (by decide) (backOf (W := 0) (rm10 l Z a0 hw [] x0 ((x1 + (1 : Int32)) &&& ((N).toInt32 - (1 : Int32))) x2 ka ha va kk kh kw N t hf KA VA sh mo sz H kf q h0 n0 Z0 E0 Fk Fh Fv Fm Fz Fs Ak Ah Av hN hH (own_after hN hi1 hi2).1 (own_afterLt hN hi1 hi2) (by rw [(own_after hN hi1 hi2).2]; exact hs0)) hZ (hw _ (List.mem_of_getElem? (i := 62) rfl)) (hw _ (List.mem_of_getElem? (i := 3) rfl)) (by decide) (by decide)) (g := (mkF m 7 #[.val (.ref x0), .val (.int x1), .val (.int x2)] [(.int x2), (.int ((x1 + (1 : Int32)) &&& ((N).toInt32 - (1 : Int32)))), (.ref x0)])) rfl (by rw [hml]; rfl) (Steps.refl _) (a := x0) (by rw [eh1]; exact q2) q2' (argsL := [(.int ((x1 + (1 : Int32)) &&& ((N).toInt32 - (1 : Int32)))), (.int x2)]) (rest := []) (lenOf pd_6 rfl) rfl (by show 2 * 0 + _ ≤ _; exact Nat.le_of_eq rfl) (hb hby d15_7) (fun _ _ => ⟨rfl, eh1, (by decide : 0 + 0 ≤ _), (by decide : 0 + 0 ≤ _)⟩)
  dsimp only [Pt.U, Pt.locs, Pt.cells, Pt.slots] at X2 l2 y2 z2 st2 hQ2
  subst l2 y2 z2
  obtain ⟨N2, eh2, r2, rfl, r1_2, r2_2, r3_2⟩ := hQ2
  have NA2 := Fr.app NA1 N2
  refine Goes.back st2 ?_
  show Goes _ _ _ _ _ _ _ (T2.setTop (mkF m 10 #[.val (.ref x0), .val (.int x1), .val (.int x2)] [(.int r2)]))
  exact Goes.ret X2 hx (BodyLoose.notSynchronized Bd) Bd.returns rfl (Or.inl ⟨rfl, by simp, _, rfl⟩) (hb hby d15_10) (by show Q15 Z x0 x1 x2 ka ha va kk kh kw N t hf KA VA sh mo sz H kf q h0 n0 (some (.int r2)) T2.heap _; rw [eh2]; exact ⟨NA2, rfl, r2, rfl, r1_2, r2_2, r3_2⟩) (by decide) (by decide)
theorem d8_0 : decode method_3_code 0 = .ok (.aload_n 0, 1) := by decide +kernel
theorem d8_1 : decode method_3_code 1 = .ok (.iload_n 1, 1) := by decide +kernel
theorem d8_2 : decode method_3_code 2 = .ok (.invokevirtual 22, 3) := by decide +kernel
theorem d8_5 : decode method_3_code 5 = .ok (.istore_n 3, 1) := by decide +kernel
theorem d8_6 : decode method_3_code 6 = .ok (.aload_n 0, 1) := by decide +kernel
theorem d8_7 : decode method_3_code 7 = .ok (.iload_n 3, 1) := by decide +kernel
theorem d8_8 : decode method_3_code 8 = .ok (.invokevirtual 26, 3) := by decide +kernel
theorem d8_11 : decode method_3_code 11 = .ok (.ifCond .ne 5, 3) := by decide +kernel
theorem d8_14 : decode method_3_code 14 = .ok (.aconst_null, 1) := by decide +kernel
theorem d8_15 : decode method_3_code 15 = .ok (.areturn, 1) := by decide +kernel
theorem d8_16 : decode method_3_code 16 = .ok (.aload_n 0, 1) := by decide +kernel
theorem d8_17 : decode method_3_code 17 = .ok (.iload_n 3, 1) := by decide +kernel
theorem d8_18 : decode method_3_code 18 = .ok (.invokevirtual 30, 3) := by decide +kernel
theorem d8_21 : decode method_3_code 21 = .ok (.aload_n 2, 1) := by decide +kernel
theorem d8_22 : decode method_3_code 22 = .ok (.if_acmp .ne 9, 3) := by decide +kernel
theorem d8_25 : decode method_3_code 25 = .ok (.aload_n 0, 1) := by decide +kernel
theorem d8_26 : decode method_3_code 26 = .ok (.iload_n 3, 1) := by decide +kernel
theorem d8_27 : decode method_3_code 27 = .ok (.invokevirtual 34, 3) := by decide +kernel
theorem d8_30 : decode method_3_code 30 = .ok (.areturn, 1) := by decide +kernel
theorem d8_31 : decode method_3_code 31 = .ok (.aload_n 0, 1) := by decide +kernel
theorem d8_32 : decode method_3_code 32 = .ok (.iload_n 3, 1) := by decide +kernel
theorem d8_33 : decode method_3_code 33 = .ok (.iload_n 1, 1) := by decide +kernel
theorem d8_34 : decode method_3_code 34 = .ok (.invokevirtual 37, 3) := by decide +kernel
theorem d8_37 : decode method_3_code 37 = .ok (.istore_n 3, 1) := by decide +kernel
theorem d8_38 : decode method_3_code 38 = .ok (.aload_n 0, 1) := by decide +kernel
theorem d8_39 : decode method_3_code 39 = .ok (.iload_n 3, 1) := by decide +kernel
theorem d8_40 : decode method_3_code 40 = .ok (.invokevirtual 26, 3) := by decide +kernel
theorem d8_43 : decode method_3_code 43 = .ok (.ifCond .ne 5, 3) := by decide +kernel
theorem d8_46 : decode method_3_code 46 = .ok (.aconst_null, 1) := by decide +kernel
theorem d8_47 : decode method_3_code 47 = .ok (.areturn, 1) := by decide +kernel
theorem d8_48 : decode method_3_code 48 = .ok (.aload_n 0, 1) := by decide +kernel
theorem d8_49 : decode method_3_code 49 = .ok (.iload_n 3, 1) := by decide +kernel
theorem d8_50 : decode method_3_code 50 = .ok (.invokevirtual 30, 3) := by decide +kernel
theorem d8_53 : decode method_3_code 53 = .ok (.aload_n 2, 1) := by decide +kernel
theorem d8_54 : decode method_3_code 54 = .ok (.if_acmp .ne 9, 3) := by decide +kernel
theorem d8_57 : decode method_3_code 57 = .ok (.aload_n 0, 1) := by decide +kernel
theorem d8_58 : decode method_3_code 58 = .ok (.iload_n 3, 1) := by decide +kernel
theorem d8_59 : decode method_3_code 59 = .ok (.invokevirtual 34, 3) := by decide +kernel
theorem d8_62 : decode method_3_code 62 = .ok (.areturn, 1) := by decide +kernel
theorem d8_63 : decode method_3_code 63 = .ok (.aload_n 0, 1) := by decide +kernel
theorem d8_64 : decode method_3_code 64 = .ok (.iload_n 3, 1) := by decide +kernel
theorem d8_65 : decode method_3_code 65 = .ok (.iload_n 1, 1) := by decide +kernel
theorem d8_66 : decode method_3_code 66 = .ok (.invokevirtual 37, 3) := by decide +kernel
theorem d8_69 : decode method_3_code 69 = .ok (.istore_n 3, 1) := by decide +kernel
theorem d8_70 : decode method_3_code 70 = .ok (.aload_n 0, 1) := by decide +kernel
theorem d8_71 : decode method_3_code 71 = .ok (.iload_n 3, 1) := by decide +kernel
theorem d8_72 : decode method_3_code 72 = .ok (.invokevirtual 26, 3) := by decide +kernel
theorem d8_75 : decode method_3_code 75 = .ok (.ifCond .ne 5, 3) := by decide +kernel
theorem d8_78 : decode method_3_code 78 = .ok (.aconst_null, 1) := by decide +kernel
theorem d8_79 : decode method_3_code 79 = .ok (.areturn, 1) := by decide +kernel
theorem d8_80 : decode method_3_code 80 = .ok (.aload_n 0, 1) := by decide +kernel
theorem d8_81 : decode method_3_code 81 = .ok (.iload_n 3, 1) := by decide +kernel
theorem d8_82 : decode method_3_code 82 = .ok (.invokevirtual 30, 3) := by decide +kernel
theorem d8_85 : decode method_3_code 85 = .ok (.aload_n 2, 1) := by decide +kernel
theorem d8_86 : decode method_3_code 86 = .ok (.if_acmp .ne 9, 3) := by decide +kernel
theorem d8_89 : decode method_3_code 89 = .ok (.aload_n 0, 1) := by decide +kernel
theorem d8_90 : decode method_3_code 90 = .ok (.iload_n 3, 1) := by decide +kernel
theorem d8_91 : decode method_3_code 91 = .ok (.invokevirtual 34, 3) := by decide +kernel
theorem d8_94 : decode method_3_code 94 = .ok (.areturn, 1) := by decide +kernel
theorem d8_95 : decode method_3_code 95 = .ok (.aconst_null, 1) := by decide +kernel
theorem d8_96 : decode method_3_code 96 = .ok (.areturn, 1) := by decide +kernel
theorem pn_8 : plainName "com/example/nehaba/nehaba/input/KeptValuesPutPinLaw" = true := by first | (simp [plainName, overriddenIn]; done) | decide +kernel
theorem ef_8 (m : MethodId) (x0 : Addr) (x1 : Int32) (x2 : Addr) (ka : Addr) (ha : Addr) (va : Addr) (kk : ClassId) (kh : ClassId) (kw : ClassId) (N : Nat) (t : Nat → Option Nat) (hf : Nat → Int32) (KA : Nat → Addr) (VA : Nat → Addr) (sh : Int32) (mo : Int32) (sz : Int32) (H : Nat → Int32) (i0 : Nat) (res : Option Nat)  : entryFrame m #[(.ref x0), (.int x1), (.ref x2)] 4 = mkF m 0 #[.val (.ref x0), .val (.int x1), .val (.ref x2), .unset] [] := by first | (simp [entryFrame, mkF, argsToLocals, Value.category]; done) | rfl
theorem pd_7 : parseMethodDescriptor "(I)Z" = some ⟨[.int], some .boolean⟩ := by decide +kernel
theorem pd_8 : parseMethodDescriptor "(I)Ljava/lang/Object;" = some ⟨[.int], some (.object "java/lang/Object")⟩ := by decide +kernel
def Q8 (Z : State) (x0 : Addr) (x1 : Int32) (x2 : Addr) (ka : Addr) (ha : Addr) (va : Addr) (kk : ClassId) (kh : ClassId) (kw : ClassId) (N : Nat) (t : Nat → Option Nat) (hf : Nat → Int32) (KA : Nat → Addr) (VA : Nat → Addr) (sh : Int32) (mo : Int32) (sz : Int32) (H : Nat → Int32) (i0 : Nat) (res : Option Nat) (h0 : Heap) (n0 : Nat) (v : Option Value) (h : Heap) (L : List Loc) : Prop := Fr n0 L ∧ h = h0 ∧ v = some (rfv VA res)
set_option maxRecDepth 65536 in
set_option maxHeartbeats 40000000 in
theorem rm8 (l : Launch) (Z : State) (a0 : Array Value) (hw : ∀ d ∈ tables_1, d.before a0 Z = true) (ws : List Jvm.Cond) (x0 : Addr) (x1 : Int32) (x2 : Addr) (ka : Addr) (ha : Addr) (va : Addr) (kk : ClassId) (kh : ClassId) (kw : ClassId) (N : Nat) (t : Nat → Option Nat) (hf : Nat → Int32) (KA : Nat → Addr) (VA : Nat → Addr) (sh : Int32) (mo : Int32) (sz : Int32) (H : Nat → Int32) (i0 : Nat) (res : Option Nat) (h0 : Heap) (n0 : Nat) (Z0 : n0 ≤ h0.size) (E0 : Exa Z h0 x0 "com/example/nehaba/nehaba/input/KeptValues") (Fk : Fld Z h0 x0 "com/example/nehaba/nehaba/input/KeptValues" "keys" "[Ljava/lang/Object;" (.ref ka)) (Fh : Fld Z h0 x0 "com/example/nehaba/nehaba/input/KeptValues" "hashes" "[I" (.ref ha)) (Fv : Fld Z h0 x0 "com/example/nehaba/nehaba/input/KeptValues" "values" "[Ljava/lang/Object;" (.ref va)) (Fm : Fld Z h0 x0 "com/example/nehaba/nehaba/input/KeptValues" "most" "I" (.int mo)) (Fz : Fld Z h0 x0 "com/example/nehaba/nehaba/input/KeptValues" "size" "I" (.int sz)) (Fs : Fld Z h0 x0 "com/example/nehaba/nehaba/input/KeptValues" "shift" "I" (.int sh)) (Ak : ArF Z h0 ka kk (.object "java/lang/Object") N (fun j => rfv KA (t j))) (Ah : ArF Z h0 ha kh .int N (fun j => .int (hf j))) (Av : ArF Z h0 va kw (.object "java/lang/Object") N (fun j => rfv VA (t j))) (hN : N = 2 ∨ N = 4 ∨ N = 8) (hH : ∀ p j, t p = some j → hf p = H j) (hS : (N = 2 ∧ sh = 31) ∨ (N = 4 ∧ sh = 30) ∨ (N = 8 ∧ sh = 29)) (hka : KA i0 = x2) (hinj : ∀ j, (∃ p, t p = some j) → KA j = x2 → j = i0) (fr : findP t (fun j => decide (H j = x1)) N i0 (own_f x1 sh).toNatClampNeg = some res) :
    MetFree l (⟨"com/example/nehaba/nehaba/input/KeptValuesPutPinLaw", "find", "(Lcom/example/nehaba/nehaba/input/KeptValues;ILjava/lang/Object;)Ljava/lang/Object;"⟩ : MethodName) (head1 (Jvm.Cond.code (⟨"com/example/nehaba/nehaba/input/KeptValuesPutPinLaw", "find", "(Lcom/example/nehaba/nehaba/input/KeptValues;ILjava/lang/Object;)Ljava/lang/Object;"⟩ : MethodName) method_3_code 4 (some (.object "java/lang/Object")) :: ws) ({ frames := 3, cells := 0, slots := 0, locals := 41 } : Room)) (fun a U => a = #[(.ref x0), (.int x1), (.ref x2)] ∧ Z.Warmed39 U.vm ∧ U.heap = h0) (fun _ _ _ _ _ => True) (fun _ U o U' => ∃ v L, o = .returned v ∧ Q8 Z x0 x1 x2 ka ha va kk kh kw N t hf KA VA sh mo sz H i0 res h0 n0 v U'.heap L ∧ FrameEnd U o U' L ({ frames := 3, cells := 0, slots := 0, locals := 41 } : Room).cells ({ frames := 3, cells := 0, slots := 0, locals := 41 } : Room).slots) := by
  refine MetFree.of_bodySF (plainFor_of_name pn_8) hisR ?_
  intro p e s m args below meth c s₁ Bd hml0 hP hK
  obtain ⟨rfl, hZ, hh⟩ := hP
  have hx := Bd.exec
  have hby := Bd.bytes
  have hml : c.maxLocals = 4 := hml0
  have hown : s.vm.findClass "com/example/nehaba/nehaba/input/KeptValuesPutPinLaw" = some m.cls := findClass_of_methodNamed Bd.named
  have hnm := (name_of_methodNamed Bd.named Bd.method).1
  have X0 : Stand p l e ({ frames := 3, cells := 0, slots := 0, locals := 41 } : Room) s m #[(.ref x0), (.int x1), (.ref x2)] below meth c s₁ [] 0 0 := Stand.of_body Bd
  have e0 : s₁.heap = h0 := by rw [← hh, Bd.state]; rfl
  have N0 := Fr.nil n0
  have K0 : Keep h0 h0 [] := Keep.refl h0 _
  refine (?_ : Goes p e below s ({ frames := 3, cells := 0, slots := 0, locals := 41 } : Room).cells ({ frames := 3, cells := 0, slots := 0, locals := 41 } : Room).slots (fun v h L => Q8 Z x0 x1 x2 ka ha va kk kh kw N t hf KA VA sh mo sz H i0 res h0 n0 v h L) (s₁.setTop (entryFrame m #[(.ref x0), (.int x1), (.ref x2)] 4)))
  rw [ef_8 m x0 x1 x2 ka ha va kk kh kw N t hf KA VA sh mo sz H i0 res ]
  show Goes _ _ _ _ _ _ _ (s₁.setTop (mkF m 0 #[.val (.ref x0), .val (.int x1), .val (.ref x2), .unset] []))
  refine Goes.step (fun _ k => XS.aloadN X0.here hx rfl (hb hby d8_0) rfl rfl k) ?_
  show Goes _ _ _ _ _ _ _ (s₁.setTop (mkF m 1 #[.val (.ref x0), .val (.int x1), .val (.ref x2), .unset] [(.ref x0)]))
  refine Goes.step (fun _ k => XS.iloadN X0.here hx rfl (hb hby d8_1) rfl  k) ?_
  show Goes _ _ _ _ _ _ _ (s₁.setTop (mkF m 2 #[.val (.ref x0), .val (.int x1), .val (.ref x2), .unset] [(.int x1), (.ref x0)]))
  rcases hs0 : seekP t (fun j => decide (H j = x1)) N 9 (own_f x1 sh).toNatClampNeg with _ | p0
  · exact absurd fr (by simp only [findP, hs0]; simp)
  · obtain ⟨cq1, kq1, q1a, q1b, q1c⟩ := isOf hZ e0 E0
    obtain ⟨_, _, ⟨T1, L1, k1, n1⟩, -, X1, ⟨Lc1, hQ1, l1, y1, z1⟩, st1⟩ := X0.virtualBack hx (y := (⟨"com/example/nehaba/nehaba/input/KeptValues", "place", "(I)I"⟩ : MethodName)) (z := (⟨"com/example/nehaba/nehaba/input/KeptValues", "place", "(I)I"⟩ : MethodName)) hown (mvT hZ (hw _ (List.mem_of_getElem? (i := 54) rfl))) (mvT hZ (hw _ (List.mem_of_getElem? (i := 55) rfl))) (notFace_of_selects (args := #[]) (mvT hZ (hw _ (List.mem_of_getElem? (i := 57) rfl)))) (mvT hZ (hw _ (List.mem_of_getElem? (i := 57) rfl))) (mvT hZ (hw _ (List.mem_of_getElem? (i := 56) rfl))) (by decide) (backOf (W := 0) (rm9 l Z a0 hw [] x0 x1 ka ha va kk kh kw N t hf KA VA sh mo sz H 9 p0 h0 n0 Z0 E0 Fk Fh Fv Fm Fz Fs Ak Ah Av hN hH hS hs0) hZ (hw _ (List.mem_of_getElem? (i := 58) rfl)) (hw _ (List.mem_of_getElem? (i := 3) rfl)) (by decide) (by decide)) q1a q1c (g := (mkF m 2 #[.val (.ref x0), .val (.int x1), .val (.ref x2), .unset] [(.int x1), (.ref x0)])) rfl (by rw [hml]; rfl) (Steps.refl _) (argsL := [(.int x1)]) (rest := []) (lenOf pd_2 rfl) rfl (by show 2 * 0 + _ ≤ _; exact Nat.le_of_eq rfl) (hb hby d8_2) (fun _ _ => ⟨rfl, e0, (by decide : 0 + 0 ≤ _), (by decide : 0 + 0 ≤ _)⟩)
    dsimp only [Pt.U, Pt.locs, Pt.cells, Pt.slots] at X1 l1 y1 z1 st1 hQ1
    subst l1 y1 z1
    obtain ⟨N1, eh1, r1, rfl, r1_1, r2_1, r3_1⟩ := hQ1
    have NA1 := Fr.app N0 N1
    refine Goes.back st1 ?_
    show Goes _ _ _ _ _ _ _ (T1.setTop (mkF m 5 #[.val (.ref x0), .val (.int x1), .val (.ref x2), .unset] [(.int r1)]))
    refine Goes.step (fun _ k => XS.istoreN X1.here hx rfl (hb hby d8_5) rfl (l' := #[.val (.ref x0), .val (.int x1), .val (.ref x2), .val (.int r1)]) rfl k) ?_
    show Goes _ _ _ _ _ _ _ (T1.setTop (mkF m 6 #[.val (.ref x0), .val (.int x1), .val (.ref x2), .val (.int r1)] []))
    rcases ht0 : t p0 with _ | j0
    · refine Goes.step (fun _ k => XS.aloadN X1.here hx rfl (hb hby d8_6) rfl rfl k) ?_
      show Goes _ _ _ _ _ _ _ (T1.setTop (mkF m 7 #[.val (.ref x0), .val (.int x1), .val (.ref x2), .val (.int r1)] [(.ref x0)]))
      refine Goes.step (fun _ k => XS.iloadN X1.here hx rfl (hb hby d8_7) rfl  k) ?_
      show Goes _ _ _ _ _ _ _ (T1.setTop (mkF m 8 #[.val (.ref x0), .val (.int x1), .val (.ref x2), .val (.int r1)] [(.int r1), (.ref x0)]))
      obtain ⟨cq2, kq2, q2a, q2b, q2c⟩ := isOf hZ eh1 E0
      obtain ⟨_, _, ⟨T2, L2, k2, n2⟩, -, X2, ⟨Lc2, hQ2, l2, y2, z2⟩, st2⟩ := X1.virtualBack hx (y := (⟨"com/example/nehaba/nehaba/input/KeptValues", "holds", "(I)Z"⟩ : MethodName)) (z := (⟨"com/example/nehaba/nehaba/input/KeptValues", "holds", "(I)Z"⟩ : MethodName)) hown (mvT hZ (hw _ (List.mem_of_getElem? (i := 67) rfl))) (mvT hZ (hw _ (List.mem_of_getElem? (i := 68) rfl))) (notFace_of_selects (args := #[]) (mvT hZ (hw _ (List.mem_of_getElem? (i := 70) rfl)))) (mvT hZ (hw _ (List.mem_of_getElem? (i := 70) rfl))) (mvT hZ (hw _ (List.mem_of_getElem? (i := 69) rfl))) (by decide) (backOf (W := 0) (rm12 l Z a0 hw [] x0 r1 ka ha va kk kh kw N t hf KA VA sh mo sz h0 n0 Z0 E0 Fk Fh Fv Fm Fz Fs Ak Ah Av r1_1 r3_1) hZ (hw _ (List.mem_of_getElem? (i := 71) rfl)) (hw _ (List.mem_of_getElem? (i := 3) rfl)) (by decide) (by decide)) q2a q2c (g := (mkF m 8 #[.val (.ref x0), .val (.int x1), .val (.ref x2), .val (.int r1)] [(.int r1), (.ref x0)])) rfl (by rw [hml]; rfl) (Steps.refl _) (argsL := [(.int r1)]) (rest := []) (lenOf pd_7 rfl) rfl (by show 2 * 0 + _ ≤ _; exact Nat.le_of_eq rfl) (hb hby d8_8) (fun _ _ => ⟨rfl, eh1, (by decide : 0 + 0 ≤ _), (by decide : 0 + 0 ≤ _)⟩)
      dsimp only [Pt.U, Pt.locs, Pt.cells, Pt.slots] at X2 l2 y2 z2 st2 hQ2
      subst l2 y2 z2
      obtain ⟨N2, eh2, hv2⟩ := hQ2
      have NA2 := Fr.app NA1 N2
      rw [r2_1, ht0] at hv2
      subst hv2
      refine Goes.back st2 ?_
      show Goes _ _ _ _ _ _ _ (T2.setTop (mkF m 11 #[.val (.ref x0), .val (.int x1), .val (.ref x2), .val (.int r1)] [(.int (0 : Int32))]))
      refine Goes.step (fun _ k => XS.ifNo X2.here hx rfl (hb hby d8_11) rfl ((if0 _ _).trans (teq (by decide : (0 : Int32) = (0 : Int32))).2) k) ?_
      show Goes _ _ _ _ _ _ _ (T2.setTop (mkF m 14 #[.val (.ref x0), .val (.int x1), .val (.ref x2), .val (.int r1)] []))
      refine Goes.step (fun _ k => XS.aconstNull X2.here hx rfl (hb hby d8_14) k) ?_
      show Goes _ _ _ _ _ _ _ (T2.setTop (mkF m 15 #[.val (.ref x0), .val (.int x1), .val (.ref x2), .val (.int r1)] [.null]))
      simp only [findP, hs0, ht0] at fr
      have fr2 := Option.some.inj fr
      exact Goes.ret X2 hx (BodyLoose.notSynchronized Bd) Bd.returns rfl (Or.inr (Or.inr (Or.inr (Or.inr ⟨rfl, rfl, rfl⟩)))) (hb hby d8_15) (by show Q8 Z x0 x1 x2 ka ha va kk kh kw N t hf KA VA sh mo sz H i0 res h0 n0 (some .null) T2.heap _; rw [eh2]; exact ⟨NA2, rfl, by rw [← fr2]; rfl⟩) (by decide) (by decide)
    · refine Goes.step (fun _ k => XS.aloadN X1.here hx rfl (hb hby d8_6) rfl rfl k) ?_
      show Goes _ _ _ _ _ _ _ (T1.setTop (mkF m 7 #[.val (.ref x0), .val (.int x1), .val (.ref x2), .val (.int r1)] [(.ref x0)]))
      refine Goes.step (fun _ k => XS.iloadN X1.here hx rfl (hb hby d8_7) rfl  k) ?_
      show Goes _ _ _ _ _ _ _ (T1.setTop (mkF m 8 #[.val (.ref x0), .val (.int x1), .val (.ref x2), .val (.int r1)] [(.int r1), (.ref x0)]))
      obtain ⟨cq3, kq3, q3a, q3b, q3c⟩ := isOf hZ eh1 E0
      obtain ⟨_, _, ⟨T3, L3, k3, n3⟩, -, X3, ⟨Lc3, hQ3, l3, y3, z3⟩, st3⟩ := X1.virtualBack hx (y := (⟨"com/example/nehaba/nehaba/input/KeptValues", "holds", "(I)Z"⟩ : MethodName)) (z := (⟨"com/example/nehaba/nehaba/input/KeptValues", "holds", "(I)Z"⟩ : MethodName)) hown (mvT hZ (hw _ (List.mem_of_getElem? (i := 67) rfl))) (mvT hZ (hw _ (List.mem_of_getElem? (i := 68) rfl))) (notFace_of_selects (args := #[]) (mvT hZ (hw _ (List.mem_of_getElem? (i := 70) rfl)))) (mvT hZ (hw _ (List.mem_of_getElem? (i := 70) rfl))) (mvT hZ (hw _ (List.mem_of_getElem? (i := 69) rfl))) (by decide) (backOf (W := 0) (rm12 l Z a0 hw [] x0 r1 ka ha va kk kh kw N t hf KA VA sh mo sz h0 n0 Z0 E0 Fk Fh Fv Fm Fz Fs Ak Ah Av r1_1 r3_1) hZ (hw _ (List.mem_of_getElem? (i := 71) rfl)) (hw _ (List.mem_of_getElem? (i := 3) rfl)) (by decide) (by decide)) q3a q3c (g := (mkF m 8 #[.val (.ref x0), .val (.int x1), .val (.ref x2), .val (.int r1)] [(.int r1), (.ref x0)])) rfl (by rw [hml]; rfl) (Steps.refl _) (argsL := [(.int r1)]) (rest := []) (lenOf pd_7 rfl) rfl (by show 2 * 0 + _ ≤ _; exact Nat.le_of_eq rfl) (hb hby d8_8) (fun _ _ => ⟨rfl, eh1, (by decide : 0 + 0 ≤ _), (by decide : 0 + 0 ≤ _)⟩)
      dsimp only [Pt.U, Pt.locs, Pt.cells, Pt.slots] at X3 l3 y3 z3 st3 hQ3
      subst l3 y3 z3
      obtain ⟨N3, eh3, hv3⟩ := hQ3
      have NA3 := Fr.app NA1 N3
      rw [r2_1, ht0] at hv3
      subst hv3
      refine Goes.back st3 ?_
      show Goes _ _ _ _ _ _ _ (T3.setTop (mkF m 11 #[.val (.ref x0), .val (.int x1), .val (.ref x2), .val (.int r1)] [(.int (1 : Int32))]))
      refine Goes.step (fun _ k => XS.ifYes X3.here hx rfl (pc0 := 11) (pc' := 16) rfl (hb hby d8_11) rfl ((if0 _ _).trans (feq (by decide : ¬ ((1 : Int32) = (0 : Int32)))).2) (by decide) (by decide) k) ?_
      show Goes _ _ _ _ _ _ _ (T3.setTop (mkF m 16 #[.val (.ref x0), .val (.int x1), .val (.ref x2), .val (.int r1)] []))
      refine Goes.step (fun _ k => XS.aloadN X3.here hx rfl (hb hby d8_16) rfl rfl k) ?_
      show Goes _ _ _ _ _ _ _ (T3.setTop (mkF m 17 #[.val (.ref x0), .val (.int x1), .val (.ref x2), .val (.int r1)] [(.ref x0)]))
      refine Goes.step (fun _ k => XS.iloadN X3.here hx rfl (hb hby d8_17) rfl  k) ?_
      show Goes _ _ _ _ _ _ _ (T3.setTop (mkF m 18 #[.val (.ref x0), .val (.int x1), .val (.ref x2), .val (.int r1)] [(.int r1), (.ref x0)]))
      obtain ⟨cq4, kq4, q4a, q4b, q4c⟩ := isOf hZ eh3 E0
      obtain ⟨_, _, ⟨T4, L4, k4, n4⟩, -, X4, ⟨Lc4, hQ4, l4, y4, z4⟩, st4⟩ := X3.virtualBack hx (y := (⟨"com/example/nehaba/nehaba/input/KeptValues", "key", "(I)Ljava/lang/Object;"⟩ : MethodName)) (z := (⟨"com/example/nehaba/nehaba/input/KeptValues", "key", "(I)Ljava/lang/Object;"⟩ : MethodName)) hown (mvT hZ (hw _ (List.mem_of_getElem? (i := 72) rfl))) (mvT hZ (hw _ (List.mem_of_getElem? (i := 73) rfl))) (notFace_of_selects (args := #[]) (mvT hZ (hw _ (List.mem_of_getElem? (i := 75) rfl)))) (mvT hZ (hw _ (List.mem_of_getElem? (i := 75) rfl))) (mvT hZ (hw _ (List.mem_of_getElem? (i := 74) rfl))) (by decide) (backOf (W := 0) (rm13 l Z a0 hw [] x0 r1 ka ha va kk kh kw N t hf KA VA sh mo sz h0 n0 Z0 E0 Fk Fh Fv Fm Fz Fs Ak Ah Av r1_1 r3_1) hZ (hw _ (List.mem_of_getElem? (i := 76) rfl)) (hw _ (List.mem_of_getElem? (i := 3) rfl)) (by decide) (by decide)) q4a q4c (g := (mkF m 18 #[.val (.ref x0), .val (.int x1), .val (.ref x2), .val (.int r1)] [(.int r1), (.ref x0)])) rfl (by rw [hml]; rfl) (Steps.refl _) (argsL := [(.int r1)]) (rest := []) (lenOf pd_8 rfl) rfl (by show 2 * 0 + _ ≤ _; exact Nat.le_of_eq rfl) (hb hby d8_18) (fun _ _ => ⟨rfl, eh3, (by decide : 0 + 0 ≤ _), (by decide : 0 + 0 ≤ _)⟩)
      dsimp only [Pt.U, Pt.locs, Pt.cells, Pt.slots] at X4 l4 y4 z4 st4 hQ4
      subst l4 y4 z4
      obtain ⟨N4, eh4, hv4⟩ := hQ4
      have NA4 := Fr.app NA3 N4
      rw [r2_1, ht0] at hv4
      subst hv4
      refine Goes.back st4 ?_
      show Goes _ _ _ _ _ _ _ (T4.setTop (mkF m 21 #[.val (.ref x0), .val (.int x1), .val (.ref x2), .val (.int r1)] [(.ref (KA j0))]))
      refine Goes.step (fun _ k => XS.aloadN X4.here hx rfl (hb hby d8_21) rfl rfl k) ?_
      show Goes _ _ _ _ _ _ _ (T4.setTop (mkF m 22 #[.val (.ref x0), .val (.int x1), .val (.ref x2), .val (.int r1)] [(.ref x2), (.ref (KA j0))]))
      by_cases hk0 : (KA j0) = x2
      · have hj0 : j0 = i0 := hinj j0 ⟨_, ht0⟩ hk0
        refine Goes.step (fun _ k => Jvm.RoadKit.acmp X4 hx rfl rfl rfl (pc0 := 22) (pc' := 25) (same := true) rfl (hb hby d8_22) rfl (decide_eq_true (congrArg Value.ref hk0)) (by decide) (by decide) k) ?_
        show Goes _ _ _ _ _ _ _ (T4.setTop (mkF m 25 #[.val (.ref x0), .val (.int x1), .val (.ref x2), .val (.int r1)] []))
        refine Goes.step (fun _ k => XS.aloadN X4.here hx rfl (hb hby d8_25) rfl rfl k) ?_
        show Goes _ _ _ _ _ _ _ (T4.setTop (mkF m 26 #[.val (.ref x0), .val (.int x1), .val (.ref x2), .val (.int r1)] [(.ref x0)]))
        refine Goes.step (fun _ k => XS.iloadN X4.here hx rfl (hb hby d8_26) rfl  k) ?_
        show Goes _ _ _ _ _ _ _ (T4.setTop (mkF m 27 #[.val (.ref x0), .val (.int x1), .val (.ref x2), .val (.int r1)] [(.int r1), (.ref x0)]))
        obtain ⟨cq5, kq5, q5a, q5b, q5c⟩ := isOf hZ eh4 E0
        obtain ⟨_, _, ⟨T5, L5, k5, n5⟩, -, X5, ⟨Lc5, hQ5, l5, y5, z5⟩, st5⟩ := X4.virtualBack hx (y := (⟨"com/example/nehaba/nehaba/input/KeptValues", "value", "(I)Ljava/lang/Object;"⟩ : MethodName)) (z := (⟨"com/example/nehaba/nehaba/input/KeptValues", "value", "(I)Ljava/lang/Object;"⟩ : MethodName)) hown (mvT hZ (hw _ (List.mem_of_getElem? (i := 77) rfl))) (mvT hZ (hw _ (List.mem_of_getElem? (i := 78) rfl))) (notFace_of_selects (args := #[]) (mvT hZ (hw _ (List.mem_of_getElem? (i := 80) rfl)))) (mvT hZ (hw _ (List.mem_of_getElem? (i := 80) rfl))) (mvT hZ (hw _ (List.mem_of_getElem? (i := 79) rfl))) (by decide) (backOf (W := 0) (rm14 l Z a0 hw [] x0 r1 ka ha va kk kh kw N t hf KA VA sh mo sz h0 n0 Z0 E0 Fk Fh Fv Fm Fz Fs Ak Ah Av r1_1 r3_1) hZ (hw _ (List.mem_of_getElem? (i := 81) rfl)) (hw _ (List.mem_of_getElem? (i := 3) rfl)) (by decide) (by decide)) q5a q5c (g := (mkF m 27 #[.val (.ref x0), .val (.int x1), .val (.ref x2), .val (.int r1)] [(.int r1), (.ref x0)])) rfl (by rw [hml]; rfl) (Steps.refl _) (argsL := [(.int r1)]) (rest := []) (lenOf pd_8 rfl) rfl (by show 2 * 0 + _ ≤ _; exact Nat.le_of_eq rfl) (hb hby d8_27) (fun _ _ => ⟨rfl, eh4, (by decide : 0 + 0 ≤ _), (by decide : 0 + 0 ≤ _)⟩)
        dsimp only [Pt.U, Pt.locs, Pt.cells, Pt.slots] at X5 l5 y5 z5 st5 hQ5
        subst l5 y5 z5
        obtain ⟨N5, eh5, hv5⟩ := hQ5
        have NA5 := Fr.app NA4 N5
        rw [r2_1, ht0] at hv5
        subst hv5
        refine Goes.back st5 ?_
        show Goes _ _ _ _ _ _ _ (T5.setTop (mkF m 30 #[.val (.ref x0), .val (.int x1), .val (.ref x2), .val (.int r1)] [(.ref (VA j0))]))
        simp only [findP, hs0, ht0, if_pos hj0] at fr
        have fr2 := Option.some.inj fr
        exact Goes.ret X5 hx (BodyLoose.notSynchronized Bd) Bd.returns rfl (Or.inr (Or.inr (Or.inr (Or.inr ⟨rfl, rfl, rfl⟩)))) (hb hby d8_30) (by show Q8 Z x0 x1 x2 ka ha va kk kh kw N t hf KA VA sh mo sz H i0 res h0 n0 (some (.ref (VA j0))) T5.heap _; rw [eh5]; exact ⟨NA5, rfl, by rw [← fr2]; rfl⟩) (by decide) (by decide)
      · have hj0 : ¬ j0 = i0 := fun z => hk0 (by rw [z]; exact hka)
        refine Goes.step (fun _ k => Jvm.RoadKit.acmp X4 hx rfl rfl rfl (pc0 := 22) (pc' := 31) (same := false) rfl (hb hby d8_22) rfl (decide_eq_false fun q => hk0 (Value.ref.inj q)) (by decide) (by decide) k) ?_
        show Goes _ _ _ _ _ _ _ (T4.setTop (mkF m 31 #[.val (.ref x0), .val (.int x1), .val (.ref x2), .val (.int r1)] []))
        refine Goes.step (fun _ k => XS.aloadN X4.here hx rfl (hb hby d8_31) rfl rfl k) ?_
        show Goes _ _ _ _ _ _ _ (T4.setTop (mkF m 32 #[.val (.ref x0), .val (.int x1), .val (.ref x2), .val (.int r1)] [(.ref x0)]))
        refine Goes.step (fun _ k => XS.iloadN X4.here hx rfl (hb hby d8_32) rfl  k) ?_
        show Goes _ _ _ _ _ _ _ (T4.setTop (mkF m 33 #[.val (.ref x0), .val (.int x1), .val (.ref x2), .val (.int r1)] [(.int r1), (.ref x0)]))
        refine Goes.step (fun _ k => XS.iloadN X4.here hx rfl (hb hby d8_33) rfl  k) ?_
        show Goes _ _ _ _ _ _ _ (T4.setTop (mkF m 34 #[.val (.ref x0), .val (.int x1), .val (.ref x2), .val (.int r1)] [(.int x1), (.int r1), (.ref x0)]))
        rcases hs1 : seekP t (fun j => decide (H j = x1)) N 9 ((p0 + 1) % N) with _ | p1
        · exact absurd fr (by simp only [findP, hs0, hs1, ht0, if_neg hj0]; simp)
        · obtain ⟨cq6, kq6, q6a, q6b, q6c⟩ := isOf hZ eh4 E0
          obtain ⟨_, _, ⟨T6, L6, k6, n6⟩, -, X6, ⟨Lc6, hQ6, l6, y6, z6⟩, st6⟩ := X4.virtualBack hx (y := (⟨"com/example/nehaba/nehaba/input/KeptValues", "next", "(II)I"⟩ : MethodName)) (z := (⟨"com/example/nehaba/nehaba/input/KeptValues", "next", "(II)I"⟩ : MethodName)) hown (mvT hZ (hw _ (List.mem_of_getElem? (i := 82) rfl))) (mvT hZ (hw _ (List.mem_of_getElem? (i := 83) rfl))) (notFace_of_selects (args := #[]) (mvT hZ (hw _ (List.mem_of_getElem? (i := 85) rfl)))) (mvT hZ (hw _ (List.mem_of_getElem? (i := 85) rfl))) (mvT hZ (hw _ (List.mem_of_getElem? (i := 84) rfl))) (by decide) (backOf (W := 0) (rm15 l Z a0 hw [] x0 r1 x1 ka ha va kk kh kw N t hf KA VA sh mo sz H 9 p1 h0 n0 Z0 E0 Fk Fh Fv Fm Fz Fs Ak Ah Av hN hH r1_1 r3_1 (by rw [r2_1]; exact hs1)) hZ (hw _ (List.mem_of_getElem? (i := 86) rfl)) (hw _ (List.mem_of_getElem? (i := 3) rfl)) (by decide) (by decide)) q6a q6c (g := (mkF m 34 #[.val (.ref x0), .val (.int x1), .val (.ref x2), .val (.int r1)] [(.int x1), (.int r1), (.ref x0)])) rfl (by rw [hml]; rfl) (Steps.refl _) (argsL := [(.int r1), (.int x1)]) (rest := []) (lenOf pd_6 rfl) rfl (by show 2 * 0 + _ ≤ _; exact Nat.le_of_eq rfl) (hb hby d8_34) (fun _ _ => ⟨rfl, eh4, (by decide : 0 + 0 ≤ _), (by decide : 0 + 0 ≤ _)⟩)
          dsimp only [Pt.U, Pt.locs, Pt.cells, Pt.slots] at X6 l6 y6 z6 st6 hQ6
          subst l6 y6 z6
          obtain ⟨N6, eh6, r6, rfl, r1_6, r2_6, r3_6⟩ := hQ6
          have NA6 := Fr.app NA4 N6
          refine Goes.back st6 ?_
          show Goes _ _ _ _ _ _ _ (T6.setTop (mkF m 37 #[.val (.ref x0), .val (.int x1), .val (.ref x2), .val (.int r1)] [(.int r6)]))
          refine Goes.step (fun _ k => XS.istoreN X6.here hx rfl (hb hby d8_37) rfl (l' := #[.val (.ref x0), .val (.int x1), .val (.ref x2), .val (.int r6)]) rfl k) ?_
          show Goes _ _ _ _ _ _ _ (T6.setTop (mkF m 38 #[.val (.ref x0), .val (.int x1), .val (.ref x2), .val (.int r6)] []))
          rcases ht1 : t p1 with _ | j1
          · refine Goes.step (fun _ k => XS.aloadN X6.here hx rfl (hb hby d8_38) rfl rfl k) ?_
            show Goes _ _ _ _ _ _ _ (T6.setTop (mkF m 39 #[.val (.ref x0), .val (.int x1), .val (.ref x2), .val (.int r6)] [(.ref x0)]))
            refine Goes.step (fun _ k => XS.iloadN X6.here hx rfl (hb hby d8_39) rfl  k) ?_
            show Goes _ _ _ _ _ _ _ (T6.setTop (mkF m 40 #[.val (.ref x0), .val (.int x1), .val (.ref x2), .val (.int r6)] [(.int r6), (.ref x0)]))
            obtain ⟨cq7, kq7, q7a, q7b, q7c⟩ := isOf hZ eh6 E0
            obtain ⟨_, _, ⟨T7, L7, k7, n7⟩, -, X7, ⟨Lc7, hQ7, l7, y7, z7⟩, st7⟩ := X6.virtualBack hx (y := (⟨"com/example/nehaba/nehaba/input/KeptValues", "holds", "(I)Z"⟩ : MethodName)) (z := (⟨"com/example/nehaba/nehaba/input/KeptValues", "holds", "(I)Z"⟩ : MethodName)) hown (mvT hZ (hw _ (List.mem_of_getElem? (i := 67) rfl))) (mvT hZ (hw _ (List.mem_of_getElem? (i := 68) rfl))) (notFace_of_selects (args := #[]) (mvT hZ (hw _ (List.mem_of_getElem? (i := 70) rfl)))) (mvT hZ (hw _ (List.mem_of_getElem? (i := 70) rfl))) (mvT hZ (hw _ (List.mem_of_getElem? (i := 69) rfl))) (by decide) (backOf (W := 0) (rm12 l Z a0 hw [] x0 r6 ka ha va kk kh kw N t hf KA VA sh mo sz h0 n0 Z0 E0 Fk Fh Fv Fm Fz Fs Ak Ah Av r1_6 r3_6) hZ (hw _ (List.mem_of_getElem? (i := 71) rfl)) (hw _ (List.mem_of_getElem? (i := 3) rfl)) (by decide) (by decide)) q7a q7c (g := (mkF m 40 #[.val (.ref x0), .val (.int x1), .val (.ref x2), .val (.int r6)] [(.int r6), (.ref x0)])) rfl (by rw [hml]; rfl) (Steps.refl _) (argsL := [(.int r6)]) (rest := []) (lenOf pd_7 rfl) rfl (by show 2 * 0 + _ ≤ _; exact Nat.le_of_eq rfl) (hb hby d8_40) (fun _ _ => ⟨rfl, eh6, (by decide : 0 + 0 ≤ _), (by decide : 0 + 0 ≤ _)⟩)
            dsimp only [Pt.U, Pt.locs, Pt.cells, Pt.slots] at X7 l7 y7 z7 st7 hQ7
            subst l7 y7 z7
            obtain ⟨N7, eh7, hv7⟩ := hQ7
            have NA7 := Fr.app NA6 N7
            rw [r2_6, ht1] at hv7
            subst hv7
            refine Goes.back st7 ?_
            show Goes _ _ _ _ _ _ _ (T7.setTop (mkF m 43 #[.val (.ref x0), .val (.int x1), .val (.ref x2), .val (.int r6)] [(.int (0 : Int32))]))
            refine Goes.step (fun _ k => XS.ifNo X7.here hx rfl (hb hby d8_43) rfl ((if0 _ _).trans (teq (by decide : (0 : Int32) = (0 : Int32))).2) k) ?_
            show Goes _ _ _ _ _ _ _ (T7.setTop (mkF m 46 #[.val (.ref x0), .val (.int x1), .val (.ref x2), .val (.int r6)] []))
            refine Goes.step (fun _ k => XS.aconstNull X7.here hx rfl (hb hby d8_46) k) ?_
            show Goes _ _ _ _ _ _ _ (T7.setTop (mkF m 47 #[.val (.ref x0), .val (.int x1), .val (.ref x2), .val (.int r6)] [.null]))
            simp only [findP, hs0, hs1, ht0, ht1, if_neg hj0] at fr
            have fr2 := Option.some.inj fr
            exact Goes.ret X7 hx (BodyLoose.notSynchronized Bd) Bd.returns rfl (Or.inr (Or.inr (Or.inr (Or.inr ⟨rfl, rfl, rfl⟩)))) (hb hby d8_47) (by show Q8 Z x0 x1 x2 ka ha va kk kh kw N t hf KA VA sh mo sz H i0 res h0 n0 (some .null) T7.heap _; rw [eh7]; exact ⟨NA7, rfl, by rw [← fr2]; rfl⟩) (by decide) (by decide)
          · refine Goes.step (fun _ k => XS.aloadN X6.here hx rfl (hb hby d8_38) rfl rfl k) ?_
            show Goes _ _ _ _ _ _ _ (T6.setTop (mkF m 39 #[.val (.ref x0), .val (.int x1), .val (.ref x2), .val (.int r6)] [(.ref x0)]))
            refine Goes.step (fun _ k => XS.iloadN X6.here hx rfl (hb hby d8_39) rfl  k) ?_
            show Goes _ _ _ _ _ _ _ (T6.setTop (mkF m 40 #[.val (.ref x0), .val (.int x1), .val (.ref x2), .val (.int r6)] [(.int r6), (.ref x0)]))
            obtain ⟨cq8, kq8, q8a, q8b, q8c⟩ := isOf hZ eh6 E0
            obtain ⟨_, _, ⟨T8, L8, k8, n8⟩, -, X8, ⟨Lc8, hQ8, l8, y8, z8⟩, st8⟩ := X6.virtualBack hx (y := (⟨"com/example/nehaba/nehaba/input/KeptValues", "holds", "(I)Z"⟩ : MethodName)) (z := (⟨"com/example/nehaba/nehaba/input/KeptValues", "holds", "(I)Z"⟩ : MethodName)) hown (mvT hZ (hw _ (List.mem_of_getElem? (i := 67) rfl))) (mvT hZ (hw _ (List.mem_of_getElem? (i := 68) rfl))) (notFace_of_selects (args := #[]) (mvT hZ (hw _ (List.mem_of_getElem? (i := 70) rfl)))) (mvT hZ (hw _ (List.mem_of_getElem? (i := 70) rfl))) (mvT hZ (hw _ (List.mem_of_getElem? (i := 69) rfl))) (by decide) (backOf (W := 0) (rm12 l Z a0 hw [] x0 r6 ka ha va kk kh kw N t hf KA VA sh mo sz h0 n0 Z0 E0 Fk Fh Fv Fm Fz Fs Ak Ah Av r1_6 r3_6) hZ (hw _ (List.mem_of_getElem? (i := 71) rfl)) (hw _ (List.mem_of_getElem? (i := 3) rfl)) (by decide) (by decide)) q8a q8c (g := (mkF m 40 #[.val (.ref x0), .val (.int x1), .val (.ref x2), .val (.int r6)] [(.int r6), (.ref x0)])) rfl (by rw [hml]; rfl) (Steps.refl _) (argsL := [(.int r6)]) (rest := []) (lenOf pd_7 rfl) rfl (by show 2 * 0 + _ ≤ _; exact Nat.le_of_eq rfl) (hb hby d8_40) (fun _ _ => ⟨rfl, eh6, (by decide : 0 + 0 ≤ _), (by decide : 0 + 0 ≤ _)⟩)
            dsimp only [Pt.U, Pt.locs, Pt.cells, Pt.slots] at X8 l8 y8 z8 st8 hQ8
            subst l8 y8 z8
            obtain ⟨N8, eh8, hv8⟩ := hQ8
            have NA8 := Fr.app NA6 N8
            rw [r2_6, ht1] at hv8
            subst hv8
            refine Goes.back st8 ?_
            show Goes _ _ _ _ _ _ _ (T8.setTop (mkF m 43 #[.val (.ref x0), .val (.int x1), .val (.ref x2), .val (.int r6)] [(.int (1 : Int32))]))
            refine Goes.step (fun _ k => XS.ifYes X8.here hx rfl (pc0 := 43) (pc' := 48) rfl (hb hby d8_43) rfl ((if0 _ _).trans (feq (by decide : ¬ ((1 : Int32) = (0 : Int32)))).2) (by decide) (by decide) k) ?_
            show Goes _ _ _ _ _ _ _ (T8.setTop (mkF m 48 #[.val (.ref x0), .val (.int x1), .val (.ref x2), .val (.int r6)] []))
            refine Goes.step (fun _ k => XS.aloadN X8.here hx rfl (hb hby d8_48) rfl rfl k) ?_
            show Goes _ _ _ _ _ _ _ (T8.setTop (mkF m 49 #[.val (.ref x0), .val (.int x1), .val (.ref x2), .val (.int r6)] [(.ref x0)]))
            refine Goes.step (fun _ k => XS.iloadN X8.here hx rfl (hb hby d8_49) rfl  k) ?_
            show Goes _ _ _ _ _ _ _ (T8.setTop (mkF m 50 #[.val (.ref x0), .val (.int x1), .val (.ref x2), .val (.int r6)] [(.int r6), (.ref x0)]))
            obtain ⟨cq9, kq9, q9a, q9b, q9c⟩ := isOf hZ eh8 E0
            obtain ⟨_, _, ⟨T9, L9, k9, n9⟩, -, X9, ⟨Lc9, hQ9, l9, y9, z9⟩, st9⟩ := X8.virtualBack hx (y := (⟨"com/example/nehaba/nehaba/input/KeptValues", "key", "(I)Ljava/lang/Object;"⟩ : MethodName)) (z := (⟨"com/example/nehaba/nehaba/input/KeptValues", "key", "(I)Ljava/lang/Object;"⟩ : MethodName)) hown (mvT hZ (hw _ (List.mem_of_getElem? (i := 72) rfl))) (mvT hZ (hw _ (List.mem_of_getElem? (i := 73) rfl))) (notFace_of_selects (args := #[]) (mvT hZ (hw _ (List.mem_of_getElem? (i := 75) rfl)))) (mvT hZ (hw _ (List.mem_of_getElem? (i := 75) rfl))) (mvT hZ (hw _ (List.mem_of_getElem? (i := 74) rfl))) (by decide) (backOf (W := 0) (rm13 l Z a0 hw [] x0 r6 ka ha va kk kh kw N t hf KA VA sh mo sz h0 n0 Z0 E0 Fk Fh Fv Fm Fz Fs Ak Ah Av r1_6 r3_6) hZ (hw _ (List.mem_of_getElem? (i := 76) rfl)) (hw _ (List.mem_of_getElem? (i := 3) rfl)) (by decide) (by decide)) q9a q9c (g := (mkF m 50 #[.val (.ref x0), .val (.int x1), .val (.ref x2), .val (.int r6)] [(.int r6), (.ref x0)])) rfl (by rw [hml]; rfl) (Steps.refl _) (argsL := [(.int r6)]) (rest := []) (lenOf pd_8 rfl) rfl (by show 2 * 0 + _ ≤ _; exact Nat.le_of_eq rfl) (hb hby d8_50) (fun _ _ => ⟨rfl, eh8, (by decide : 0 + 0 ≤ _), (by decide : 0 + 0 ≤ _)⟩)
            dsimp only [Pt.U, Pt.locs, Pt.cells, Pt.slots] at X9 l9 y9 z9 st9 hQ9
            subst l9 y9 z9
            obtain ⟨N9, eh9, hv9⟩ := hQ9
            have NA9 := Fr.app NA8 N9
            rw [r2_6, ht1] at hv9
            subst hv9
            refine Goes.back st9 ?_
            show Goes _ _ _ _ _ _ _ (T9.setTop (mkF m 53 #[.val (.ref x0), .val (.int x1), .val (.ref x2), .val (.int r6)] [(.ref (KA j1))]))
            refine Goes.step (fun _ k => XS.aloadN X9.here hx rfl (hb hby d8_53) rfl rfl k) ?_
            show Goes _ _ _ _ _ _ _ (T9.setTop (mkF m 54 #[.val (.ref x0), .val (.int x1), .val (.ref x2), .val (.int r6)] [(.ref x2), (.ref (KA j1))]))
            by_cases hk1 : (KA j1) = x2
            · have hj1 : j1 = i0 := hinj j1 ⟨_, ht1⟩ hk1
              refine Goes.step (fun _ k => Jvm.RoadKit.acmp X9 hx rfl rfl rfl (pc0 := 54) (pc' := 57) (same := true) rfl (hb hby d8_54) rfl (decide_eq_true (congrArg Value.ref hk1)) (by decide) (by decide) k) ?_
              show Goes _ _ _ _ _ _ _ (T9.setTop (mkF m 57 #[.val (.ref x0), .val (.int x1), .val (.ref x2), .val (.int r6)] []))
              refine Goes.step (fun _ k => XS.aloadN X9.here hx rfl (hb hby d8_57) rfl rfl k) ?_
              show Goes _ _ _ _ _ _ _ (T9.setTop (mkF m 58 #[.val (.ref x0), .val (.int x1), .val (.ref x2), .val (.int r6)] [(.ref x0)]))
              refine Goes.step (fun _ k => XS.iloadN X9.here hx rfl (hb hby d8_58) rfl  k) ?_
              show Goes _ _ _ _ _ _ _ (T9.setTop (mkF m 59 #[.val (.ref x0), .val (.int x1), .val (.ref x2), .val (.int r6)] [(.int r6), (.ref x0)]))
              obtain ⟨cq10, kq10, q10a, q10b, q10c⟩ := isOf hZ eh9 E0
              obtain ⟨_, _, ⟨T10, L10, k10, n10⟩, -, X10, ⟨Lc10, hQ10, l10, y10, z10⟩, st10⟩ := X9.virtualBack hx (y := (⟨"com/example/nehaba/nehaba/input/KeptValues", "value", "(I)Ljava/lang/Object;"⟩ : MethodName)) (z := (⟨"com/example/nehaba/nehaba/input/KeptValues", "value", "(I)Ljava/lang/Object;"⟩ : MethodName)) hown (mvT hZ (hw _ (List.mem_of_getElem? (i := 77) rfl))) (mvT hZ (hw _ (List.mem_of_getElem? (i := 78) rfl))) (notFace_of_selects (args := #[]) (mvT hZ (hw _ (List.mem_of_getElem? (i := 80) rfl)))) (mvT hZ (hw _ (List.mem_of_getElem? (i := 80) rfl))) (mvT hZ (hw _ (List.mem_of_getElem? (i := 79) rfl))) (by decide) (backOf (W := 0) (rm14 l Z a0 hw [] x0 r6 ka ha va kk kh kw N t hf KA VA sh mo sz h0 n0 Z0 E0 Fk Fh Fv Fm Fz Fs Ak Ah Av r1_6 r3_6) hZ (hw _ (List.mem_of_getElem? (i := 81) rfl)) (hw _ (List.mem_of_getElem? (i := 3) rfl)) (by decide) (by decide)) q10a q10c (g := (mkF m 59 #[.val (.ref x0), .val (.int x1), .val (.ref x2), .val (.int r6)] [(.int r6), (.ref x0)])) rfl (by rw [hml]; rfl) (Steps.refl _) (argsL := [(.int r6)]) (rest := []) (lenOf pd_8 rfl) rfl (by show 2 * 0 + _ ≤ _; exact Nat.le_of_eq rfl) (hb hby d8_59) (fun _ _ => ⟨rfl, eh9, (by decide : 0 + 0 ≤ _), (by decide : 0 + 0 ≤ _)⟩)
              dsimp only [Pt.U, Pt.locs, Pt.cells, Pt.slots] at X10 l10 y10 z10 st10 hQ10
              subst l10 y10 z10
              obtain ⟨N10, eh10, hv10⟩ := hQ10
              have NA10 := Fr.app NA9 N10
              rw [r2_6, ht1] at hv10
              subst hv10
              refine Goes.back st10 ?_
              show Goes _ _ _ _ _ _ _ (T10.setTop (mkF m 62 #[.val (.ref x0), .val (.int x1), .val (.ref x2), .val (.int r6)] [(.ref (VA j1))]))
              simp only [findP, hs0, hs1, ht0, ht1, if_neg hj0, if_pos hj1] at fr
              have fr2 := Option.some.inj fr
              exact Goes.ret X10 hx (BodyLoose.notSynchronized Bd) Bd.returns rfl (Or.inr (Or.inr (Or.inr (Or.inr ⟨rfl, rfl, rfl⟩)))) (hb hby d8_62) (by show Q8 Z x0 x1 x2 ka ha va kk kh kw N t hf KA VA sh mo sz H i0 res h0 n0 (some (.ref (VA j1))) T10.heap _; rw [eh10]; exact ⟨NA10, rfl, by rw [← fr2]; rfl⟩) (by decide) (by decide)
            · have hj1 : ¬ j1 = i0 := fun z => hk1 (by rw [z]; exact hka)
              refine Goes.step (fun _ k => Jvm.RoadKit.acmp X9 hx rfl rfl rfl (pc0 := 54) (pc' := 63) (same := false) rfl (hb hby d8_54) rfl (decide_eq_false fun q => hk1 (Value.ref.inj q)) (by decide) (by decide) k) ?_
              show Goes _ _ _ _ _ _ _ (T9.setTop (mkF m 63 #[.val (.ref x0), .val (.int x1), .val (.ref x2), .val (.int r6)] []))
              refine Goes.step (fun _ k => XS.aloadN X9.here hx rfl (hb hby d8_63) rfl rfl k) ?_
              show Goes _ _ _ _ _ _ _ (T9.setTop (mkF m 64 #[.val (.ref x0), .val (.int x1), .val (.ref x2), .val (.int r6)] [(.ref x0)]))
              refine Goes.step (fun _ k => XS.iloadN X9.here hx rfl (hb hby d8_64) rfl  k) ?_
              show Goes _ _ _ _ _ _ _ (T9.setTop (mkF m 65 #[.val (.ref x0), .val (.int x1), .val (.ref x2), .val (.int r6)] [(.int r6), (.ref x0)]))
              refine Goes.step (fun _ k => XS.iloadN X9.here hx rfl (hb hby d8_65) rfl  k) ?_
              show Goes _ _ _ _ _ _ _ (T9.setTop (mkF m 66 #[.val (.ref x0), .val (.int x1), .val (.ref x2), .val (.int r6)] [(.int x1), (.int r6), (.ref x0)]))
              rcases hs2 : seekP t (fun j => decide (H j = x1)) N 9 ((p1 + 1) % N) with _ | p2
              · exact absurd fr (by simp only [findP, hs0, hs1, hs2, ht0, if_neg hj0, ht1, if_neg hj1]; simp)
              · obtain ⟨cq11, kq11, q11a, q11b, q11c⟩ := isOf hZ eh9 E0
                obtain ⟨_, _, ⟨T11, L11, k11, n11⟩, -, X11, ⟨Lc11, hQ11, l11, y11, z11⟩, st11⟩ := X9.virtualBack hx (y := (⟨"com/example/nehaba/nehaba/input/KeptValues", "next", "(II)I"⟩ : MethodName)) (z := (⟨"com/example/nehaba/nehaba/input/KeptValues", "next", "(II)I"⟩ : MethodName)) hown (mvT hZ (hw _ (List.mem_of_getElem? (i := 82) rfl))) (mvT hZ (hw _ (List.mem_of_getElem? (i := 83) rfl))) (notFace_of_selects (args := #[]) (mvT hZ (hw _ (List.mem_of_getElem? (i := 85) rfl)))) (mvT hZ (hw _ (List.mem_of_getElem? (i := 85) rfl))) (mvT hZ (hw _ (List.mem_of_getElem? (i := 84) rfl))) (by decide) (backOf (W := 0) (rm15 l Z a0 hw [] x0 r6 x1 ka ha va kk kh kw N t hf KA VA sh mo sz H 9 p2 h0 n0 Z0 E0 Fk Fh Fv Fm Fz Fs Ak Ah Av hN hH r1_6 r3_6 (by rw [r2_6]; exact hs2)) hZ (hw _ (List.mem_of_getElem? (i := 86) rfl)) (hw _ (List.mem_of_getElem? (i := 3) rfl)) (by decide) (by decide)) q11a q11c (g := (mkF m 66 #[.val (.ref x0), .val (.int x1), .val (.ref x2), .val (.int r6)] [(.int x1), (.int r6), (.ref x0)])) rfl (by rw [hml]; rfl) (Steps.refl _) (argsL := [(.int r6), (.int x1)]) (rest := []) (lenOf pd_6 rfl) rfl (by show 2 * 0 + _ ≤ _; exact Nat.le_of_eq rfl) (hb hby d8_66) (fun _ _ => ⟨rfl, eh9, (by decide : 0 + 0 ≤ _), (by decide : 0 + 0 ≤ _)⟩)
                dsimp only [Pt.U, Pt.locs, Pt.cells, Pt.slots] at X11 l11 y11 z11 st11 hQ11
                subst l11 y11 z11
                obtain ⟨N11, eh11, r11, rfl, r1_11, r2_11, r3_11⟩ := hQ11
                have NA11 := Fr.app NA9 N11
                refine Goes.back st11 ?_
                show Goes _ _ _ _ _ _ _ (T11.setTop (mkF m 69 #[.val (.ref x0), .val (.int x1), .val (.ref x2), .val (.int r6)] [(.int r11)]))
                refine Goes.step (fun _ k => XS.istoreN X11.here hx rfl (hb hby d8_69) rfl (l' := #[.val (.ref x0), .val (.int x1), .val (.ref x2), .val (.int r11)]) rfl k) ?_
                show Goes _ _ _ _ _ _ _ (T11.setTop (mkF m 70 #[.val (.ref x0), .val (.int x1), .val (.ref x2), .val (.int r11)] []))
                rcases ht2 : t p2 with _ | j2
                · refine Goes.step (fun _ k => XS.aloadN X11.here hx rfl (hb hby d8_70) rfl rfl k) ?_
                  show Goes _ _ _ _ _ _ _ (T11.setTop (mkF m 71 #[.val (.ref x0), .val (.int x1), .val (.ref x2), .val (.int r11)] [(.ref x0)]))
                  refine Goes.step (fun _ k => XS.iloadN X11.here hx rfl (hb hby d8_71) rfl  k) ?_
                  show Goes _ _ _ _ _ _ _ (T11.setTop (mkF m 72 #[.val (.ref x0), .val (.int x1), .val (.ref x2), .val (.int r11)] [(.int r11), (.ref x0)]))
                  obtain ⟨cq12, kq12, q12a, q12b, q12c⟩ := isOf hZ eh11 E0
                  obtain ⟨_, _, ⟨T12, L12, k12, n12⟩, -, X12, ⟨Lc12, hQ12, l12, y12, z12⟩, st12⟩ := X11.virtualBack hx (y := (⟨"com/example/nehaba/nehaba/input/KeptValues", "holds", "(I)Z"⟩ : MethodName)) (z := (⟨"com/example/nehaba/nehaba/input/KeptValues", "holds", "(I)Z"⟩ : MethodName)) hown (mvT hZ (hw _ (List.mem_of_getElem? (i := 67) rfl))) (mvT hZ (hw _ (List.mem_of_getElem? (i := 68) rfl))) (notFace_of_selects (args := #[]) (mvT hZ (hw _ (List.mem_of_getElem? (i := 70) rfl)))) (mvT hZ (hw _ (List.mem_of_getElem? (i := 70) rfl))) (mvT hZ (hw _ (List.mem_of_getElem? (i := 69) rfl))) (by decide) (backOf (W := 0) (rm12 l Z a0 hw [] x0 r11 ka ha va kk kh kw N t hf KA VA sh mo sz h0 n0 Z0 E0 Fk Fh Fv Fm Fz Fs Ak Ah Av r1_11 r3_11) hZ (hw _ (List.mem_of_getElem? (i := 71) rfl)) (hw _ (List.mem_of_getElem? (i := 3) rfl)) (by decide) (by decide)) q12a q12c (g := (mkF m 72 #[.val (.ref x0), .val (.int x1), .val (.ref x2), .val (.int r11)] [(.int r11), (.ref x0)])) rfl (by rw [hml]; rfl) (Steps.refl _) (argsL := [(.int r11)]) (rest := []) (lenOf pd_7 rfl) rfl (by show 2 * 0 + _ ≤ _; exact Nat.le_of_eq rfl) (hb hby d8_72) (fun _ _ => ⟨rfl, eh11, (by decide : 0 + 0 ≤ _), (by decide : 0 + 0 ≤ _)⟩)
                  dsimp only [Pt.U, Pt.locs, Pt.cells, Pt.slots] at X12 l12 y12 z12 st12 hQ12
                  subst l12 y12 z12
                  obtain ⟨N12, eh12, hv12⟩ := hQ12
                  have NA12 := Fr.app NA11 N12
                  rw [r2_11, ht2] at hv12
                  subst hv12
                  refine Goes.back st12 ?_
                  show Goes _ _ _ _ _ _ _ (T12.setTop (mkF m 75 #[.val (.ref x0), .val (.int x1), .val (.ref x2), .val (.int r11)] [(.int (0 : Int32))]))
                  refine Goes.step (fun _ k => XS.ifNo X12.here hx rfl (hb hby d8_75) rfl ((if0 _ _).trans (teq (by decide : (0 : Int32) = (0 : Int32))).2) k) ?_
                  show Goes _ _ _ _ _ _ _ (T12.setTop (mkF m 78 #[.val (.ref x0), .val (.int x1), .val (.ref x2), .val (.int r11)] []))
                  refine Goes.step (fun _ k => XS.aconstNull X12.here hx rfl (hb hby d8_78) k) ?_
                  show Goes _ _ _ _ _ _ _ (T12.setTop (mkF m 79 #[.val (.ref x0), .val (.int x1), .val (.ref x2), .val (.int r11)] [.null]))
                  simp only [findP, hs0, hs1, hs2, ht0, ht1, ht2, if_neg hj0, if_neg hj1] at fr
                  have fr2 := Option.some.inj fr
                  exact Goes.ret X12 hx (BodyLoose.notSynchronized Bd) Bd.returns rfl (Or.inr (Or.inr (Or.inr (Or.inr ⟨rfl, rfl, rfl⟩)))) (hb hby d8_79) (by show Q8 Z x0 x1 x2 ka ha va kk kh kw N t hf KA VA sh mo sz H i0 res h0 n0 (some .null) T12.heap _; rw [eh12]; exact ⟨NA12, rfl, by rw [← fr2]; rfl⟩) (by decide) (by decide)
                · refine Goes.step (fun _ k => XS.aloadN X11.here hx rfl (hb hby d8_70) rfl rfl k) ?_
                  show Goes _ _ _ _ _ _ _ (T11.setTop (mkF m 71 #[.val (.ref x0), .val (.int x1), .val (.ref x2), .val (.int r11)] [(.ref x0)]))
                  refine Goes.step (fun _ k => XS.iloadN X11.here hx rfl (hb hby d8_71) rfl  k) ?_
                  show Goes _ _ _ _ _ _ _ (T11.setTop (mkF m 72 #[.val (.ref x0), .val (.int x1), .val (.ref x2), .val (.int r11)] [(.int r11), (.ref x0)]))
                  obtain ⟨cq13, kq13, q13a, q13b, q13c⟩ := isOf hZ eh11 E0
                  obtain ⟨_, _, ⟨T13, L13, k13, n13⟩, -, X13, ⟨Lc13, hQ13, l13, y13, z13⟩, st13⟩ := X11.virtualBack hx (y := (⟨"com/example/nehaba/nehaba/input/KeptValues", "holds", "(I)Z"⟩ : MethodName)) (z := (⟨"com/example/nehaba/nehaba/input/KeptValues", "holds", "(I)Z"⟩ : MethodName)) hown (mvT hZ (hw _ (List.mem_of_getElem? (i := 67) rfl))) (mvT hZ (hw _ (List.mem_of_getElem? (i := 68) rfl))) (notFace_of_selects (args := #[]) (mvT hZ (hw _ (List.mem_of_getElem? (i := 70) rfl)))) (mvT hZ (hw _ (List.mem_of_getElem? (i := 70) rfl))) (mvT hZ (hw _ (List.mem_of_getElem? (i := 69) rfl))) (by decide) (backOf (W := 0) (rm12 l Z a0 hw [] x0 r11 ka ha va kk kh kw N t hf KA VA sh mo sz h0 n0 Z0 E0 Fk Fh Fv Fm Fz Fs Ak Ah Av r1_11 r3_11) hZ (hw _ (List.mem_of_getElem? (i := 71) rfl)) (hw _ (List.mem_of_getElem? (i := 3) rfl)) (by decide) (by decide)) q13a q13c (g := (mkF m 72 #[.val (.ref x0), .val (.int x1), .val (.ref x2), .val (.int r11)] [(.int r11), (.ref x0)])) rfl (by rw [hml]; rfl) (Steps.refl _) (argsL := [(.int r11)]) (rest := []) (lenOf pd_7 rfl) rfl (by show 2 * 0 + _ ≤ _; exact Nat.le_of_eq rfl) (hb hby d8_72) (fun _ _ => ⟨rfl, eh11, (by decide : 0 + 0 ≤ _), (by decide : 0 + 0 ≤ _)⟩)
                  dsimp only [Pt.U, Pt.locs, Pt.cells, Pt.slots] at X13 l13 y13 z13 st13 hQ13
                  subst l13 y13 z13
                  obtain ⟨N13, eh13, hv13⟩ := hQ13
                  have NA13 := Fr.app NA11 N13
                  rw [r2_11, ht2] at hv13
                  subst hv13
                  refine Goes.back st13 ?_
                  show Goes _ _ _ _ _ _ _ (T13.setTop (mkF m 75 #[.val (.ref x0), .val (.int x1), .val (.ref x2), .val (.int r11)] [(.int (1 : Int32))]))
                  refine Goes.step (fun _ k => XS.ifYes X13.here hx rfl (pc0 := 75) (pc' := 80) rfl (hb hby d8_75) rfl ((if0 _ _).trans (feq (by decide : ¬ ((1 : Int32) = (0 : Int32)))).2) (by decide) (by decide) k) ?_
                  show Goes _ _ _ _ _ _ _ (T13.setTop (mkF m 80 #[.val (.ref x0), .val (.int x1), .val (.ref x2), .val (.int r11)] []))
                  refine Goes.step (fun _ k => XS.aloadN X13.here hx rfl (hb hby d8_80) rfl rfl k) ?_
                  show Goes _ _ _ _ _ _ _ (T13.setTop (mkF m 81 #[.val (.ref x0), .val (.int x1), .val (.ref x2), .val (.int r11)] [(.ref x0)]))
                  refine Goes.step (fun _ k => XS.iloadN X13.here hx rfl (hb hby d8_81) rfl  k) ?_
                  show Goes _ _ _ _ _ _ _ (T13.setTop (mkF m 82 #[.val (.ref x0), .val (.int x1), .val (.ref x2), .val (.int r11)] [(.int r11), (.ref x0)]))
                  obtain ⟨cq14, kq14, q14a, q14b, q14c⟩ := isOf hZ eh13 E0
                  obtain ⟨_, _, ⟨T14, L14, k14, n14⟩, -, X14, ⟨Lc14, hQ14, l14, y14, z14⟩, st14⟩ := X13.virtualBack hx (y := (⟨"com/example/nehaba/nehaba/input/KeptValues", "key", "(I)Ljava/lang/Object;"⟩ : MethodName)) (z := (⟨"com/example/nehaba/nehaba/input/KeptValues", "key", "(I)Ljava/lang/Object;"⟩ : MethodName)) hown (mvT hZ (hw _ (List.mem_of_getElem? (i := 72) rfl))) (mvT hZ (hw _ (List.mem_of_getElem? (i := 73) rfl))) (notFace_of_selects (args := #[]) (mvT hZ (hw _ (List.mem_of_getElem? (i := 75) rfl)))) (mvT hZ (hw _ (List.mem_of_getElem? (i := 75) rfl))) (mvT hZ (hw _ (List.mem_of_getElem? (i := 74) rfl))) (by decide) (backOf (W := 0) (rm13 l Z a0 hw [] x0 r11 ka ha va kk kh kw N t hf KA VA sh mo sz h0 n0 Z0 E0 Fk Fh Fv Fm Fz Fs Ak Ah Av r1_11 r3_11) hZ (hw _ (List.mem_of_getElem? (i := 76) rfl)) (hw _ (List.mem_of_getElem? (i := 3) rfl)) (by decide) (by decide)) q14a q14c (g := (mkF m 82 #[.val (.ref x0), .val (.int x1), .val (.ref x2), .val (.int r11)] [(.int r11), (.ref x0)])) rfl (by rw [hml]; rfl) (Steps.refl _) (argsL := [(.int r11)]) (rest := []) (lenOf pd_8 rfl) rfl (by show 2 * 0 + _ ≤ _; exact Nat.le_of_eq rfl) (hb hby d8_82) (fun _ _ => ⟨rfl, eh13, (by decide : 0 + 0 ≤ _), (by decide : 0 + 0 ≤ _)⟩)
                  dsimp only [Pt.U, Pt.locs, Pt.cells, Pt.slots] at X14 l14 y14 z14 st14 hQ14
                  subst l14 y14 z14
                  obtain ⟨N14, eh14, hv14⟩ := hQ14
                  have NA14 := Fr.app NA13 N14
                  rw [r2_11, ht2] at hv14
                  subst hv14
                  refine Goes.back st14 ?_
                  show Goes _ _ _ _ _ _ _ (T14.setTop (mkF m 85 #[.val (.ref x0), .val (.int x1), .val (.ref x2), .val (.int r11)] [(.ref (KA j2))]))
                  refine Goes.step (fun _ k => XS.aloadN X14.here hx rfl (hb hby d8_85) rfl rfl k) ?_
                  show Goes _ _ _ _ _ _ _ (T14.setTop (mkF m 86 #[.val (.ref x0), .val (.int x1), .val (.ref x2), .val (.int r11)] [(.ref x2), (.ref (KA j2))]))
                  by_cases hk2 : (KA j2) = x2
                  · have hj2 : j2 = i0 := hinj j2 ⟨_, ht2⟩ hk2
                    refine Goes.step (fun _ k => Jvm.RoadKit.acmp X14 hx rfl rfl rfl (pc0 := 86) (pc' := 89) (same := true) rfl (hb hby d8_86) rfl (decide_eq_true (congrArg Value.ref hk2)) (by decide) (by decide) k) ?_
                    show Goes _ _ _ _ _ _ _ (T14.setTop (mkF m 89 #[.val (.ref x0), .val (.int x1), .val (.ref x2), .val (.int r11)] []))
                    refine Goes.step (fun _ k => XS.aloadN X14.here hx rfl (hb hby d8_89) rfl rfl k) ?_
                    show Goes _ _ _ _ _ _ _ (T14.setTop (mkF m 90 #[.val (.ref x0), .val (.int x1), .val (.ref x2), .val (.int r11)] [(.ref x0)]))
                    refine Goes.step (fun _ k => XS.iloadN X14.here hx rfl (hb hby d8_90) rfl  k) ?_
                    show Goes _ _ _ _ _ _ _ (T14.setTop (mkF m 91 #[.val (.ref x0), .val (.int x1), .val (.ref x2), .val (.int r11)] [(.int r11), (.ref x0)]))
                    obtain ⟨cq15, kq15, q15a, q15b, q15c⟩ := isOf hZ eh14 E0
                    obtain ⟨_, _, ⟨T15, L15, k15, n15⟩, -, X15, ⟨Lc15, hQ15, l15, y15, z15⟩, st15⟩ := X14.virtualBack hx (y := (⟨"com/example/nehaba/nehaba/input/KeptValues", "value", "(I)Ljava/lang/Object;"⟩ : MethodName)) (z := (⟨"com/example/nehaba/nehaba/input/KeptValues", "value", "(I)Ljava/lang/Object;"⟩ : MethodName)) hown (mvT hZ (hw _ (List.mem_of_getElem? (i := 77) rfl))) (mvT hZ (hw _ (List.mem_of_getElem? (i := 78) rfl))) (notFace_of_selects (args := #[]) (mvT hZ (hw _ (List.mem_of_getElem? (i := 80) rfl)))) (mvT hZ (hw _ (List.mem_of_getElem? (i := 80) rfl))) (mvT hZ (hw _ (List.mem_of_getElem? (i := 79) rfl))) (by decide) (backOf (W := 0) (rm14 l Z a0 hw [] x0 r11 ka ha va kk kh kw N t hf KA VA sh mo sz h0 n0 Z0 E0 Fk Fh Fv Fm Fz Fs Ak Ah Av r1_11 r3_11) hZ (hw _ (List.mem_of_getElem? (i := 81) rfl)) (hw _ (List.mem_of_getElem? (i := 3) rfl)) (by decide) (by decide)) q15a q15c (g := (mkF m 91 #[.val (.ref x0), .val (.int x1), .val (.ref x2), .val (.int r11)] [(.int r11), (.ref x0)])) rfl (by rw [hml]; rfl) (Steps.refl _) (argsL := [(.int r11)]) (rest := []) (lenOf pd_8 rfl) rfl (by show 2 * 0 + _ ≤ _; exact Nat.le_of_eq rfl) (hb hby d8_91) (fun _ _ => ⟨rfl, eh14, (by decide : 0 + 0 ≤ _), (by decide : 0 + 0 ≤ _)⟩)
                    dsimp only [Pt.U, Pt.locs, Pt.cells, Pt.slots] at X15 l15 y15 z15 st15 hQ15
                    subst l15 y15 z15
                    obtain ⟨N15, eh15, hv15⟩ := hQ15
                    have NA15 := Fr.app NA14 N15
                    rw [r2_11, ht2] at hv15
                    subst hv15
                    refine Goes.back st15 ?_
                    show Goes _ _ _ _ _ _ _ (T15.setTop (mkF m 94 #[.val (.ref x0), .val (.int x1), .val (.ref x2), .val (.int r11)] [(.ref (VA j2))]))
                    simp only [findP, hs0, hs1, hs2, ht0, ht1, ht2, if_neg hj0, if_neg hj1, if_pos hj2] at fr
                    have fr2 := Option.some.inj fr
                    exact Goes.ret X15 hx (BodyLoose.notSynchronized Bd) Bd.returns rfl (Or.inr (Or.inr (Or.inr (Or.inr ⟨rfl, rfl, rfl⟩)))) (hb hby d8_94) (by show Q8 Z x0 x1 x2 ka ha va kk kh kw N t hf KA VA sh mo sz H i0 res h0 n0 (some (.ref (VA j2))) T15.heap _; rw [eh15]; exact ⟨NA15, rfl, by rw [← fr2]; rfl⟩) (by decide) (by decide)
                  · have hj2 : ¬ j2 = i0 := fun z => hk2 (by rw [z]; exact hka)
                    refine Goes.step (fun _ k => Jvm.RoadKit.acmp X14 hx rfl rfl rfl (pc0 := 86) (pc' := 95) (same := false) rfl (hb hby d8_86) rfl (decide_eq_false fun q => hk2 (Value.ref.inj q)) (by decide) (by decide) k) ?_
                    show Goes _ _ _ _ _ _ _ (T14.setTop (mkF m 95 #[.val (.ref x0), .val (.int x1), .val (.ref x2), .val (.int r11)] []))
                    refine Goes.step (fun _ k => XS.aconstNull X14.here hx rfl (hb hby d8_95) k) ?_
                    show Goes _ _ _ _ _ _ _ (T14.setTop (mkF m 96 #[.val (.ref x0), .val (.int x1), .val (.ref x2), .val (.int r11)] [.null]))
                    simp only [findP, hs0, hs1, hs2, ht0, ht1, ht2, if_neg hj0, if_neg hj1, if_neg hj2] at fr
                    have fr2 := Option.some.inj fr
                    exact Goes.ret X14 hx (BodyLoose.notSynchronized Bd) Bd.returns rfl (Or.inr (Or.inr (Or.inr (Or.inr ⟨rfl, rfl, rfl⟩)))) (hb hby d8_96) (by show Q8 Z x0 x1 x2 ka ha va kk kh kw N t hf KA VA sh mo sz H i0 res h0 n0 (some .null) T14.heap _; rw [eh14]; exact ⟨NA14, rfl, by rw [← fr2]; rfl⟩) (by decide) (by decide)
theorem d5_0 : decode prog_31_method_7_code 0 = .ok (.aload_n 0, 1) := by decide +kernel
theorem d5_1 : decode prog_31_method_7_code 1 = .ok (.getfield 56, 3) := by decide +kernel
theorem d5_4 : decode prog_31_method_7_code 4 = .ok (.aload_n 0, 1) := by decide +kernel
theorem d5_5 : decode prog_31_method_7_code 5 = .ok (.getfield 19, 3) := by decide +kernel
theorem d5_8 : decode prog_31_method_7_code 8 = .ok (.if_icmp .ne 24, 3) := by decide +kernel
theorem d5_32 : decode prog_31_method_7_code 32 = .ok (.aload_n 0, 1) := by decide +kernel
theorem d5_33 : decode prog_31_method_7_code 33 = .ok (.iload_n 1, 1) := by decide +kernel
theorem d5_34 : decode prog_31_method_7_code 34 = .ok (.invokevirtual 46, 3) := by decide +kernel
theorem d5_37 : decode prog_31_method_7_code 37 = .ok (.istore 4, 2) := by decide +kernel
theorem d5_39 : decode prog_31_method_7_code 39 = .ok (.aload_n 0, 1) := by decide +kernel
theorem d5_40 : decode prog_31_method_7_code 40 = .ok (.getfield 29, 3) := by decide +kernel
theorem d5_43 : decode prog_31_method_7_code 43 = .ok (.iload 4, 2) := by decide +kernel
theorem d5_45 : decode prog_31_method_7_code 45 = .ok (.aaload, 1) := by decide +kernel
theorem d5_46 : decode prog_31_method_7_code 46 = .ok (.ifnull 14, 3) := by decide +kernel
theorem d5_49 : decode prog_31_method_7_code 49 = .ok (.aload_n 0, 1) := by decide +kernel
theorem d5_50 : decode prog_31_method_7_code 50 = .ok (.iload 4, 2) := by decide +kernel
theorem d5_52 : decode prog_31_method_7_code 52 = .ok (.invokevirtual 53, 3) := by decide +kernel
theorem d5_55 : decode prog_31_method_7_code 55 = .ok (.istore 4, 2) := by decide +kernel
theorem d5_57 : decode prog_31_method_7_code 57 = .ok (.goto (-18), 3) := by decide +kernel
theorem d5_60 : decode prog_31_method_7_code 60 = .ok (.aload_n 0, 1) := by decide +kernel
theorem d5_61 : decode prog_31_method_7_code 61 = .ok (.getfield 29, 3) := by decide +kernel
theorem d5_64 : decode prog_31_method_7_code 64 = .ok (.iload 4, 2) := by decide +kernel
theorem d5_66 : decode prog_31_method_7_code 66 = .ok (.aload_n 2, 1) := by decide +kernel
theorem d5_67 : decode prog_31_method_7_code 67 = .ok (.aastore, 1) := by decide +kernel
theorem d5_68 : decode prog_31_method_7_code 68 = .ok (.aload_n 0, 1) := by decide +kernel
theorem d5_69 : decode prog_31_method_7_code 69 = .ok (.getfield 33, 3) := by decide +kernel
theorem d5_72 : decode prog_31_method_7_code 72 = .ok (.iload 4, 2) := by decide +kernel
theorem d5_74 : decode prog_31_method_7_code 74 = .ok (.iload_n 1, 1) := by decide +kernel
theorem d5_75 : decode prog_31_method_7_code 75 = .ok (.iastore, 1) := by decide +kernel
theorem d5_76 : decode prog_31_method_7_code 76 = .ok (.aload_n 0, 1) := by decide +kernel
theorem d5_77 : decode prog_31_method_7_code 77 = .ok (.getfield 37, 3) := by decide +kernel
theorem d5_80 : decode prog_31_method_7_code 80 = .ok (.iload 4, 2) := by decide +kernel
theorem d5_82 : decode prog_31_method_7_code 82 = .ok (.aload_n 3, 1) := by decide +kernel
theorem d5_83 : decode prog_31_method_7_code 83 = .ok (.aastore, 1) := by decide +kernel
theorem d5_84 : decode prog_31_method_7_code 84 = .ok (.aload_n 0, 1) := by decide +kernel
theorem d5_85 : decode prog_31_method_7_code 85 = .ok (.dup, 1) := by decide +kernel
theorem d5_86 : decode prog_31_method_7_code 86 = .ok (.getfield 56, 3) := by decide +kernel
theorem d5_89 : decode prog_31_method_7_code 89 = .ok (.iconst 1, 1) := by decide +kernel
theorem d5_90 : decode prog_31_method_7_code 90 = .ok (.iadd, 1) := by decide +kernel
theorem d5_91 : decode prog_31_method_7_code 91 = .ok (.putfield 56, 3) := by decide +kernel
theorem d5_94 : decode prog_31_method_7_code 94 = .ok (.aload_n 3, 1) := by decide +kernel
theorem d5_95 : decode prog_31_method_7_code 95 = .ok (.areturn, 1) := by decide +kernel
theorem pn_5 : plainName "com/example/nehaba/nehaba/input/KeptValues" = true := by first | (simp [plainName, overriddenIn]; done) | decide +kernel
theorem ef_5_n (m : MethodId) (x0 : Addr) (x1 : Int32) (x2 : Addr) (x3 : Addr) (ka : Addr) (ha : Addr) (va : Addr) (kk : ClassId) (kh : ClassId) (kw : ClassId) (N : Nat) (t : Nat → Option Nat) (hf : Nat → Int32) (KA : Nat → Addr) (VA : Nat → Addr) (sh : Int32) (mo : Int32) (sz : Int32) (i0 : Nat) (kf : Nat) (q : Nat)  : entryFrame m #[(.ref x0), (.int x1), (.ref x2), (.ref x3)] 5 = mkF m 0 #[.val (.ref x0), .val (.int x1), .val (.ref x2), .val (.ref x3), .unset] [] := by first | (simp [entryFrame, mkF, argsToLocals, Value.category]; done) | rfl
def Q5_n (Z : State) (x0 : Addr) (x1 : Int32) (x2 : Addr) (x3 : Addr) (ka : Addr) (ha : Addr) (va : Addr) (kk : ClassId) (kh : ClassId) (kw : ClassId) (N : Nat) (t : Nat → Option Nat) (hf : Nat → Int32) (KA : Nat → Addr) (VA : Nat → Addr) (sh : Int32) (mo : Int32) (sz : Int32) (i0 : Nat) (kf : Nat) (q : Nat) (h0 : Heap) (n0 : Nat) (v : Option Value) (h : Heap) (L : List Loc) : Prop := Fr n0 L ∧ Keep h0 h [x0, ka, ha, va] ∧ v = some (.ref x3) ∧ Exa Z h x0 "com/example/nehaba/nehaba/input/KeptValues" ∧ Fld Z h x0 "com/example/nehaba/nehaba/input/KeptValues" "keys" "[Ljava/lang/Object;" (.ref ka) ∧ Fld Z h x0 "com/example/nehaba/nehaba/input/KeptValues" "hashes" "[I" (.ref ha) ∧ Fld Z h x0 "com/example/nehaba/nehaba/input/KeptValues" "values" "[Ljava/lang/Object;" (.ref va) ∧ Fld Z h x0 "com/example/nehaba/nehaba/input/KeptValues" "most" "I" (.int mo) ∧ Fld Z h x0 "com/example/nehaba/nehaba/input/KeptValues" "size" "I" (.int (sz + (1 : Int32))) ∧ Fld Z h x0 "com/example/nehaba/nehaba/input/KeptValues" "shift" "I" (.int sh) ∧ ArF Z h ka kk (.object "java/lang/Object") N (fun j => rfv KA ((own_put t q i0) j)) ∧ ArF Z h ha kh .int N (fun j => .int (own_hp hf q x1 j)) ∧ ArF Z h va kw (.object "java/lang/Object") N (fun j => rfv VA ((own_put t q i0) j))
set_option maxRecDepth 65536 in
set_option maxHeartbeats 40000000 in
theorem rm5_n (l : Launch) (Z : State) (a0 : Array Value) (hw : ∀ d ∈ tables_1, d.before a0 Z = true) (ws : List Jvm.Cond) (x0 : Addr) (x1 : Int32) (x2 : Addr) (x3 : Addr) (ka : Addr) (ha : Addr) (va : Addr) (kk : ClassId) (kh : ClassId) (kw : ClassId) (N : Nat) (t : Nat → Option Nat) (hf : Nat → Int32) (KA : Nat → Addr) (VA : Nat → Addr) (sh : Int32) (mo : Int32) (sz : Int32) (i0 : Nat) (kf : Nat) (q : Nat) (h0 : Heap) (n0 : Nat) (Z0 : n0 ≤ h0.size) (E0 : Exa Z h0 x0 "com/example/nehaba/nehaba/input/KeptValues") (Fk : Fld Z h0 x0 "com/example/nehaba/nehaba/input/KeptValues" "keys" "[Ljava/lang/Object;" (.ref ka)) (Fh : Fld Z h0 x0 "com/example/nehaba/nehaba/input/KeptValues" "hashes" "[I" (.ref ha)) (Fv : Fld Z h0 x0 "com/example/nehaba/nehaba/input/KeptValues" "values" "[Ljava/lang/Object;" (.ref va)) (Fm : Fld Z h0 x0 "com/example/nehaba/nehaba/input/KeptValues" "most" "I" (.int mo)) (Fz : Fld Z h0 x0 "com/example/nehaba/nehaba/input/KeptValues" "size" "I" (.int sz)) (Fs : Fld Z h0 x0 "com/example/nehaba/nehaba/input/KeptValues" "shift" "I" (.int sh)) (Ak : ArF Z h0 ka kk (.object "java/lang/Object") N (fun j => rfv KA (t j))) (Ah : ArF Z h0 ha kh .int N (fun j => .int (hf j))) (Av : ArF Z h0 va kw (.object "java/lang/Object") N (fun j => rfv VA (t j))) (Ok : Ovr Z kk "java/lang/Object") (Ow : Ovr Z kw "java/lang/Object") (I2 : Ins Z h0 x2 "java/lang/Object" true) (I3 : Ins Z h0 x3 "java/lang/Object" true) (hka : KA i0 = x2) (hva : VA i0 = x3) (g_x0 : n0 ≤ x0) (g_ka : n0 ≤ ka) (g_ha : n0 ≤ ha) (g_va : n0 ≤ va) (ne_ka_x0 : ka ≠ x0) (ne_ha_x0 : ha ≠ x0) (ne_ha_ka : ha ≠ ka) (ne_va_x0 : va ≠ x0) (ne_va_ka : va ≠ ka) (ne_va_ha : va ≠ ha) (hfull : ¬ sz = mo) (hN : N = 2 ∨ N = 4 ∨ N = 8) (hS : (N = 2 ∧ sh = 31) ∨ (N = 4 ∧ sh = 30) ∨ (N = 8 ∧ sh = 29)) (hp : probeP t N kf (own_f x1 sh).toNatClampNeg = some q) :
    MetFree l (⟨"com/example/nehaba/nehaba/input/KeptValues", "put", "(ILjava/lang/Object;Ljava/lang/Object;)Ljava/lang/Object;"⟩ : MethodName) (head1 (Jvm.Cond.code (⟨"com/example/nehaba/nehaba/input/KeptValues", "put", "(ILjava/lang/Object;Ljava/lang/Object;)Ljava/lang/Object;"⟩ : MethodName) prog_31_method_7_code 5 (some (.object "java/lang/Object")) :: ws) ({ frames := 1, cells := 0, slots := 0, locals := 13 } : Room)) (fun a U => a = #[(.ref x0), (.int x1), (.ref x2), (.ref x3)] ∧ Z.Warmed39 U.vm ∧ U.heap = h0) (fun _ _ _ _ _ => True) (fun _ U o U' => ∃ v L, o = .returned v ∧ Q5_n Z x0 x1 x2 x3 ka ha va kk kh kw N t hf KA VA sh mo sz i0 kf q h0 n0 v U'.heap L ∧ FrameEnd U o U' L ({ frames := 1, cells := 0, slots := 0, locals := 13 } : Room).cells ({ frames := 1, cells := 0, slots := 0, locals := 13 } : Room).slots) := by
  refine MetFree.of_bodySF (plainFor_of_name pn_5) hisR ?_
  intro p e s m args below meth c s₁ Bd hml0 hP hK
  obtain ⟨rfl, hZ, hh⟩ := hP
  have hx := Bd.exec
  have hby := Bd.bytes
  have hml : c.maxLocals = 5 := hml0
  have hown : s.vm.findClass "com/example/nehaba/nehaba/input/KeptValues" = some m.cls := findClass_of_methodNamed Bd.named
  have hnm := (name_of_methodNamed Bd.named Bd.method).1
  have X0 : Stand p l e ({ frames := 1, cells := 0, slots := 0, locals := 13 } : Room) s m #[(.ref x0), (.int x1), (.ref x2), (.ref x3)] below meth c s₁ [] 0 0 := Stand.of_body Bd
  have e0 : s₁.heap = h0 := by rw [← hh, Bd.state]; rfl
  have N0 := Fr.nil n0
  have K0 : Keep h0 h0 [x0, ka, ha, va] := Keep.refl h0 _
  refine (?_ : Goes p e below s ({ frames := 1, cells := 0, slots := 0, locals := 13 } : Room).cells ({ frames := 1, cells := 0, slots := 0, locals := 13 } : Room).slots (fun v h L => Q5_n Z x0 x1 x2 x3 ka ha va kk kh kw N t hf KA VA sh mo sz i0 kf q h0 n0 v h L) (s₁.setTop (entryFrame m #[(.ref x0), (.int x1), (.ref x2), (.ref x3)] 5)))
  rw [ef_5_n m x0 x1 x2 x3 ka ha va kk kh kw N t hf KA VA sh mo sz i0 kf q ]
  show Goes _ _ _ _ _ _ _ (s₁.setTop (mkF m 0 #[.val (.ref x0), .val (.int x1), .val (.ref x2), .val (.ref x3), .unset] []))
  refine Goes.step (fun _ k => XS.aloadN X0.here hx rfl (hb hby d5_0) rfl rfl k) ?_
  show Goes _ _ _ _ _ _ _ (s₁.setTop (mkF m 1 #[.val (.ref x0), .val (.int x1), .val (.ref x2), .val (.ref x3), .unset] [(.ref x0)]))
  obtain ⟨T1, X1, e1, st1⟩ := getF X0 hx hZ hown (host := "") (Or.inl (hw _ (List.mem_of_getElem? (i := 38) rfl))) Via.refl e0 Fz (g := (mkF m 1 #[.val (.ref x0), .val (.int x1), .val (.ref x2), .val (.ref x3), .unset] [(.ref x0)])) rfl rfl (hb hby d5_1)
  refine Goes.step st1 ?_
  show Goes _ _ _ _ _ _ _ (T1.setTop (mkF m 4 #[.val (.ref x0), .val (.int x1), .val (.ref x2), .val (.ref x3), .unset] [(.int sz)]))
  refine Goes.step (fun _ k => XS.aloadN X1.here hx rfl (hb hby d5_4) rfl rfl k) ?_
  show Goes _ _ _ _ _ _ _ (T1.setTop (mkF m 5 #[.val (.ref x0), .val (.int x1), .val (.ref x2), .val (.ref x3), .unset] [(.ref x0), (.int sz)]))
  obtain ⟨T2, X2, e2, st2⟩ := getF X1 hx hZ hown (host := "") (Or.inl (hw _ (List.mem_of_getElem? (i := 11) rfl))) Via.refl e1 Fm (g := (mkF m 5 #[.val (.ref x0), .val (.int x1), .val (.ref x2), .val (.ref x3), .unset] [(.ref x0), (.int sz)])) rfl rfl (hb hby d5_5)
  refine Goes.step st2 ?_
  show Goes _ _ _ _ _ _ _ (T2.setTop (mkF m 8 #[.val (.ref x0), .val (.int x1), .val (.ref x2), .val (.ref x3), .unset] [(.int mo), (.int sz)]))
  refine Goes.step (fun _ k => XS.icmpYes X2.here hx rfl (pc0 := 8) (pc' := 32) rfl (hb hby d5_8) rfl (feq hfull).2 (by decide) (by decide) k) ?_
  show Goes _ _ _ _ _ _ _ (T2.setTop (mkF m 32 #[.val (.ref x0), .val (.int x1), .val (.ref x2), .val (.ref x3), .unset] []))
  refine Goes.step (fun _ k => XS.aloadN X2.here hx rfl (hb hby d5_32) rfl rfl k) ?_
  show Goes _ _ _ _ _ _ _ (T2.setTop (mkF m 33 #[.val (.ref x0), .val (.int x1), .val (.ref x2), .val (.ref x3), .unset] [(.ref x0)]))
  refine Goes.step (fun _ k => XS.iloadN X2.here hx rfl (hb hby d5_33) rfl  k) ?_
  show Goes _ _ _ _ _ _ _ (T2.setTop (mkF m 34 #[.val (.ref x0), .val (.int x1), .val (.ref x2), .val (.ref x3), .unset] [(.int x1), (.ref x0)]))
  obtain ⟨cq3, q3, q3'⟩ := E0.cell
  obtain ⟨_, _, ⟨T3, L3, k3, n3⟩, -, X3, ⟨Lc3, hQ3, l3, y3, z3⟩, st3⟩ := X2.privateBack hx (y := (⟨"com/example/nehaba/nehaba/input/KeptValues", "first", "(I)I"⟩ : MethodName)) hown (mvT hZ (hw _ (List.mem_of_getElem? (i := 40) rfl))) (mvT hZ (hw _ (List.mem_of_getElem? (i := 41) rfl))) (own_selPriv (mvT hZ (hw _ (List.mem_of_getElem? (i := 36) rfl))) rfl (mvP hZ (hw _ (List.mem_of_getElem? (i := 42) rfl))) (mvT hZ (hw _ (List.mem_of_getElem? (i := 41) rfl))) (by decide)) (Cond.privateMethod_at (mvP hZ (hw _ (List.mem_of_getElem? (i := 42) rfl)) (args := #[]))) (mvT hZ (hw _ (List.mem_of_getElem? (i := 43) rfl))) (by decide) (backOf (W := 0) (rm6 l Z a0 hw [] x0 x1 ka ha va kk kh kw N t hf KA VA sh mo sz h0 n0 Z0 E0 Fk Fh Fv Fm Fz Fs Ak Ah Av) hZ (hw _ (List.mem_of_getElem? (i := 43) rfl)) (hw _ (List.mem_of_getElem? (i := 3) rfl)) (by decide) (by decide)) (g := (mkF m 34 #[.val (.ref x0), .val (.int x1), .val (.ref x2), .val (.ref x3), .unset] [(.int x1), (.ref x0)])) rfl (by rw [hml]; rfl) (Steps.refl _) (a := x0) (by rw [e2]; exact q3) q3' (argsL := [(.int x1)]) (rest := []) (lenOf pd_2 rfl) rfl (by show 2 * 0 + _ ≤ _; exact Nat.le_of_eq rfl) (hb hby d5_34) (fun _ _ => ⟨rfl, e2, (by decide : 0 + 0 ≤ _), (by decide : 0 + 0 ≤ _)⟩)
  dsimp only [Pt.U, Pt.locs, Pt.cells, Pt.slots] at X3 l3 y3 z3 st3 hQ3
  subst l3 y3 z3
  obtain ⟨N3, eh3, hv3⟩ := hQ3
  have NA3 := Fr.app N0 N3
  subst hv3
  refine Goes.back st3 ?_
  show Goes _ _ _ _ _ _ _ (T3.setTop (mkF m 37 #[.val (.ref x0), .val (.int x1), .val (.ref x2), .val (.ref x3), .unset] [(.int (own_f x1 sh))]))
  refine Goes.step (fun _ k => XS.istore X3.here hx rfl (hb hby d5_37) rfl (l' := #[.val (.ref x0), .val (.int x1), .val (.ref x2), .val (.ref x3), .val (.int (own_f x1 sh))]) rfl k) ?_
  show Goes _ _ _ _ _ _ _ (T3.setTop (mkF m 39 #[.val (.ref x0), .val (.int x1), .val (.ref x2), .val (.ref x3), .val (.int (own_f x1 sh))] []))
  have loop : ∀ (kf : Nat) (i : Int32) (T : State) (Lf : List Loc) (X : Stand p l e ({ frames := 1, cells := 0, slots := 0, locals := 13 } : Room) s m #[(.ref x0), (.int x1), (.ref x2), (.ref x3)] below meth c T Lf 0 0) (eT : T.heap = h0) (NL : Fr n0 Lf), ¬ i < 0 → i.toNatClampNeg < N → probeP t N kf i.toNatClampNeg = some q → Goes p e below s ({ frames := 1, cells := 0, slots := 0, locals := 13 } : Room).cells ({ frames := 1, cells := 0, slots := 0, locals := 13 } : Room).slots (fun v h L => Q5_n Z x0 x1 x2 x3 ka ha va kk kh kw N t hf KA VA sh mo sz i0 kf q h0 n0 v h L) (T.setTop (mkF m 39 #[.val (.ref x0), .val (.int x1), .val (.ref x2), .val (.ref x3), .val (.int i)] [])) := by
    intro kf
    induction kf with
    | zero => intro i T Lf X eT NL h1 h2 hs; exact absurd hs (by simp [probeP])
    | succ kf ih =>
      intro i T Lf X eT NL h1 h2 hs
      refine Goes.step (fun _ k => XS.aloadN X.here hx rfl (hb hby d5_39) rfl rfl k) ?_
      show Goes _ _ _ _ _ _ _ (T.setTop (mkF m 40 #[.val (.ref x0), .val (.int x1), .val (.ref x2), .val (.ref x3), .val (.int i)] [(.ref x0)]))
      obtain ⟨T4, X4, e4, st4⟩ := getF X hx hZ hown (host := "") (Or.inl (hw _ (List.mem_of_getElem? (i := 24) rfl))) Via.refl eT Fk (g := (mkF m 40 #[.val (.ref x0), .val (.int x1), .val (.ref x2), .val (.ref x3), .val (.int i)] [(.ref x0)])) rfl rfl (hb hby d5_40)
      refine Goes.step st4 ?_
      show Goes _ _ _ _ _ _ _ (T4.setTop (mkF m 43 #[.val (.ref x0), .val (.int x1), .val (.ref x2), .val (.ref x3), .val (.int i)] [(.ref ka)]))
      refine Goes.step (fun _ k => XS.iload X4.here hx rfl (hb hby d5_43) rfl  k) ?_
      show Goes _ _ _ _ _ _ _ (T4.setTop (mkF m 45 #[.val (.ref x0), .val (.int x1), .val (.ref x2), .val (.ref x3), .val (.int i)] [(.int i), (.ref ka)]))
      obtain ⟨cl5, Ar5, q5, S5, H5⟩ := id Ak
      have hin5 := own_arfin S5 h1 h2
      have hat5 : cl5.slots[(i).toNatClampNeg]? = some (rfv KA (t (i).toNatClampNeg)) := H5 _ h2
      refine Goes.step (fun _ k => X4.aaload hx (j := i) (v := (rfv KA (t (i).toNatClampNeg))) (by rw [e4]; exact Ar5.1) (State.isArrayOf_alike hZ.alike Ar5.2.1) rfl Ar5.2.2 hin5 hat5 (g := (mkF m 45 #[.val (.ref x0), .val (.int x1), .val (.ref x2), .val (.ref x3), .val (.int i)] [(.int i), (.ref ka)])) rfl rfl (hb hby d5_45) _ k) ?_
      show Goes _ _ _ _ _ _ _ (T4.setTop (mkF m 46 #[.val (.ref x0), .val (.int x1), .val (.ref x2), .val (.ref x3), .val (.int i)] [(rfv KA (t (i).toNatClampNeg))]))
      rcases ht6 : t (i).toNatClampNeg with _ | j6
      · refine Goes.step (fun _ k => XS.ifnullYes X4.here hx rfl (pc0 := 46) (pc' := 60) rfl (hb hby d5_46) rfl (by decide) (by decide) k) ?_
        show Goes _ _ _ _ _ _ _ (T4.setTop (mkF m 60 #[.val (.ref x0), .val (.int x1), .val (.ref x2), .val (.ref x3), .val (.int i)] []))
        refine Goes.step (fun _ k => XS.aloadN X4.here hx rfl (hb hby d5_60) rfl rfl k) ?_
        show Goes _ _ _ _ _ _ _ (T4.setTop (mkF m 61 #[.val (.ref x0), .val (.int x1), .val (.ref x2), .val (.ref x3), .val (.int i)] [(.ref x0)]))
        obtain ⟨T7, X7, e7, st7⟩ := getF X4 hx hZ hown (host := "") (Or.inl (hw _ (List.mem_of_getElem? (i := 24) rfl))) Via.refl e4 Fk (g := (mkF m 61 #[.val (.ref x0), .val (.int x1), .val (.ref x2), .val (.ref x3), .val (.int i)] [(.ref x0)])) rfl rfl (hb hby d5_61)
        refine Goes.step st7 ?_
        show Goes _ _ _ _ _ _ _ (T7.setTop (mkF m 64 #[.val (.ref x0), .val (.int x1), .val (.ref x2), .val (.ref x3), .val (.int i)] [(.ref ka)]))
        refine Goes.step (fun _ k => XS.iload X7.here hx rfl (hb hby d5_64) rfl  k) ?_
        show Goes _ _ _ _ _ _ _ (T7.setTop (mkF m 66 #[.val (.ref x0), .val (.int x1), .val (.ref x2), .val (.ref x3), .val (.int i)] [(.int i), (.ref ka)]))
        refine Goes.step (fun _ k => XS.aloadN X7.here hx rfl (hb hby d5_66) rfl rfl k) ?_
        show Goes _ _ _ _ _ _ _ (T7.setTop (mkF m 67 #[.val (.ref x0), .val (.int x1), .val (.ref x2), .val (.ref x3), .val (.int i)] [(.ref x2), (.int i), (.ref ka)]))
        obtain ⟨cl8, Ar8, q8, S8, H8⟩ := id Ak
        have hin8 := own_arfin S8 h1 h2
        obtain ⟨T9, h9, X9, e9, W9, st9⟩ := stR X7 hx hZ e7 Ar8 (j := i) hin8 rfl (Sto.ofV Ar8 q8 Ok I2) (g := (mkF m 67 #[.val (.ref x0), .val (.int x1), .val (.ref x2), .val (.ref x3), .val (.int i)] [(.ref x2), (.int i), (.ref ka)])) rfl rfl (hb hby d5_67)
        refine Goes.step st9 ?_
        have V9 := ArF.set Ar8 q8 S8 H8 W9
        have f10 := E0.wr W9
        have f11 := Fk.other W9 (Or.inl (Ne.symm ne_ka_x0))
        have f12 := Fh.other W9 (Or.inl (Ne.symm ne_ka_x0))
        have f13 := Fv.other W9 (Or.inl (Ne.symm ne_ka_x0))
        have f14 := Fm.other W9 (Or.inl (Ne.symm ne_ka_x0))
        have f15 := Fz.other W9 (Or.inl (Ne.symm ne_ka_x0))
        have f16 := Fs.other W9 (Or.inl (Ne.symm ne_ka_x0))
        have f17 := V9
        have f18 := Ah.other W9 ne_ha_ka
        have f19 := Av.other W9 ne_va_ka
        have f20 := I2.wr W9
        have f21 := I3.wr W9
        have K22 : Keep h0 h9 [x0, ka, ha, va] := K0.wr W9 (Or.inl (List.mem_of_getElem? (i := 1) rfl))
        have Z22 : n0 ≤ h9.size := by rw [Wr.size W9]; exact Z0
        have N22 := Fr.snoc X9 NL g_ka
        show Goes _ _ _ _ _ _ _ (T9.setTop (mkF m 68 #[.val (.ref x0), .val (.int x1), .val (.ref x2), .val (.ref x3), .val (.int i)] []))
        refine Goes.step (fun _ k => XS.aloadN X9.here hx rfl (hb hby d5_68) rfl rfl k) ?_
        show Goes _ _ _ _ _ _ _ (T9.setTop (mkF m 69 #[.val (.ref x0), .val (.int x1), .val (.ref x2), .val (.ref x3), .val (.int i)] [(.ref x0)]))
        obtain ⟨T23, X23, e23, st23⟩ := getF X9 hx hZ hown (host := "") (Or.inl (hw _ (List.mem_of_getElem? (i := 26) rfl))) Via.refl e9 f12 (g := (mkF m 69 #[.val (.ref x0), .val (.int x1), .val (.ref x2), .val (.ref x3), .val (.int i)] [(.ref x0)])) rfl rfl (hb hby d5_69)
        refine Goes.step st23 ?_
        show Goes _ _ _ _ _ _ _ (T23.setTop (mkF m 72 #[.val (.ref x0), .val (.int x1), .val (.ref x2), .val (.ref x3), .val (.int i)] [(.ref ha)]))
        refine Goes.step (fun _ k => XS.iload X23.here hx rfl (hb hby d5_72) rfl  k) ?_
        show Goes _ _ _ _ _ _ _ (T23.setTop (mkF m 74 #[.val (.ref x0), .val (.int x1), .val (.ref x2), .val (.ref x3), .val (.int i)] [(.int i), (.ref ha)]))
        refine Goes.step (fun _ k => XS.iloadN X23.here hx rfl (hb hby d5_74) rfl  k) ?_
        show Goes _ _ _ _ _ _ _ (T23.setTop (mkF m 75 #[.val (.ref x0), .val (.int x1), .val (.ref x2), .val (.ref x3), .val (.int i)] [(.int x1), (.int i), (.ref ha)]))
        obtain ⟨cl24, Ar24, q24, S24, H24⟩ := id f18
        have hin24 := own_arfin S24 h1 h2
        obtain ⟨T25, h25, X25, e25, W25, st25⟩ := stI X23 hx hZ e23 Ar24 (j := i) hin24 (g := (mkF m 75 #[.val (.ref x0), .val (.int x1), .val (.ref x2), .val (.ref x3), .val (.int i)] [(.int x1), (.int i), (.ref ha)])) rfl rfl (hb hby d5_75)
        refine Goes.step st25 ?_
        have V25 := ArF.set Ar24 q24 S24 H24 W25
        have f26 := f10.wr W25
        have f27 := f11.other W25 (Or.inl (Ne.symm ne_ha_x0))
        have f28 := f12.other W25 (Or.inl (Ne.symm ne_ha_x0))
        have f29 := f13.other W25 (Or.inl (Ne.symm ne_ha_x0))
        have f30 := f14.other W25 (Or.inl (Ne.symm ne_ha_x0))
        have f31 := f15.other W25 (Or.inl (Ne.symm ne_ha_x0))
        have f32 := f16.other W25 (Or.inl (Ne.symm ne_ha_x0))
        have f33 := f17.other W25 (Ne.symm ne_ha_ka)
        have f34 := V25
        have f35 := f19.other W25 ne_va_ha
        have f36 := f20.wr W25
        have f37 := f21.wr W25
        have K38 : Keep h0 h25 [x0, ka, ha, va] := K22.wr W25 (Or.inl (List.mem_of_getElem? (i := 2) rfl))
        have Z38 : n0 ≤ h25.size := by rw [Wr.size W25]; exact Z22
        have N38 := Fr.snoc X25 N22 g_ha
        show Goes _ _ _ _ _ _ _ (T25.setTop (mkF m 76 #[.val (.ref x0), .val (.int x1), .val (.ref x2), .val (.ref x3), .val (.int i)] []))
        refine Goes.step (fun _ k => XS.aloadN X25.here hx rfl (hb hby d5_76) rfl rfl k) ?_
        show Goes _ _ _ _ _ _ _ (T25.setTop (mkF m 77 #[.val (.ref x0), .val (.int x1), .val (.ref x2), .val (.ref x3), .val (.int i)] [(.ref x0)]))
        obtain ⟨T39, X39, e39, st39⟩ := getF X25 hx hZ hown (host := "") (Or.inl (hw _ (List.mem_of_getElem? (i := 28) rfl))) Via.refl e25 f29 (g := (mkF m 77 #[.val (.ref x0), .val (.int x1), .val (.ref x2), .val (.ref x3), .val (.int i)] [(.ref x0)])) rfl rfl (hb hby d5_77)
        refine Goes.step st39 ?_
        show Goes _ _ _ _ _ _ _ (T39.setTop (mkF m 80 #[.val (.ref x0), .val (.int x1), .val (.ref x2), .val (.ref x3), .val (.int i)] [(.ref va)]))
        refine Goes.step (fun _ k => XS.iload X39.here hx rfl (hb hby d5_80) rfl  k) ?_
        show Goes _ _ _ _ _ _ _ (T39.setTop (mkF m 82 #[.val (.ref x0), .val (.int x1), .val (.ref x2), .val (.ref x3), .val (.int i)] [(.int i), (.ref va)]))
        refine Goes.step (fun _ k => XS.aloadN X39.here hx rfl (hb hby d5_82) rfl rfl k) ?_
        show Goes _ _ _ _ _ _ _ (T39.setTop (mkF m 83 #[.val (.ref x0), .val (.int x1), .val (.ref x2), .val (.ref x3), .val (.int i)] [(.ref x3), (.int i), (.ref va)]))
        obtain ⟨cl40, Ar40, q40, S40, H40⟩ := id f35
        have hin40 := own_arfin S40 h1 h2
        obtain ⟨T41, h41, X41, e41, W41, st41⟩ := stR X39 hx hZ e39 Ar40 (j := i) hin40 rfl (Sto.ofV Ar40 q40 Ow f37) (g := (mkF m 83 #[.val (.ref x0), .val (.int x1), .val (.ref x2), .val (.ref x3), .val (.int i)] [(.ref x3), (.int i), (.ref va)])) rfl rfl (hb hby d5_83)
        refine Goes.step st41 ?_
        have V41 := ArF.set Ar40 q40 S40 H40 W41
        have f42 := f26.wr W41
        have f43 := f27.other W41 (Or.inl (Ne.symm ne_va_x0))
        have f44 := f28.other W41 (Or.inl (Ne.symm ne_va_x0))
        have f45 := f29.other W41 (Or.inl (Ne.symm ne_va_x0))
        have f46 := f30.other W41 (Or.inl (Ne.symm ne_va_x0))
        have f47 := f31.other W41 (Or.inl (Ne.symm ne_va_x0))
        have f48 := f32.other W41 (Or.inl (Ne.symm ne_va_x0))
        have f49 := f33.other W41 (Ne.symm ne_va_ka)
        have f50 := f34.other W41 (Ne.symm ne_va_ha)
        have f51 := V41
        have f52 := f36.wr W41
        have f53 := f37.wr W41
        have K54 : Keep h0 h41 [x0, ka, ha, va] := K38.wr W41 (Or.inl (List.mem_of_getElem? (i := 3) rfl))
        have Z54 : n0 ≤ h41.size := by rw [Wr.size W41]; exact Z38
        have N54 := Fr.snoc X41 N38 g_va
        show Goes _ _ _ _ _ _ _ (T41.setTop (mkF m 84 #[.val (.ref x0), .val (.int x1), .val (.ref x2), .val (.ref x3), .val (.int i)] []))
        refine Goes.step (fun _ k => XS.aloadN X41.here hx rfl (hb hby d5_84) rfl rfl k) ?_
        show Goes _ _ _ _ _ _ _ (T41.setTop (mkF m 85 #[.val (.ref x0), .val (.int x1), .val (.ref x2), .val (.ref x3), .val (.int i)] [(.ref x0)]))
        refine Goes.step (fun _ k => XS.dup X41.here hx rfl (hb hby d5_85) rfl rfl k) ?_
        show Goes _ _ _ _ _ _ _ (T41.setTop (mkF m 86 #[.val (.ref x0), .val (.int x1), .val (.ref x2), .val (.ref x3), .val (.int i)] [(.ref x0), (.ref x0)]))
        obtain ⟨T55, X55, e55, st55⟩ := getF X41 hx hZ hown (host := "") (Or.inl (hw _ (List.mem_of_getElem? (i := 38) rfl))) Via.refl e41 f47 (g := (mkF m 86 #[.val (.ref x0), .val (.int x1), .val (.ref x2), .val (.ref x3), .val (.int i)] [(.ref x0), (.ref x0)])) rfl rfl (hb hby d5_86)
        refine Goes.step st55 ?_
        show Goes _ _ _ _ _ _ _ (T55.setTop (mkF m 89 #[.val (.ref x0), .val (.int x1), .val (.ref x2), .val (.ref x3), .val (.int i)] [(.int sz), (.ref x0)]))
        refine Goes.step (fun _ k => XS.iconst X55.here hx rfl (hb hby d5_89) k) ?_
        show Goes _ _ _ _ _ _ _ (T55.setTop (mkF m 90 #[.val (.ref x0), .val (.int x1), .val (.ref x2), .val (.ref x3), .val (.int i)] [(.int (1 : Int32)), (.int sz), (.ref x0)]))
        refine Goes.step (fun _ k => XS.iadd X55.here hx rfl (hb hby d5_90) rfl k) ?_
        show Goes _ _ _ _ _ _ _ (T55.setTop (mkF m 91 #[.val (.ref x0), .val (.int x1), .val (.ref x2), .val (.ref x3), .val (.int i)] [(.int (sz + (1 : Int32))), (.ref x0)]))
        obtain ⟨T56, h56, X56, e56, W56, st56⟩ := putF X55 hx hZ hown (host := "") (Or.inl (hw _ (List.mem_of_getElem? (i := 38) rfl))) Via.refl e55 f47 f42 (Or.inl (hw _ (List.mem_of_getElem? (i := 39) rfl))) (hw _ (List.mem_of_getElem? (i := 2) rfl)) (ty := .int) (by decide) rfl rfl (g := (mkF m 91 #[.val (.ref x0), .val (.int x1), .val (.ref x2), .val (.ref x3), .val (.int i)] [(.int (sz + (1 : Int32))), (.ref x0)])) rfl rfl (hb hby d5_91)
        refine Goes.step st56 ?_
        have f57 := f42.wr W56
        have f58 := f43.other W56 (Or.inr (slot_ne (Or.inr (hw _ (List.mem_of_getElem? (i := 25) rfl))) (Or.inl (hw _ (List.mem_of_getElem? (i := 39) rfl))) (by decide) (t := (.array (.object "java/lang/Object"))) (t' := .int) (by decide) (by decide)))
        have f59 := f44.other W56 (Or.inr (slot_ne (Or.inr (hw _ (List.mem_of_getElem? (i := 27) rfl))) (Or.inl (hw _ (List.mem_of_getElem? (i := 39) rfl))) (by decide) (t := (.array .int)) (t' := .int) (by decide) (by decide)))
        have f60 := f45.other W56 (Or.inr (slot_ne (Or.inr (hw _ (List.mem_of_getElem? (i := 29) rfl))) (Or.inl (hw _ (List.mem_of_getElem? (i := 39) rfl))) (by decide) (t := (.array (.object "java/lang/Object"))) (t' := .int) (by decide) (by decide)))
        have f61 := f46.other W56 (Or.inr (slot_ne (Or.inr (hw _ (List.mem_of_getElem? (i := 12) rfl))) (Or.inl (hw _ (List.mem_of_getElem? (i := 39) rfl))) (by decide) (t := .int) (t' := .int) (by decide) (by decide)))
        have f62 := f47.same W56
        have f63 := f48.other W56 (Or.inr (slot_ne (Or.inr (hw _ (List.mem_of_getElem? (i := 32) rfl))) (Or.inl (hw _ (List.mem_of_getElem? (i := 39) rfl))) (by decide) (t := .int) (t' := .int) (by decide) (by decide)))
        have f64 := f49.other W56 ne_ka_x0
        have f65 := f50.other W56 ne_ha_x0
        have f66 := f51.other W56 ne_va_x0
        have f67 := f52.wr W56
        have f68 := f53.wr W56
        have K69 : Keep h0 h56 [x0, ka, ha, va] := K54.wr W56 (Or.inl (List.mem_of_getElem? (i := 0) rfl))
        have Z69 : n0 ≤ h56.size := by rw [Wr.size W56]; exact Z54
        have N69 := Fr.snoc X56 N54 g_x0
        show Goes _ _ _ _ _ _ _ (T56.setTop (mkF m 94 #[.val (.ref x0), .val (.int x1), .val (.ref x2), .val (.ref x3), .val (.int i)] []))
        refine Goes.step (fun _ k => XS.aloadN X56.here hx rfl (hb hby d5_94) rfl rfl k) ?_
        show Goes _ _ _ _ _ _ _ (T56.setTop (mkF m 95 #[.val (.ref x0), .val (.int x1), .val (.ref x2), .val (.ref x3), .val (.int i)] [(.ref x3)]))
        exact Goes.ret X56 hx (BodyLoose.notSynchronized Bd) Bd.returns rfl (Or.inr (Or.inr (Or.inr (Or.inr ⟨rfl, rfl, rfl⟩)))) (hb hby d5_95) (by show Q5_n Z x0 x1 x2 x3 ka ha va kk kh kw N t hf KA VA sh mo sz i0 kf q h0 n0 (some (.ref x3)) T56.heap _; rw [e56]; exact ⟨N69, K69, rfl, f57, f58, f59, f60, f61, f62, f63, (f64.congr (own_rfset hka _ (own_probeNone ht6 hs))), (f65.congr (own_hset _ (own_probeNone ht6 hs))), (f66.congr (own_rfset hva _ (own_probeNone ht6 hs)))⟩) (by decide) (by decide)
      · refine Goes.step (fun _ k => XS.ifnullNo X4.here hx rfl (hb hby d5_46) rfl k) ?_
        show Goes _ _ _ _ _ _ _ (T4.setTop (mkF m 49 #[.val (.ref x0), .val (.int x1), .val (.ref x2), .val (.ref x3), .val (.int i)] []))
        refine Goes.step (fun _ k => XS.aloadN X4.here hx rfl (hb hby d5_49) rfl rfl k) ?_
        show Goes _ _ _ _ _ _ _ (T4.setTop (mkF m 50 #[.val (.ref x0), .val (.int x1), .val (.ref x2), .val (.ref x3), .val (.int i)] [(.ref x0)]))
        refine Goes.step (fun _ k => XS.iload X4.here hx rfl (hb hby d5_50) rfl  k) ?_
        show Goes _ _ _ _ _ _ _ (T4.setTop (mkF m 52 #[.val (.ref x0), .val (.int x1), .val (.ref x2), .val (.ref x3), .val (.int i)] [(.int i), (.ref x0)]))
        obtain ⟨cq70, q70, q70'⟩ := E0.cell
        obtain ⟨_, _, ⟨T70, L70, k70, n70⟩, -, X70, ⟨Lc70, hQ70, l70, y70, z70⟩, st70⟩ := X4.privateBack hx (y := (⟨"com/example/nehaba/nehaba/input/KeptValues", "after", "(I)I"⟩ : MethodName)) hown (mvT hZ (hw _ (List.mem_of_getElem? (i := 63) rfl))) (mvT hZ (hw _ (List.mem_of_getElem? (i := 64) rfl))) (own_selPriv (mvT hZ (hw _ (List.mem_of_getElem? (i := 36) rfl))) rfl (mvP hZ (hw _ (List.mem_of_getElem? (i := 65) rfl))) (mvT hZ (hw _ (List.mem_of_getElem? (i := 64) rfl))) (by decide)) (Cond.privateMethod_at (mvP hZ (hw _ (List.mem_of_getElem? (i := 65) rfl)) (args := #[]))) (mvT hZ (hw _ (List.mem_of_getElem? (i := 66) rfl))) (by decide) (backOf (W := 0) (rm11 l Z a0 hw [] x0 i ka ha va kk kh kw N t hf KA VA sh mo sz h0 n0 Z0 E0 Fk Fh Fv Fm Fz Fs Ak Ah Av) hZ (hw _ (List.mem_of_getElem? (i := 66) rfl)) (hw _ (List.mem_of_getElem? (i := 3) rfl)) (by decide) (by decide)) (g := (mkF m 52 #[.val (.ref x0), .val (.int x1), .val (.ref x2), .val (.ref x3), .val (.int i)] [(.int i), (.ref x0)])) rfl (by rw [hml]; rfl) (Steps.refl _) (a := x0) (by rw [e4]; exact q70) q70' (argsL := [(.int i)]) (rest := []) (lenOf pd_2 rfl) rfl (by show 2 * 0 + _ ≤ _; exact Nat.le_of_eq rfl) (hb hby d5_52) (fun _ _ => ⟨rfl, e4, (by decide : 0 + 0 ≤ _), (by decide : 0 + 0 ≤ _)⟩)
        dsimp only [Pt.U, Pt.locs, Pt.cells, Pt.slots] at X70 l70 y70 z70 st70 hQ70
        subst l70 y70 z70
        obtain ⟨N70, eh70, hv70⟩ := hQ70
        have NA70 := Fr.app NL N70
        subst hv70
        refine Goes.back st70 ?_
        show Goes _ _ _ _ _ _ _ (T70.setTop (mkF m 55 #[.val (.ref x0), .val (.int x1), .val (.ref x2), .val (.ref x3), .val (.int i)] [(.int ((i + (1 : Int32)) &&& ((N).toInt32 - (1 : Int32))))]))
        refine Goes.step (fun _ k => XS.istore X70.here hx rfl (hb hby d5_55) rfl (l' := #[.val (.ref x0), .val (.int x1), .val (.ref x2), .val (.ref x3), .val (.int ((i + (1 : Int32)) &&& ((N).toInt32 - (1 : Int32))))]) rfl k) ?_
        show Goes _ _ _ _ _ _ _ (T70.setTop (mkF m 57 #[.val (.ref x0), .val (.int x1), .val (.ref x2), .val (.ref x3), .val (.int ((i + (1 : Int32)) &&& ((N).toInt32 - (1 : Int32))))] []))
        refine Goes.step (fun _ k => XS.goto X70.here hx rfl (pc0 := 57) (pc' := 39) rfl (hb hby d5_57) (by decide) (by decide) k) ?_
        show Goes _ _ _ _ _ _ _ (T70.setTop (mkF m 39 #[.val (.ref x0), .val (.int x1), .val (.ref x2), .val (.ref x3), .val (.int ((i + (1 : Int32)) &&& ((N).toInt32 - (1 : Int32))))] []))
        exact ih _ _ _ X70 eh70 NA70 (own_after hN h1 h2).1 (own_afterLt hN h1 h2) (by rw [(own_after hN h1 h2).2]; exact own_probeGo ht6 hs)
  exact loop kf _ _ _ X3 eh3 NA3 (own_first x1 hS).1 (own_first x1 hS).2 hp
theorem d7_0 : decode jdk_65_method_117_code 0 = .ok (.iconst 0, 1) := by decide +kernel
theorem d7_1 : decode jdk_65_method_117_code 1 = .ok (.istore_n 2, 1) := by decide +kernel
theorem d7_2 : decode jdk_65_method_117_code 2 = .ok (.aload_n 0, 1) := by decide +kernel
theorem d7_3 : decode jdk_65_method_117_code 3 = .ok (.arraylength, 1) := by decide +kernel
theorem d7_4 : decode jdk_65_method_117_code 4 = .ok (.istore_n 3, 1) := by decide +kernel
theorem d7_5 : decode jdk_65_method_117_code 5 = .ok (.iload_n 2, 1) := by decide +kernel
theorem d7_6 : decode jdk_65_method_117_code 6 = .ok (.iload_n 3, 1) := by decide +kernel
theorem d7_7 : decode jdk_65_method_117_code 7 = .ok (.if_icmp .ge 13, 3) := by decide +kernel
theorem d7_10 : decode jdk_65_method_117_code 10 = .ok (.aload_n 0, 1) := by decide +kernel
theorem d7_11 : decode jdk_65_method_117_code 11 = .ok (.iload_n 2, 1) := by decide +kernel
theorem d7_12 : decode jdk_65_method_117_code 12 = .ok (.aload_n 1, 1) := by decide +kernel
theorem d7_13 : decode jdk_65_method_117_code 13 = .ok (.aastore, 1) := by decide +kernel
theorem d7_14 : decode jdk_65_method_117_code 14 = .ok (.iinc 2 1, 3) := by decide +kernel
theorem d7_17 : decode jdk_65_method_117_code 17 = .ok (.goto (-12), 3) := by decide +kernel
theorem d7_20 : decode jdk_65_method_117_code 20 = .ok (.return_, 1) := by decide +kernel
theorem pn_7 : plainName "java/util/Arrays" = true := by first | (simp [plainName, overriddenIn]; done) | decide +kernel
theorem ef_7_2 (m : MethodId) (x0 : Addr) (kx : ClassId) (ff : Nat → Value)  : entryFrame m #[(.ref x0), .null] 4 = mkF m 0 #[.val (.ref x0), .val .null, .unset, .unset] [] := by first | (simp [entryFrame, mkF, argsToLocals, Value.category]; done) | rfl
def Q7_2 (Z : State) (x0 : Addr) (kx : ClassId) (ff : Nat → Value) (h0 : Heap) (n0 : Nat) (v : Option Value) (h : Heap) (L : List Loc) : Prop := Fr n0 L ∧ Keep h0 h [x0] ∧ v = none ∧ ArF Z h x0 kx (.object "java/lang/Object") 2 (fun _ => .null)
set_option maxRecDepth 65536 in
set_option maxHeartbeats 40000000 in
theorem rm7_2 (l : Launch) (Z : State) (a0 : Array Value) (hw : ∀ d ∈ tables_1, d.before a0 Z = true) (ws : List Jvm.Cond) (x0 : Addr) (kx : ClassId) (ff : Nat → Value) (h0 : Heap) (n0 : Nat) (Z0 : n0 ≤ h0.size) (A0 : ArF Z h0 x0 kx (.object "java/lang/Object") 2 ff) (g_x0 : n0 ≤ x0) :
    MetFree l (⟨"java/util/Arrays", "fill", "([Ljava/lang/Object;Ljava/lang/Object;)V"⟩ : MethodName) (head1 (Jvm.Cond.code (⟨"java/util/Arrays", "fill", "([Ljava/lang/Object;Ljava/lang/Object;)V"⟩ : MethodName) jdk_65_method_117_code 4 none :: ws) ({ frames := 0, cells := 0, slots := 0, locals := 0 } : Room)) (fun a U => a = #[(.ref x0), .null] ∧ Z.Warmed39 U.vm ∧ U.heap = h0) (fun _ _ _ _ _ => True) (fun _ U o U' => ∃ v L, o = .returned v ∧ Q7_2 Z x0 kx ff h0 n0 v U'.heap L ∧ FrameEnd U o U' L ({ frames := 0, cells := 0, slots := 0, locals := 0 } : Room).cells ({ frames := 0, cells := 0, slots := 0, locals := 0 } : Room).slots) := by
  refine MetFree.of_bodySF (plainFor_of_name pn_7) hisR ?_
  intro p e s m args below meth c s₁ Bd hml0 hP hK
  obtain ⟨rfl, hZ, hh⟩ := hP
  have hx := Bd.exec
  have hby := Bd.bytes
  have hml : c.maxLocals = 4 := hml0
  have hown : s.vm.findClass "java/util/Arrays" = some m.cls := findClass_of_methodNamed Bd.named
  have hnm := (name_of_methodNamed Bd.named Bd.method).1
  have X0 : Stand p l e ({ frames := 0, cells := 0, slots := 0, locals := 0 } : Room) s m #[(.ref x0), .null] below meth c s₁ [] 0 0 := Stand.of_body Bd
  have e0 : s₁.heap = h0 := by rw [← hh, Bd.state]; rfl
  have N0 := Fr.nil n0
  have K0 : Keep h0 h0 [x0] := Keep.refl h0 _
  refine (?_ : Goes p e below s ({ frames := 0, cells := 0, slots := 0, locals := 0 } : Room).cells ({ frames := 0, cells := 0, slots := 0, locals := 0 } : Room).slots (fun v h L => Q7_2 Z x0 kx ff h0 n0 v h L) (s₁.setTop (entryFrame m #[(.ref x0), .null] 4)))
  rw [ef_7_2 m x0 kx ff ]
  show Goes _ _ _ _ _ _ _ (s₁.setTop (mkF m 0 #[.val (.ref x0), .val .null, .unset, .unset] []))
  refine Goes.step (fun _ k => XS.iconst X0.here hx rfl (hb hby d7_0) k) ?_
  show Goes _ _ _ _ _ _ _ (s₁.setTop (mkF m 1 #[.val (.ref x0), .val .null, .unset, .unset] [(.int (0 : Int32))]))
  refine Goes.step (fun _ k => XS.istoreN X0.here hx rfl (hb hby d7_1) rfl (l' := #[.val (.ref x0), .val .null, .val (.int (0 : Int32)), .unset]) rfl k) ?_
  show Goes _ _ _ _ _ _ _ (s₁.setTop (mkF m 2 #[.val (.ref x0), .val .null, .val (.int (0 : Int32)), .unset] []))
  refine Goes.step (fun _ k => XS.aloadN X0.here hx rfl (hb hby d7_2) rfl rfl k) ?_
  show Goes _ _ _ _ _ _ _ (s₁.setTop (mkF m 3 #[.val (.ref x0), .val .null, .val (.int (0 : Int32)), .unset] [(.ref x0)]))
  obtain ⟨cl1, Ar1, q1, S1, H1⟩ := id A0
  refine Goes.step (fun _ k => X0.arraylength hx (by rw [e0]; exact Ar1.1) (State.isArrayOf_alike hZ.alike Ar1.2.1) (g := (mkF m 3 #[.val (.ref x0), .val .null, .val (.int (0 : Int32)), .unset] [(.ref x0)])) rfl rfl (hb hby d7_3) _ k) ?_
  rw [S1]
  show Goes _ _ _ _ _ _ _ (s₁.setTop (mkF m 4 #[.val (.ref x0), .val .null, .val (.int (0 : Int32)), .unset] [(.int (2 : Int32))]))
  refine Goes.step (fun _ k => XS.istoreN X0.here hx rfl (hb hby d7_4) rfl (l' := #[.val (.ref x0), .val .null, .val (.int (0 : Int32)), .val (.int (2 : Int32))]) rfl k) ?_
  show Goes _ _ _ _ _ _ _ (s₁.setTop (mkF m 5 #[.val (.ref x0), .val .null, .val (.int (0 : Int32)), .val (.int (2 : Int32))] []))
  refine Goes.step (fun _ k => XS.iloadN X0.here hx rfl (hb hby d7_5) rfl  k) ?_
  show Goes _ _ _ _ _ _ _ (s₁.setTop (mkF m 6 #[.val (.ref x0), .val .null, .val (.int (0 : Int32)), .val (.int (2 : Int32))] [(.int (0 : Int32))]))
  refine Goes.step (fun _ k => XS.iloadN X0.here hx rfl (hb hby d7_6) rfl  k) ?_
  show Goes _ _ _ _ _ _ _ (s₁.setTop (mkF m 7 #[.val (.ref x0), .val .null, .val (.int (0 : Int32)), .val (.int (2 : Int32))] [(.int (2 : Int32)), (.int (0 : Int32))]))
  refine Goes.step (fun _ k => XS.icmpNo X0.here hx rfl (hb hby d7_7) rfl (tlt (by decide : (0 : Int32) < (2 : Int32))).2.1 k) ?_
  show Goes _ _ _ _ _ _ _ (s₁.setTop (mkF m 10 #[.val (.ref x0), .val .null, .val (.int (0 : Int32)), .val (.int (2 : Int32))] []))
  refine Goes.step (fun _ k => XS.aloadN X0.here hx rfl (hb hby d7_10) rfl rfl k) ?_
  show Goes _ _ _ _ _ _ _ (s₁.setTop (mkF m 11 #[.val (.ref x0), .val .null, .val (.int (0 : Int32)), .val (.int (2 : Int32))] [(.ref x0)]))
  refine Goes.step (fun _ k => XS.iloadN X0.here hx rfl (hb hby d7_11) rfl  k) ?_
  show Goes _ _ _ _ _ _ _ (s₁.setTop (mkF m 12 #[.val (.ref x0), .val .null, .val (.int (0 : Int32)), .val (.int (2 : Int32))] [(.int (0 : Int32)), (.ref x0)]))
  refine Goes.step (fun _ k => XS.aloadN X0.here hx rfl (hb hby d7_12) rfl rfl k) ?_
  show Goes _ _ _ _ _ _ _ (s₁.setTop (mkF m 13 #[.val (.ref x0), .val .null, .val (.int (0 : Int32)), .val (.int (2 : Int32))] [.null, (.int (0 : Int32)), (.ref x0)]))
  obtain ⟨cl2, Ar2, q2, S2, H2⟩ := id A0
  have hin2 := own_arfin S2 (by decide : ¬ (0 : Int32) < 0) (by decide : ((0 : Int32)).toNatClampNeg < 2)
  obtain ⟨T3, h3, X3, e3, W3, st3⟩ := stR X0 hx hZ e0 Ar2 (j := (0 : Int32)) hin2 rfl (Or.inl rfl) (g := (mkF m 13 #[.val (.ref x0), .val .null, .val (.int (0 : Int32)), .val (.int (2 : Int32))] [.null, (.int (0 : Int32)), (.ref x0)])) rfl rfl (hb hby d7_13)
  refine Goes.step st3 ?_
  have V3 := ArF.set Ar2 q2 S2 H2 W3
  have f4 := V3
  have K5 : Keep h0 h3 [x0] := K0.wr W3 (Or.inl (List.mem_of_getElem? (i := 0) rfl))
  have Z5 : n0 ≤ h3.size := by rw [Wr.size W3]; exact Z0
  have N5 := Fr.snoc X3 N0 g_x0
  show Goes _ _ _ _ _ _ _ (T3.setTop (mkF m 14 #[.val (.ref x0), .val .null, .val (.int (0 : Int32)), .val (.int (2 : Int32))] []))
  refine Goes.step (fun _ k => XS.iinc X3.here hx rfl (hb hby d7_14) rfl (l' := #[.val (.ref x0), .val .null, .val (.int (1 : Int32)), .val (.int (2 : Int32))]) rfl k) ?_
  show Goes _ _ _ _ _ _ _ (T3.setTop (mkF m 17 #[.val (.ref x0), .val .null, .val (.int (1 : Int32)), .val (.int (2 : Int32))] []))
  refine Goes.step (fun _ k => XS.goto X3.here hx rfl (pc0 := 17) (pc' := 5) rfl (hb hby d7_17) (by decide) (by decide) k) ?_
  show Goes _ _ _ _ _ _ _ (T3.setTop (mkF m 5 #[.val (.ref x0), .val .null, .val (.int (1 : Int32)), .val (.int (2 : Int32))] []))
  refine Goes.step (fun _ k => XS.iloadN X3.here hx rfl (hb hby d7_5) rfl  k) ?_
  show Goes _ _ _ _ _ _ _ (T3.setTop (mkF m 6 #[.val (.ref x0), .val .null, .val (.int (1 : Int32)), .val (.int (2 : Int32))] [(.int (1 : Int32))]))
  refine Goes.step (fun _ k => XS.iloadN X3.here hx rfl (hb hby d7_6) rfl  k) ?_
  show Goes _ _ _ _ _ _ _ (T3.setTop (mkF m 7 #[.val (.ref x0), .val .null, .val (.int (1 : Int32)), .val (.int (2 : Int32))] [(.int (2 : Int32)), (.int (1 : Int32))]))
  refine Goes.step (fun _ k => XS.icmpNo X3.here hx rfl (hb hby d7_7) rfl (tlt (by decide : (1 : Int32) < (2 : Int32))).2.1 k) ?_
  show Goes _ _ _ _ _ _ _ (T3.setTop (mkF m 10 #[.val (.ref x0), .val .null, .val (.int (1 : Int32)), .val (.int (2 : Int32))] []))
  refine Goes.step (fun _ k => XS.aloadN X3.here hx rfl (hb hby d7_10) rfl rfl k) ?_
  show Goes _ _ _ _ _ _ _ (T3.setTop (mkF m 11 #[.val (.ref x0), .val .null, .val (.int (1 : Int32)), .val (.int (2 : Int32))] [(.ref x0)]))
  refine Goes.step (fun _ k => XS.iloadN X3.here hx rfl (hb hby d7_11) rfl  k) ?_
  show Goes _ _ _ _ _ _ _ (T3.setTop (mkF m 12 #[.val (.ref x0), .val .null, .val (.int (1 : Int32)), .val (.int (2 : Int32))] [(.int (1 : Int32)), (.ref x0)]))
  refine Goes.step (fun _ k => XS.aloadN X3.here hx rfl (hb hby d7_12) rfl rfl k) ?_
  show Goes _ _ _ _ _ _ _ (T3.setTop (mkF m 13 #[.val (.ref x0), .val .null, .val (.int (1 : Int32)), .val (.int (2 : Int32))] [.null, (.int (1 : Int32)), (.ref x0)]))
  obtain ⟨cl6, Ar6, q6, S6, H6⟩ := id f4
  have hin6 := own_arfin S6 (by decide : ¬ (1 : Int32) < 0) (by decide : ((1 : Int32)).toNatClampNeg < 2)
  obtain ⟨T7, h7, X7, e7, W7, st7⟩ := stR X3 hx hZ e3 Ar6 (j := (1 : Int32)) hin6 rfl (Or.inl rfl) (g := (mkF m 13 #[.val (.ref x0), .val .null, .val (.int (1 : Int32)), .val (.int (2 : Int32))] [.null, (.int (1 : Int32)), (.ref x0)])) rfl rfl (hb hby d7_13)
  refine Goes.step st7 ?_
  have V7 := ArF.set Ar6 q6 S6 H6 W7
  have f8 := V7
  have K9 : Keep h0 h7 [x0] := K5.wr W7 (Or.inl (List.mem_of_getElem? (i := 0) rfl))
  have Z9 : n0 ≤ h7.size := by rw [Wr.size W7]; exact Z5
  have N9 := Fr.snoc X7 N5 g_x0
  show Goes _ _ _ _ _ _ _ (T7.setTop (mkF m 14 #[.val (.ref x0), .val .null, .val (.int (1 : Int32)), .val (.int (2 : Int32))] []))
  refine Goes.step (fun _ k => XS.iinc X7.here hx rfl (hb hby d7_14) rfl (l' := #[.val (.ref x0), .val .null, .val (.int (2 : Int32)), .val (.int (2 : Int32))]) rfl k) ?_
  show Goes _ _ _ _ _ _ _ (T7.setTop (mkF m 17 #[.val (.ref x0), .val .null, .val (.int (2 : Int32)), .val (.int (2 : Int32))] []))
  refine Goes.step (fun _ k => XS.goto X7.here hx rfl (pc0 := 17) (pc' := 5) rfl (hb hby d7_17) (by decide) (by decide) k) ?_
  show Goes _ _ _ _ _ _ _ (T7.setTop (mkF m 5 #[.val (.ref x0), .val .null, .val (.int (2 : Int32)), .val (.int (2 : Int32))] []))
  refine Goes.step (fun _ k => XS.iloadN X7.here hx rfl (hb hby d7_5) rfl  k) ?_
  show Goes _ _ _ _ _ _ _ (T7.setTop (mkF m 6 #[.val (.ref x0), .val .null, .val (.int (2 : Int32)), .val (.int (2 : Int32))] [(.int (2 : Int32))]))
  refine Goes.step (fun _ k => XS.iloadN X7.here hx rfl (hb hby d7_6) rfl  k) ?_
  show Goes _ _ _ _ _ _ _ (T7.setTop (mkF m 7 #[.val (.ref x0), .val .null, .val (.int (2 : Int32)), .val (.int (2 : Int32))] [(.int (2 : Int32)), (.int (2 : Int32))]))
  refine Goes.step (fun _ k => XS.icmpYes X7.here hx rfl (pc0 := 7) (pc' := 20) rfl (hb hby d7_7) rfl (flt (by decide : ¬ ((2 : Int32) < (2 : Int32)))).2.1 (by decide) (by decide) k) ?_
  show Goes _ _ _ _ _ _ _ (T7.setTop (mkF m 20 #[.val (.ref x0), .val .null, .val (.int (2 : Int32)), .val (.int (2 : Int32))] []))
  exact Goes.retV X7 hx (BodyLoose.notSynchronized Bd) Bd.returns (hb hby d7_20) (by show Q7_2 Z x0 kx ff h0 n0 none T7.heap _; rw [e7]; exact ⟨N9, K9, rfl, f8.congr (fun j hj => by rcases (show j = 0 ∨ j = 1 by omega) with rfl | rfl <;> rfl)⟩) (by decide) (by decide)
theorem d5_11 : decode prog_31_method_7_code 11 = .ok (.aload_n 0, 1) := by decide +kernel
theorem d5_12 : decode prog_31_method_7_code 12 = .ok (.getfield 29, 3) := by decide +kernel
theorem d5_15 : decode prog_31_method_7_code 15 = .ok (.aconst_null, 1) := by decide +kernel
theorem d5_16 : decode prog_31_method_7_code 16 = .ok (.invokestatic 59, 3) := by decide +kernel
theorem d5_19 : decode prog_31_method_7_code 19 = .ok (.aload_n 0, 1) := by decide +kernel
theorem d5_20 : decode prog_31_method_7_code 20 = .ok (.getfield 37, 3) := by decide +kernel
theorem d5_23 : decode prog_31_method_7_code 23 = .ok (.aconst_null, 1) := by decide +kernel
theorem d5_24 : decode prog_31_method_7_code 24 = .ok (.invokestatic 59, 3) := by decide +kernel
theorem d5_27 : decode prog_31_method_7_code 27 = .ok (.aload_n 0, 1) := by decide +kernel
theorem d5_28 : decode prog_31_method_7_code 28 = .ok (.iconst 0, 1) := by decide +kernel
theorem d5_29 : decode prog_31_method_7_code 29 = .ok (.putfield 56, 3) := by decide +kernel
theorem ef_5_f2 (m : MethodId) (x0 : Addr) (x1 : Int32) (x2 : Addr) (x3 : Addr) (ka : Addr) (ha : Addr) (va : Addr) (kk : ClassId) (kh : ClassId) (kw : ClassId) (t : Nat → Option Nat) (hf : Nat → Int32) (KA : Nat → Addr) (VA : Nat → Addr) (sh : Int32) (mo : Int32) (sz : Int32) (i0 : Nat) (kf : Nat) (q : Nat)  : entryFrame m #[(.ref x0), (.int x1), (.ref x2), (.ref x3)] 5 = mkF m 0 #[.val (.ref x0), .val (.int x1), .val (.ref x2), .val (.ref x3), .unset] [] := by first | (simp [entryFrame, mkF, argsToLocals, Value.category]; done) | rfl
theorem pd_4 : parseMethodDescriptor "([Ljava/lang/Object;Ljava/lang/Object;)V" = some ⟨[(.array (.object "java/lang/Object")), (.object "java/lang/Object")], none⟩ := by decide +kernel
def Q5_f2 (Z : State) (x0 : Addr) (x1 : Int32) (x2 : Addr) (x3 : Addr) (ka : Addr) (ha : Addr) (va : Addr) (kk : ClassId) (kh : ClassId) (kw : ClassId) (t : Nat → Option Nat) (hf : Nat → Int32) (KA : Nat → Addr) (VA : Nat → Addr) (sh : Int32) (mo : Int32) (sz : Int32) (i0 : Nat) (kf : Nat) (q : Nat) (h0 : Heap) (n0 : Nat) (v : Option Value) (h : Heap) (L : List Loc) : Prop := Fr n0 L ∧ Keep h0 h [x0, ka, ha, va] ∧ v = some (.ref x3) ∧ Exa Z h x0 "com/example/nehaba/nehaba/input/KeptValues" ∧ Fld Z h x0 "com/example/nehaba/nehaba/input/KeptValues" "keys" "[Ljava/lang/Object;" (.ref ka) ∧ Fld Z h x0 "com/example/nehaba/nehaba/input/KeptValues" "hashes" "[I" (.ref ha) ∧ Fld Z h x0 "com/example/nehaba/nehaba/input/KeptValues" "values" "[Ljava/lang/Object;" (.ref va) ∧ Fld Z h x0 "com/example/nehaba/nehaba/input/KeptValues" "most" "I" (.int mo) ∧ Fld Z h x0 "com/example/nehaba/nehaba/input/KeptValues" "size" "I" (.int (1 : Int32)) ∧ Fld Z h x0 "com/example/nehaba/nehaba/input/KeptValues" "shift" "I" (.int sh) ∧ ArF Z h ka kk (.object "java/lang/Object") 2 (fun j => rfv KA ((own_put own_t0 q i0) j)) ∧ ArF Z h ha kh .int 2 (fun j => .int (own_hp hf q x1 j)) ∧ ArF Z h va kw (.object "java/lang/Object") 2 (fun j => rfv VA ((own_put own_t0 q i0) j))
set_option maxRecDepth 65536 in
set_option maxHeartbeats 40000000 in
theorem rm5_f2 (l : Launch) (Z : State) (a0 : Array Value) (hw : ∀ d ∈ tables_1, d.before a0 Z = true) (ws : List Jvm.Cond) (x0 : Addr) (x1 : Int32) (x2 : Addr) (x3 : Addr) (ka : Addr) (ha : Addr) (va : Addr) (kk : ClassId) (kh : ClassId) (kw : ClassId) (t : Nat → Option Nat) (hf : Nat → Int32) (KA : Nat → Addr) (VA : Nat → Addr) (sh : Int32) (mo : Int32) (sz : Int32) (i0 : Nat) (kf : Nat) (q : Nat) (h0 : Heap) (n0 : Nat) (Z0 : n0 ≤ h0.size) (E0 : Exa Z h0 x0 "com/example/nehaba/nehaba/input/KeptValues") (Fk : Fld Z h0 x0 "com/example/nehaba/nehaba/input/KeptValues" "keys" "[Ljava/lang/Object;" (.ref ka)) (Fh : Fld Z h0 x0 "com/example/nehaba/nehaba/input/KeptValues" "hashes" "[I" (.ref ha)) (Fv : Fld Z h0 x0 "com/example/nehaba/nehaba/input/KeptValues" "values" "[Ljava/lang/Object;" (.ref va)) (Fm : Fld Z h0 x0 "com/example/nehaba/nehaba/input/KeptValues" "most" "I" (.int mo)) (Fz : Fld Z h0 x0 "com/example/nehaba/nehaba/input/KeptValues" "size" "I" (.int sz)) (Fs : Fld Z h0 x0 "com/example/nehaba/nehaba/input/KeptValues" "shift" "I" (.int sh)) (Ak : ArF Z h0 ka kk (.object "java/lang/Object") 2 (fun j => rfv KA (t j))) (Ah : ArF Z h0 ha kh .int 2 (fun j => .int (hf j))) (Av : ArF Z h0 va kw (.object "java/lang/Object") 2 (fun j => rfv VA (t j))) (Ok : Ovr Z kk "java/lang/Object") (Ow : Ovr Z kw "java/lang/Object") (I2 : Ins Z h0 x2 "java/lang/Object" true) (I3 : Ins Z h0 x3 "java/lang/Object" true) (hka : KA i0 = x2) (hva : VA i0 = x3) (g_x0 : n0 ≤ x0) (g_ka : n0 ≤ ka) (g_ha : n0 ≤ ha) (g_va : n0 ≤ va) (ne_ka_x0 : ka ≠ x0) (ne_ha_x0 : ha ≠ x0) (ne_ha_ka : ha ≠ ka) (ne_va_x0 : va ≠ x0) (ne_va_ka : va ≠ ka) (ne_va_ha : va ≠ ha) (hfull : sz = mo) (hS : (2 = 2 ∧ sh = 31) ∨ (2 = 4 ∧ sh = 30) ∨ (2 = 8 ∧ sh = 29)) (hq : (own_f x1 sh).toNatClampNeg = q) :
    MetFree l (⟨"com/example/nehaba/nehaba/input/KeptValues", "put", "(ILjava/lang/Object;Ljava/lang/Object;)Ljava/lang/Object;"⟩ : MethodName) (head1 (Jvm.Cond.code (⟨"com/example/nehaba/nehaba/input/KeptValues", "put", "(ILjava/lang/Object;Ljava/lang/Object;)Ljava/lang/Object;"⟩ : MethodName) prog_31_method_7_code 5 (some (.object "java/lang/Object")) :: ws) ({ frames := 1, cells := 0, slots := 0, locals := 15 } : Room)) (fun a U => a = #[(.ref x0), (.int x1), (.ref x2), (.ref x3)] ∧ Z.Warmed39 U.vm ∧ U.heap = h0) (fun _ _ _ _ _ => True) (fun _ U o U' => ∃ v L, o = .returned v ∧ Q5_f2 Z x0 x1 x2 x3 ka ha va kk kh kw t hf KA VA sh mo sz i0 kf q h0 n0 v U'.heap L ∧ FrameEnd U o U' L ({ frames := 1, cells := 0, slots := 0, locals := 15 } : Room).cells ({ frames := 1, cells := 0, slots := 0, locals := 15 } : Room).slots) := by
  refine MetFree.of_bodySF (plainFor_of_name pn_5) hisR ?_
  intro p e s m args below meth c s₁ Bd hml0 hP hK
  obtain ⟨rfl, hZ, hh⟩ := hP
  have hx := Bd.exec
  have hby := Bd.bytes
  have hml : c.maxLocals = 5 := hml0
  have hown : s.vm.findClass "com/example/nehaba/nehaba/input/KeptValues" = some m.cls := findClass_of_methodNamed Bd.named
  have hnm := (name_of_methodNamed Bd.named Bd.method).1
  have X0 : Stand p l e ({ frames := 1, cells := 0, slots := 0, locals := 15 } : Room) s m #[(.ref x0), (.int x1), (.ref x2), (.ref x3)] below meth c s₁ [] 0 0 := Stand.of_body Bd
  have e0 : s₁.heap = h0 := by rw [← hh, Bd.state]; rfl
  have N0 := Fr.nil n0
  have K0 : Keep h0 h0 [x0, ka, ha, va] := Keep.refl h0 _
  refine (?_ : Goes p e below s ({ frames := 1, cells := 0, slots := 0, locals := 15 } : Room).cells ({ frames := 1, cells := 0, slots := 0, locals := 15 } : Room).slots (fun v h L => Q5_f2 Z x0 x1 x2 x3 ka ha va kk kh kw t hf KA VA sh mo sz i0 kf q h0 n0 v h L) (s₁.setTop (entryFrame m #[(.ref x0), (.int x1), (.ref x2), (.ref x3)] 5)))
  rw [ef_5_f2 m x0 x1 x2 x3 ka ha va kk kh kw t hf KA VA sh mo sz i0 kf q ]
  show Goes _ _ _ _ _ _ _ (s₁.setTop (mkF m 0 #[.val (.ref x0), .val (.int x1), .val (.ref x2), .val (.ref x3), .unset] []))
  refine Goes.step (fun _ k => XS.aloadN X0.here hx rfl (hb hby d5_0) rfl rfl k) ?_
  show Goes _ _ _ _ _ _ _ (s₁.setTop (mkF m 1 #[.val (.ref x0), .val (.int x1), .val (.ref x2), .val (.ref x3), .unset] [(.ref x0)]))
  obtain ⟨T1, X1, e1, st1⟩ := getF X0 hx hZ hown (host := "") (Or.inl (hw _ (List.mem_of_getElem? (i := 38) rfl))) Via.refl e0 Fz (g := (mkF m 1 #[.val (.ref x0), .val (.int x1), .val (.ref x2), .val (.ref x3), .unset] [(.ref x0)])) rfl rfl (hb hby d5_1)
  refine Goes.step st1 ?_
  show Goes _ _ _ _ _ _ _ (T1.setTop (mkF m 4 #[.val (.ref x0), .val (.int x1), .val (.ref x2), .val (.ref x3), .unset] [(.int sz)]))
  refine Goes.step (fun _ k => XS.aloadN X1.here hx rfl (hb hby d5_4) rfl rfl k) ?_
  show Goes _ _ _ _ _ _ _ (T1.setTop (mkF m 5 #[.val (.ref x0), .val (.int x1), .val (.ref x2), .val (.ref x3), .unset] [(.ref x0), (.int sz)]))
  obtain ⟨T2, X2, e2, st2⟩ := getF X1 hx hZ hown (host := "") (Or.inl (hw _ (List.mem_of_getElem? (i := 11) rfl))) Via.refl e1 Fm (g := (mkF m 5 #[.val (.ref x0), .val (.int x1), .val (.ref x2), .val (.ref x3), .unset] [(.ref x0), (.int sz)])) rfl rfl (hb hby d5_5)
  refine Goes.step st2 ?_
  show Goes _ _ _ _ _ _ _ (T2.setTop (mkF m 8 #[.val (.ref x0), .val (.int x1), .val (.ref x2), .val (.ref x3), .unset] [(.int mo), (.int sz)]))
  refine Goes.step (fun _ k => XS.icmpNo X2.here hx rfl (hb hby d5_8) rfl (teq hfull).2 k) ?_
  show Goes _ _ _ _ _ _ _ (T2.setTop (mkF m 11 #[.val (.ref x0), .val (.int x1), .val (.ref x2), .val (.ref x3), .unset] []))
  refine Goes.step (fun _ k => XS.aloadN X2.here hx rfl (hb hby d5_11) rfl rfl k) ?_
  show Goes _ _ _ _ _ _ _ (T2.setTop (mkF m 12 #[.val (.ref x0), .val (.int x1), .val (.ref x2), .val (.ref x3), .unset] [(.ref x0)]))
  obtain ⟨T3, X3, e3, st3⟩ := getF X2 hx hZ hown (host := "") (Or.inl (hw _ (List.mem_of_getElem? (i := 24) rfl))) Via.refl e2 Fk (g := (mkF m 12 #[.val (.ref x0), .val (.int x1), .val (.ref x2), .val (.ref x3), .unset] [(.ref x0)])) rfl rfl (hb hby d5_12)
  refine Goes.step st3 ?_
  show Goes _ _ _ _ _ _ _ (T3.setTop (mkF m 15 #[.val (.ref x0), .val (.int x1), .val (.ref x2), .val (.ref x3), .unset] [(.ref ka)]))
  refine Goes.step (fun _ k => XS.aconstNull X3.here hx rfl (hb hby d5_15) k) ?_
  show Goes _ _ _ _ _ _ _ (T3.setTop (mkF m 16 #[.val (.ref x0), .val (.int x1), .val (.ref x2), .val (.ref x3), .unset] [.null, (.ref ka)]))
  obtain ⟨_, _, ⟨T4, L4, k4, n4⟩, -, X4, ⟨Lc4, hQ4, l4, y4, z4⟩, st4⟩ := Jvm.LawKit.callS X3 hx (y := (⟨"java/util/Arrays", "fill", "([Ljava/lang/Object;Ljava/lang/Object;)V"⟩ : MethodName)) hown (mvT hZ (hw _ (List.mem_of_getElem? (i := 46) rfl))) (mvT hZ (hw _ (List.mem_of_getElem? (i := 47) rfl))) (mvT hZ (hw _ (List.mem_of_getElem? (i := 48) rfl))) (mvT hZ (hw _ (List.mem_of_getElem? (i := 49) rfl))) (by decide) (backOf (W := 0) (rm7_2 l Z a0 hw [] ka kk (fun j => rfv KA (t j)) h0 n0 Z0 Ak g_ka) hZ (hw _ (List.mem_of_getElem? (i := 49) rfl)) (hw _ (List.mem_of_getElem? (i := 48) rfl)) (by decide) (by decide)) (g := (mkF m 16 #[.val (.ref x0), .val (.int x1), .val (.ref x2), .val (.ref x3), .unset] [.null, (.ref ka)])) rfl (by rw [hml]; rfl) (argsL := [(.ref ka), .null]) (rest := []) (lenOf pd_4 rfl) rfl (by show 2 * 0 + _ ≤ _; exact Nat.le_of_eq rfl) (hb hby d5_16) (fun _ _ => ⟨rfl, e3, (by decide : 0 + 0 ≤ _), (by decide : 0 + 0 ≤ _)⟩)
  dsimp only [Pt.U, Pt.locs, Pt.cells, Pt.slots] at X4 l4 y4 z4 st4 hQ4
  subst l4 y4 z4
  obtain ⟨N4, KK4, rfl, V4⟩ := hQ4
  have NA4 := Fr.app N0 N4
  have f5 := E0.keep KK4
  have f6 := Fk.keep KK4 (ninS (Ne.symm ne_ka_x0) nin0)
  have f7 := Fh.keep KK4 (ninS (Ne.symm ne_ka_x0) nin0)
  have f8 := Fv.keep KK4 (ninS (Ne.symm ne_ka_x0) nin0)
  have f9 := Fm.keep KK4 (ninS (Ne.symm ne_ka_x0) nin0)
  have f10 := Fz.keep KK4 (ninS (Ne.symm ne_ka_x0) nin0)
  have f11 := Fs.keep KK4 (ninS (Ne.symm ne_ka_x0) nin0)
  have f13 := Ah.keep KK4 (ninS ne_ha_ka nin0)
  have f14 := Av.keep KK4 (ninS ne_va_ka nin0)
  have f15 := own_insKeep I2 KK4
  have f16 := own_insKeep I3 KK4
  have K17 : Keep h0 T4.heap [x0, ka, ha, va] := K0.trans KK4 (allS (Or.inl (List.mem_of_getElem? (i := 1) rfl)) all0)
  have Z17 : n0 ≤ T4.heap.size := Nat.le_trans Z0 KK4.1
  refine Goes.step st4 ?_
  show Goes _ _ _ _ _ _ _ (T4.setTop (mkF m 19 #[.val (.ref x0), .val (.int x1), .val (.ref x2), .val (.ref x3), .unset] []))
  refine Goes.step (fun _ k => XS.aloadN X4.here hx rfl (hb hby d5_19) rfl rfl k) ?_
  show Goes _ _ _ _ _ _ _ (T4.setTop (mkF m 20 #[.val (.ref x0), .val (.int x1), .val (.ref x2), .val (.ref x3), .unset] [(.ref x0)]))
  obtain ⟨T18, X18, e18, st18⟩ := getF X4 hx hZ hown (host := "") (Or.inl (hw _ (List.mem_of_getElem? (i := 28) rfl))) Via.refl rfl f8 (g := (mkF m 20 #[.val (.ref x0), .val (.int x1), .val (.ref x2), .val (.ref x3), .unset] [(.ref x0)])) rfl rfl (hb hby d5_20)
  refine Goes.step st18 ?_
  show Goes _ _ _ _ _ _ _ (T18.setTop (mkF m 23 #[.val (.ref x0), .val (.int x1), .val (.ref x2), .val (.ref x3), .unset] [(.ref va)]))
  refine Goes.step (fun _ k => XS.aconstNull X18.here hx rfl (hb hby d5_23) k) ?_
  show Goes _ _ _ _ _ _ _ (T18.setTop (mkF m 24 #[.val (.ref x0), .val (.int x1), .val (.ref x2), .val (.ref x3), .unset] [.null, (.ref va)]))
  obtain ⟨_, _, ⟨T19, L19, k19, n19⟩, -, X19, ⟨Lc19, hQ19, l19, y19, z19⟩, st19⟩ := Jvm.LawKit.callS X18 hx (y := (⟨"java/util/Arrays", "fill", "([Ljava/lang/Object;Ljava/lang/Object;)V"⟩ : MethodName)) hown (mvT hZ (hw _ (List.mem_of_getElem? (i := 46) rfl))) (mvT hZ (hw _ (List.mem_of_getElem? (i := 47) rfl))) (mvT hZ (hw _ (List.mem_of_getElem? (i := 48) rfl))) (mvT hZ (hw _ (List.mem_of_getElem? (i := 49) rfl))) (by decide) (backOf (W := 0) (rm7_2 l Z a0 hw [] va kw (fun j => rfv VA (t j)) T4.heap n0 Z17 f14 g_va) hZ (hw _ (List.mem_of_getElem? (i := 49) rfl)) (hw _ (List.mem_of_getElem? (i := 48) rfl)) (by decide) (by decide)) (g := (mkF m 24 #[.val (.ref x0), .val (.int x1), .val (.ref x2), .val (.ref x3), .unset] [.null, (.ref va)])) rfl (by rw [hml]; rfl) (argsL := [(.ref va), .null]) (rest := []) (lenOf pd_4 rfl) rfl (by show 2 * 0 + _ ≤ _; exact Nat.le_of_eq rfl) (hb hby d5_24) (fun _ _ => ⟨rfl, e18, (by decide : 0 + 0 ≤ _), (by decide : 0 + 0 ≤ _)⟩)
  dsimp only [Pt.U, Pt.locs, Pt.cells, Pt.slots] at X19 l19 y19 z19 st19 hQ19
  subst l19 y19 z19
  obtain ⟨N19, KK19, rfl, V19⟩ := hQ19
  have NA19 := Fr.app NA4 N19
  have f20 := f5.keep KK19
  have f21 := f6.keep KK19 (ninS (Ne.symm ne_va_x0) nin0)
  have f22 := f7.keep KK19 (ninS (Ne.symm ne_va_x0) nin0)
  have f23 := f8.keep KK19 (ninS (Ne.symm ne_va_x0) nin0)
  have f24 := f9.keep KK19 (ninS (Ne.symm ne_va_x0) nin0)
  have f25 := f10.keep KK19 (ninS (Ne.symm ne_va_x0) nin0)
  have f26 := f11.keep KK19 (ninS (Ne.symm ne_va_x0) nin0)
  have f27 := f13.keep KK19 (ninS (Ne.symm ne_va_ha) nin0)
  have f29 := own_insKeep f15 KK19
  have f30 := own_insKeep f16 KK19
  have f31 := V4.keep KK19 (ninS (Ne.symm ne_va_ka) nin0)
  have K32 : Keep h0 T19.heap [x0, ka, ha, va] := K17.trans KK19 (allS (Or.inl (List.mem_of_getElem? (i := 3) rfl)) all0)
  have Z32 : n0 ≤ T19.heap.size := Nat.le_trans Z17 KK19.1
  refine Goes.step st19 ?_
  show Goes _ _ _ _ _ _ _ (T19.setTop (mkF m 27 #[.val (.ref x0), .val (.int x1), .val (.ref x2), .val (.ref x3), .unset] []))
  refine Goes.step (fun _ k => XS.aloadN X19.here hx rfl (hb hby d5_27) rfl rfl k) ?_
  show Goes _ _ _ _ _ _ _ (T19.setTop (mkF m 28 #[.val (.ref x0), .val (.int x1), .val (.ref x2), .val (.ref x3), .unset] [(.ref x0)]))
  refine Goes.step (fun _ k => XS.iconst X19.here hx rfl (hb hby d5_28) k) ?_
  show Goes _ _ _ _ _ _ _ (T19.setTop (mkF m 29 #[.val (.ref x0), .val (.int x1), .val (.ref x2), .val (.ref x3), .unset] [(.int (0 : Int32)), (.ref x0)]))
  obtain ⟨T33, h33, X33, e33, W33, st33⟩ := putF X19 hx hZ hown (host := "") (Or.inl (hw _ (List.mem_of_getElem? (i := 38) rfl))) Via.refl rfl f25 f20 (Or.inl (hw _ (List.mem_of_getElem? (i := 39) rfl))) (hw _ (List.mem_of_getElem? (i := 2) rfl)) (ty := .int) (by decide) rfl rfl (g := (mkF m 29 #[.val (.ref x0), .val (.int x1), .val (.ref x2), .val (.ref x3), .unset] [(.int (0 : Int32)), (.ref x0)])) rfl rfl (hb hby d5_29)
  refine Goes.step st33 ?_
  have f34 := f20.wr W33
  have f35 := f21.other W33 (Or.inr (slot_ne (Or.inr (hw _ (List.mem_of_getElem? (i := 25) rfl))) (Or.inl (hw _ (List.mem_of_getElem? (i := 39) rfl))) (by decide) (t := (.array (.object "java/lang/Object"))) (t' := .int) (by decide) (by decide)))
  have f36 := f22.other W33 (Or.inr (slot_ne (Or.inr (hw _ (List.mem_of_getElem? (i := 27) rfl))) (Or.inl (hw _ (List.mem_of_getElem? (i := 39) rfl))) (by decide) (t := (.array .int)) (t' := .int) (by decide) (by decide)))
  have f37 := f23.other W33 (Or.inr (slot_ne (Or.inr (hw _ (List.mem_of_getElem? (i := 29) rfl))) (Or.inl (hw _ (List.mem_of_getElem? (i := 39) rfl))) (by decide) (t := (.array (.object "java/lang/Object"))) (t' := .int) (by decide) (by decide)))
  have f38 := f24.other W33 (Or.inr (slot_ne (Or.inr (hw _ (List.mem_of_getElem? (i := 12) rfl))) (Or.inl (hw _ (List.mem_of_getElem? (i := 39) rfl))) (by decide) (t := .int) (t' := .int) (by decide) (by decide)))
  have f39 := f25.same W33
  have f40 := f26.other W33 (Or.inr (slot_ne (Or.inr (hw _ (List.mem_of_getElem? (i := 32) rfl))) (Or.inl (hw _ (List.mem_of_getElem? (i := 39) rfl))) (by decide) (t := .int) (t' := .int) (by decide) (by decide)))
  have f41 := f27.other W33 ne_ha_x0
  have f42 := f29.wr W33
  have f43 := f30.wr W33
  have f44 := f31.other W33 ne_ka_x0
  have f45 := V19.other W33 ne_va_x0
  have K46 : Keep h0 h33 [x0, ka, ha, va] := K32.wr W33 (Or.inl (List.mem_of_getElem? (i := 0) rfl))
  have Z46 : n0 ≤ h33.size := by rw [Wr.size W33]; exact Z32
  have N46 := Fr.snoc X33 NA19 g_x0
  show Goes _ _ _ _ _ _ _ (T33.setTop (mkF m 32 #[.val (.ref x0), .val (.int x1), .val (.ref x2), .val (.ref x3), .unset] []))
  refine Goes.step (fun _ k => XS.aloadN X33.here hx rfl (hb hby d5_32) rfl rfl k) ?_
  show Goes _ _ _ _ _ _ _ (T33.setTop (mkF m 33 #[.val (.ref x0), .val (.int x1), .val (.ref x2), .val (.ref x3), .unset] [(.ref x0)]))
  refine Goes.step (fun _ k => XS.iloadN X33.here hx rfl (hb hby d5_33) rfl  k) ?_
  show Goes _ _ _ _ _ _ _ (T33.setTop (mkF m 34 #[.val (.ref x0), .val (.int x1), .val (.ref x2), .val (.ref x3), .unset] [(.int x1), (.ref x0)]))
  obtain ⟨cq47, q47, q47'⟩ := f34.cell
  obtain ⟨_, _, ⟨T47, L47, k47, n47⟩, -, X47, ⟨Lc47, hQ47, l47, y47, z47⟩, st47⟩ := X33.privateBack hx (y := (⟨"com/example/nehaba/nehaba/input/KeptValues", "first", "(I)I"⟩ : MethodName)) hown (mvT hZ (hw _ (List.mem_of_getElem? (i := 40) rfl))) (mvT hZ (hw _ (List.mem_of_getElem? (i := 41) rfl))) (own_selPriv (mvT hZ (hw _ (List.mem_of_getElem? (i := 36) rfl))) rfl (mvP hZ (hw _ (List.mem_of_getElem? (i := 42) rfl))) (mvT hZ (hw _ (List.mem_of_getElem? (i := 41) rfl))) (by decide)) (Cond.privateMethod_at (mvP hZ (hw _ (List.mem_of_getElem? (i := 42) rfl)) (args := #[]))) (mvT hZ (hw _ (List.mem_of_getElem? (i := 43) rfl))) (by decide) (backOf (W := 0) (rm6 l Z a0 hw [] x0 x1 ka ha va kk kh kw 2 own_t0 hf KA VA sh mo (0 : Int32) h33 n0 Z46 f34 f35 f36 f37 f38 f39 f40 f44 f41 f45) hZ (hw _ (List.mem_of_getElem? (i := 43) rfl)) (hw _ (List.mem_of_getElem? (i := 3) rfl)) (by decide) (by decide)) (g := (mkF m 34 #[.val (.ref x0), .val (.int x1), .val (.ref x2), .val (.ref x3), .unset] [(.int x1), (.ref x0)])) rfl (by rw [hml]; rfl) (Steps.refl _) (a := x0) (by rw [e33]; exact q47) q47' (argsL := [(.int x1)]) (rest := []) (lenOf pd_2 rfl) rfl (by show 2 * 0 + _ ≤ _; exact Nat.le_of_eq rfl) (hb hby d5_34) (fun _ _ => ⟨rfl, e33, (by decide : 0 + 0 ≤ _), (by decide : 0 + 0 ≤ _)⟩)
  dsimp only [Pt.U, Pt.locs, Pt.cells, Pt.slots] at X47 l47 y47 z47 st47 hQ47
  subst l47 y47 z47
  obtain ⟨N47, eh47, hv47⟩ := hQ47
  have NA47 := Fr.app N46 N47
  subst hv47
  refine Goes.back st47 ?_
  show Goes _ _ _ _ _ _ _ (T47.setTop (mkF m 37 #[.val (.ref x0), .val (.int x1), .val (.ref x2), .val (.ref x3), .unset] [(.int (own_f x1 sh))]))
  refine Goes.step (fun _ k => XS.istore X47.here hx rfl (hb hby d5_37) rfl (l' := #[.val (.ref x0), .val (.int x1), .val (.ref x2), .val (.ref x3), .val (.int (own_f x1 sh))]) rfl k) ?_
  show Goes _ _ _ _ _ _ _ (T47.setTop (mkF m 39 #[.val (.ref x0), .val (.int x1), .val (.ref x2), .val (.ref x3), .val (.int (own_f x1 sh))] []))
  refine Goes.step (fun _ k => XS.aloadN X47.here hx rfl (hb hby d5_39) rfl rfl k) ?_
  show Goes _ _ _ _ _ _ _ (T47.setTop (mkF m 40 #[.val (.ref x0), .val (.int x1), .val (.ref x2), .val (.ref x3), .val (.int (own_f x1 sh))] [(.ref x0)]))
  obtain ⟨T48, X48, e48, st48⟩ := getF X47 hx hZ hown (host := "") (Or.inl (hw _ (List.mem_of_getElem? (i := 24) rfl))) Via.refl eh47 f35 (g := (mkF m 40 #[.val (.ref x0), .val (.int x1), .val (.ref x2), .val (.ref x3), .val (.int (own_f x1 sh))] [(.ref x0)])) rfl rfl (hb hby d5_40)
  refine Goes.step st48 ?_
  show Goes _ _ _ _ _ _ _ (T48.setTop (mkF m 43 #[.val (.ref x0), .val (.int x1), .val (.ref x2), .val (.ref x3), .val (.int (own_f x1 sh))] [(.ref ka)]))
  refine Goes.step (fun _ k => XS.iload X48.here hx rfl (hb hby d5_43) rfl  k) ?_
  show Goes _ _ _ _ _ _ _ (T48.setTop (mkF m 45 #[.val (.ref x0), .val (.int x1), .val (.ref x2), .val (.ref x3), .val (.int (own_f x1 sh))] [(.int (own_f x1 sh)), (.ref ka)]))
  obtain ⟨cl49, Ar49, q49, S49, H49⟩ := id f44
  have hin49 := own_arfin S49 (own_first x1 hS).1 (own_first x1 hS).2
  have hat49 : cl49.slots[((own_f x1 sh)).toNatClampNeg]? = some .null := H49 _ (own_first x1 hS).2
  refine Goes.step (fun _ k => X48.aaload hx (j := (own_f x1 sh)) (v := .null) (by rw [e48]; exact Ar49.1) (State.isArrayOf_alike hZ.alike Ar49.2.1) rfl Ar49.2.2 hin49 hat49 (g := (mkF m 45 #[.val (.ref x0), .val (.int x1), .val (.ref x2), .val (.ref x3), .val (.int (own_f x1 sh))] [(.int (own_f x1 sh)), (.ref ka)])) rfl rfl (hb hby d5_45) _ k) ?_
  show Goes _ _ _ _ _ _ _ (T48.setTop (mkF m 46 #[.val (.ref x0), .val (.int x1), .val (.ref x2), .val (.ref x3), .val (.int (own_f x1 sh))] [.null]))
  refine Goes.step (fun _ k => XS.ifnullYes X48.here hx rfl (pc0 := 46) (pc' := 60) rfl (hb hby d5_46) rfl (by decide) (by decide) k) ?_
  show Goes _ _ _ _ _ _ _ (T48.setTop (mkF m 60 #[.val (.ref x0), .val (.int x1), .val (.ref x2), .val (.ref x3), .val (.int (own_f x1 sh))] []))
  refine Goes.step (fun _ k => XS.aloadN X48.here hx rfl (hb hby d5_60) rfl rfl k) ?_
  show Goes _ _ _ _ _ _ _ (T48.setTop (mkF m 61 #[.val (.ref x0), .val (.int x1), .val (.ref x2), .val (.ref x3), .val (.int (own_f x1 sh))] [(.ref x0)]))
  obtain ⟨T50, X50, e50, st50⟩ := getF X48 hx hZ hown (host := "") (Or.inl (hw _ (List.mem_of_getElem? (i := 24) rfl))) Via.refl e48 f35 (g := (mkF m 61 #[.val (.ref x0), .val (.int x1), .val (.ref x2), .val (.ref x3), .val (.int (own_f x1 sh))] [(.ref x0)])) rfl rfl (hb hby d5_61)
  refine Goes.step st50 ?_
  show Goes _ _ _ _ _ _ _ (T50.setTop (mkF m 64 #[.val (.ref x0), .val (.int x1), .val (.ref x2), .val (.ref x3), .val (.int (own_f x1 sh))] [(.ref ka)]))
  refine Goes.step (fun _ k => XS.iload X50.here hx rfl (hb hby d5_64) rfl  k) ?_
  show Goes _ _ _ _ _ _ _ (T50.setTop (mkF m 66 #[.val (.ref x0), .val (.int x1), .val (.ref x2), .val (.ref x3), .val (.int (own_f x1 sh))] [(.int (own_f x1 sh)), (.ref ka)]))
  refine Goes.step (fun _ k => XS.aloadN X50.here hx rfl (hb hby d5_66) rfl rfl k) ?_
  show Goes _ _ _ _ _ _ _ (T50.setTop (mkF m 67 #[.val (.ref x0), .val (.int x1), .val (.ref x2), .val (.ref x3), .val (.int (own_f x1 sh))] [(.ref x2), (.int (own_f x1 sh)), (.ref ka)]))
  obtain ⟨cl51, Ar51, q51, S51, H51⟩ := id f44
  have hin51 := own_arfin S51 (own_first x1 hS).1 (own_first x1 hS).2
  obtain ⟨T52, h52, X52, e52, W52, st52⟩ := stR X50 hx hZ e50 Ar51 (j := (own_f x1 sh)) hin51 rfl (Sto.ofV Ar51 q51 Ok f42) (g := (mkF m 67 #[.val (.ref x0), .val (.int x1), .val (.ref x2), .val (.ref x3), .val (.int (own_f x1 sh))] [(.ref x2), (.int (own_f x1 sh)), (.ref ka)])) rfl rfl (hb hby d5_67)
  refine Goes.step st52 ?_
  have V52 := ArF.set Ar51 q51 S51 H51 W52
  have f53 := f34.wr W52
  have f54 := f35.other W52 (Or.inl (Ne.symm ne_ka_x0))
  have f55 := f36.other W52 (Or.inl (Ne.symm ne_ka_x0))
  have f56 := f37.other W52 (Or.inl (Ne.symm ne_ka_x0))
  have f57 := f38.other W52 (Or.inl (Ne.symm ne_ka_x0))
  have f58 := f39.other W52 (Or.inl (Ne.symm ne_ka_x0))
  have f59 := f40.other W52 (Or.inl (Ne.symm ne_ka_x0))
  have f60 := f41.other W52 ne_ha_ka
  have f61 := f42.wr W52
  have f62 := f43.wr W52
  have f63 := V52
  have f64 := f45.other W52 ne_va_ka
  have K65 : Keep h0 h52 [x0, ka, ha, va] := K46.wr W52 (Or.inl (List.mem_of_getElem? (i := 1) rfl))
  have Z65 : n0 ≤ h52.size := by rw [Wr.size W52]; exact Z46
  have N65 := Fr.snoc X52 NA47 g_ka
  show Goes _ _ _ _ _ _ _ (T52.setTop (mkF m 68 #[.val (.ref x0), .val (.int x1), .val (.ref x2), .val (.ref x3), .val (.int (own_f x1 sh))] []))
  refine Goes.step (fun _ k => XS.aloadN X52.here hx rfl (hb hby d5_68) rfl rfl k) ?_
  show Goes _ _ _ _ _ _ _ (T52.setTop (mkF m 69 #[.val (.ref x0), .val (.int x1), .val (.ref x2), .val (.ref x3), .val (.int (own_f x1 sh))] [(.ref x0)]))
  obtain ⟨T66, X66, e66, st66⟩ := getF X52 hx hZ hown (host := "") (Or.inl (hw _ (List.mem_of_getElem? (i := 26) rfl))) Via.refl e52 f55 (g := (mkF m 69 #[.val (.ref x0), .val (.int x1), .val (.ref x2), .val (.ref x3), .val (.int (own_f x1 sh))] [(.ref x0)])) rfl rfl (hb hby d5_69)
  refine Goes.step st66 ?_
  show Goes _ _ _ _ _ _ _ (T66.setTop (mkF m 72 #[.val (.ref x0), .val (.int x1), .val (.ref x2), .val (.ref x3), .val (.int (own_f x1 sh))] [(.ref ha)]))
  refine Goes.step (fun _ k => XS.iload X66.here hx rfl (hb hby d5_72) rfl  k) ?_
  show Goes _ _ _ _ _ _ _ (T66.setTop (mkF m 74 #[.val (.ref x0), .val (.int x1), .val (.ref x2), .val (.ref x3), .val (.int (own_f x1 sh))] [(.int (own_f x1 sh)), (.ref ha)]))
  refine Goes.step (fun _ k => XS.iloadN X66.here hx rfl (hb hby d5_74) rfl  k) ?_
  show Goes _ _ _ _ _ _ _ (T66.setTop (mkF m 75 #[.val (.ref x0), .val (.int x1), .val (.ref x2), .val (.ref x3), .val (.int (own_f x1 sh))] [(.int x1), (.int (own_f x1 sh)), (.ref ha)]))
  obtain ⟨cl67, Ar67, q67, S67, H67⟩ := id f60
  have hin67 := own_arfin S67 (own_first x1 hS).1 (own_first x1 hS).2
  obtain ⟨T68, h68, X68, e68, W68, st68⟩ := stI X66 hx hZ e66 Ar67 (j := (own_f x1 sh)) hin67 (g := (mkF m 75 #[.val (.ref x0), .val (.int x1), .val (.ref x2), .val (.ref x3), .val (.int (own_f x1 sh))] [(.int x1), (.int (own_f x1 sh)), (.ref ha)])) rfl rfl (hb hby d5_75)
  refine Goes.step st68 ?_
  have V68 := ArF.set Ar67 q67 S67 H67 W68
  have f69 := f53.wr W68
  have f70 := f54.other W68 (Or.inl (Ne.symm ne_ha_x0))
  have f71 := f55.other W68 (Or.inl (Ne.symm ne_ha_x0))
  have f72 := f56.other W68 (Or.inl (Ne.symm ne_ha_x0))
  have f73 := f57.other W68 (Or.inl (Ne.symm ne_ha_x0))
  have f74 := f58.other W68 (Or.inl (Ne.symm ne_ha_x0))
  have f75 := f59.other W68 (Or.inl (Ne.symm ne_ha_x0))
  have f76 := V68
  have f77 := f61.wr W68
  have f78 := f62.wr W68
  have f79 := f63.other W68 (Ne.symm ne_ha_ka)
  have f80 := f64.other W68 ne_va_ha
  have K81 : Keep h0 h68 [x0, ka, ha, va] := K65.wr W68 (Or.inl (List.mem_of_getElem? (i := 2) rfl))
  have Z81 : n0 ≤ h68.size := by rw [Wr.size W68]; exact Z65
  have N81 := Fr.snoc X68 N65 g_ha
  show Goes _ _ _ _ _ _ _ (T68.setTop (mkF m 76 #[.val (.ref x0), .val (.int x1), .val (.ref x2), .val (.ref x3), .val (.int (own_f x1 sh))] []))
  refine Goes.step (fun _ k => XS.aloadN X68.here hx rfl (hb hby d5_76) rfl rfl k) ?_
  show Goes _ _ _ _ _ _ _ (T68.setTop (mkF m 77 #[.val (.ref x0), .val (.int x1), .val (.ref x2), .val (.ref x3), .val (.int (own_f x1 sh))] [(.ref x0)]))
  obtain ⟨T82, X82, e82, st82⟩ := getF X68 hx hZ hown (host := "") (Or.inl (hw _ (List.mem_of_getElem? (i := 28) rfl))) Via.refl e68 f72 (g := (mkF m 77 #[.val (.ref x0), .val (.int x1), .val (.ref x2), .val (.ref x3), .val (.int (own_f x1 sh))] [(.ref x0)])) rfl rfl (hb hby d5_77)
  refine Goes.step st82 ?_
  show Goes _ _ _ _ _ _ _ (T82.setTop (mkF m 80 #[.val (.ref x0), .val (.int x1), .val (.ref x2), .val (.ref x3), .val (.int (own_f x1 sh))] [(.ref va)]))
  refine Goes.step (fun _ k => XS.iload X82.here hx rfl (hb hby d5_80) rfl  k) ?_
  show Goes _ _ _ _ _ _ _ (T82.setTop (mkF m 82 #[.val (.ref x0), .val (.int x1), .val (.ref x2), .val (.ref x3), .val (.int (own_f x1 sh))] [(.int (own_f x1 sh)), (.ref va)]))
  refine Goes.step (fun _ k => XS.aloadN X82.here hx rfl (hb hby d5_82) rfl rfl k) ?_
  show Goes _ _ _ _ _ _ _ (T82.setTop (mkF m 83 #[.val (.ref x0), .val (.int x1), .val (.ref x2), .val (.ref x3), .val (.int (own_f x1 sh))] [(.ref x3), (.int (own_f x1 sh)), (.ref va)]))
  obtain ⟨cl83, Ar83, q83, S83, H83⟩ := id f80
  have hin83 := own_arfin S83 (own_first x1 hS).1 (own_first x1 hS).2
  obtain ⟨T84, h84, X84, e84, W84, st84⟩ := stR X82 hx hZ e82 Ar83 (j := (own_f x1 sh)) hin83 rfl (Sto.ofV Ar83 q83 Ow f78) (g := (mkF m 83 #[.val (.ref x0), .val (.int x1), .val (.ref x2), .val (.ref x3), .val (.int (own_f x1 sh))] [(.ref x3), (.int (own_f x1 sh)), (.ref va)])) rfl rfl (hb hby d5_83)
  refine Goes.step st84 ?_
  have V84 := ArF.set Ar83 q83 S83 H83 W84
  have f85 := f69.wr W84
  have f86 := f70.other W84 (Or.inl (Ne.symm ne_va_x0))
  have f87 := f71.other W84 (Or.inl (Ne.symm ne_va_x0))
  have f88 := f72.other W84 (Or.inl (Ne.symm ne_va_x0))
  have f89 := f73.other W84 (Or.inl (Ne.symm ne_va_x0))
  have f90 := f74.other W84 (Or.inl (Ne.symm ne_va_x0))
  have f91 := f75.other W84 (Or.inl (Ne.symm ne_va_x0))
  have f92 := f76.other W84 (Ne.symm ne_va_ha)
  have f93 := f77.wr W84
  have f94 := f78.wr W84
  have f95 := f79.other W84 (Ne.symm ne_va_ka)
  have f96 := V84
  have K97 : Keep h0 h84 [x0, ka, ha, va] := K81.wr W84 (Or.inl (List.mem_of_getElem? (i := 3) rfl))
  have Z97 : n0 ≤ h84.size := by rw [Wr.size W84]; exact Z81
  have N97 := Fr.snoc X84 N81 g_va
  show Goes _ _ _ _ _ _ _ (T84.setTop (mkF m 84 #[.val (.ref x0), .val (.int x1), .val (.ref x2), .val (.ref x3), .val (.int (own_f x1 sh))] []))
  refine Goes.step (fun _ k => XS.aloadN X84.here hx rfl (hb hby d5_84) rfl rfl k) ?_
  show Goes _ _ _ _ _ _ _ (T84.setTop (mkF m 85 #[.val (.ref x0), .val (.int x1), .val (.ref x2), .val (.ref x3), .val (.int (own_f x1 sh))] [(.ref x0)]))
  refine Goes.step (fun _ k => XS.dup X84.here hx rfl (hb hby d5_85) rfl rfl k) ?_
  show Goes _ _ _ _ _ _ _ (T84.setTop (mkF m 86 #[.val (.ref x0), .val (.int x1), .val (.ref x2), .val (.ref x3), .val (.int (own_f x1 sh))] [(.ref x0), (.ref x0)]))
  obtain ⟨T98, X98, e98, st98⟩ := getF X84 hx hZ hown (host := "") (Or.inl (hw _ (List.mem_of_getElem? (i := 38) rfl))) Via.refl e84 f90 (g := (mkF m 86 #[.val (.ref x0), .val (.int x1), .val (.ref x2), .val (.ref x3), .val (.int (own_f x1 sh))] [(.ref x0), (.ref x0)])) rfl rfl (hb hby d5_86)
  refine Goes.step st98 ?_
  show Goes _ _ _ _ _ _ _ (T98.setTop (mkF m 89 #[.val (.ref x0), .val (.int x1), .val (.ref x2), .val (.ref x3), .val (.int (own_f x1 sh))] [(.int (0 : Int32)), (.ref x0)]))
  refine Goes.step (fun _ k => XS.iconst X98.here hx rfl (hb hby d5_89) k) ?_
  show Goes _ _ _ _ _ _ _ (T98.setTop (mkF m 90 #[.val (.ref x0), .val (.int x1), .val (.ref x2), .val (.ref x3), .val (.int (own_f x1 sh))] [(.int (1 : Int32)), (.int (0 : Int32)), (.ref x0)]))
  refine Goes.step (fun _ k => XS.iadd X98.here hx rfl (hb hby d5_90) rfl k) ?_
  show Goes _ _ _ _ _ _ _ (T98.setTop (mkF m 91 #[.val (.ref x0), .val (.int x1), .val (.ref x2), .val (.ref x3), .val (.int (own_f x1 sh))] [(.int (1 : Int32)), (.ref x0)]))
  obtain ⟨T99, h99, X99, e99, W99, st99⟩ := putF X98 hx hZ hown (host := "") (Or.inl (hw _ (List.mem_of_getElem? (i := 38) rfl))) Via.refl e98 f90 f85 (Or.inl (hw _ (List.mem_of_getElem? (i := 39) rfl))) (hw _ (List.mem_of_getElem? (i := 2) rfl)) (ty := .int) (by decide) rfl rfl (g := (mkF m 91 #[.val (.ref x0), .val (.int x1), .val (.ref x2), .val (.ref x3), .val (.int (own_f x1 sh))] [(.int (1 : Int32)), (.ref x0)])) rfl rfl (hb hby d5_91)
  refine Goes.step st99 ?_
  have f100 := f85.wr W99
  have f101 := f86.other W99 (Or.inr (slot_ne (Or.inr (hw _ (List.mem_of_getElem? (i := 25) rfl))) (Or.inl (hw _ (List.mem_of_getElem? (i := 39) rfl))) (by decide) (t := (.array (.object "java/lang/Object"))) (t' := .int) (by decide) (by decide)))
  have f102 := f87.other W99 (Or.inr (slot_ne (Or.inr (hw _ (List.mem_of_getElem? (i := 27) rfl))) (Or.inl (hw _ (List.mem_of_getElem? (i := 39) rfl))) (by decide) (t := (.array .int)) (t' := .int) (by decide) (by decide)))
  have f103 := f88.other W99 (Or.inr (slot_ne (Or.inr (hw _ (List.mem_of_getElem? (i := 29) rfl))) (Or.inl (hw _ (List.mem_of_getElem? (i := 39) rfl))) (by decide) (t := (.array (.object "java/lang/Object"))) (t' := .int) (by decide) (by decide)))
  have f104 := f89.other W99 (Or.inr (slot_ne (Or.inr (hw _ (List.mem_of_getElem? (i := 12) rfl))) (Or.inl (hw _ (List.mem_of_getElem? (i := 39) rfl))) (by decide) (t := .int) (t' := .int) (by decide) (by decide)))
  have f105 := f90.same W99
  have f106 := f91.other W99 (Or.inr (slot_ne (Or.inr (hw _ (List.mem_of_getElem? (i := 32) rfl))) (Or.inl (hw _ (List.mem_of_getElem? (i := 39) rfl))) (by decide) (t := .int) (t' := .int) (by decide) (by decide)))
  have f107 := f92.other W99 ne_ha_x0
  have f108 := f93.wr W99
  have f109 := f94.wr W99
  have f110 := f95.other W99 ne_ka_x0
  have f111 := f96.other W99 ne_va_x0
  have K112 : Keep h0 h99 [x0, ka, ha, va] := K97.wr W99 (Or.inl (List.mem_of_getElem? (i := 0) rfl))
  have Z112 : n0 ≤ h99.size := by rw [Wr.size W99]; exact Z97
  have N112 := Fr.snoc X99 N97 g_x0
  show Goes _ _ _ _ _ _ _ (T99.setTop (mkF m 94 #[.val (.ref x0), .val (.int x1), .val (.ref x2), .val (.ref x3), .val (.int (own_f x1 sh))] []))
  refine Goes.step (fun _ k => XS.aloadN X99.here hx rfl (hb hby d5_94) rfl rfl k) ?_
  show Goes _ _ _ _ _ _ _ (T99.setTop (mkF m 95 #[.val (.ref x0), .val (.int x1), .val (.ref x2), .val (.ref x3), .val (.int (own_f x1 sh))] [(.ref x3)]))
  exact Goes.ret X99 hx (BodyLoose.notSynchronized Bd) Bd.returns rfl (Or.inr (Or.inr (Or.inr (Or.inr ⟨rfl, rfl, rfl⟩)))) (hb hby d5_95) (by show Q5_f2 Z x0 x1 x2 x3 ka ha va kk kh kw t hf KA VA sh mo sz i0 kf q h0 n0 (some (.ref x3)) T99.heap _; rw [e99]; exact ⟨N112, K112, rfl, f100, f101, f102, f103, f104, f105, f106, (f110.congr (own_rfset (t := own_t0) hka _ hq)), (f107.congr (own_hset _ hq)), (f111.congr (own_rfset (t := own_t0) hva _ hq))⟩) (by decide) (by decide)
theorem ef_7_4 (m : MethodId) (x0 : Addr) (kx : ClassId) (ff : Nat → Value)  : entryFrame m #[(.ref x0), .null] 4 = mkF m 0 #[.val (.ref x0), .val .null, .unset, .unset] [] := by first | (simp [entryFrame, mkF, argsToLocals, Value.category]; done) | rfl
def Q7_4 (Z : State) (x0 : Addr) (kx : ClassId) (ff : Nat → Value) (h0 : Heap) (n0 : Nat) (v : Option Value) (h : Heap) (L : List Loc) : Prop := Fr n0 L ∧ Keep h0 h [x0] ∧ v = none ∧ ArF Z h x0 kx (.object "java/lang/Object") 4 (fun _ => .null)
set_option maxRecDepth 65536 in
set_option maxHeartbeats 40000000 in
theorem rm7_4 (l : Launch) (Z : State) (a0 : Array Value) (hw : ∀ d ∈ tables_1, d.before a0 Z = true) (ws : List Jvm.Cond) (x0 : Addr) (kx : ClassId) (ff : Nat → Value) (h0 : Heap) (n0 : Nat) (Z0 : n0 ≤ h0.size) (A0 : ArF Z h0 x0 kx (.object "java/lang/Object") 4 ff) (g_x0 : n0 ≤ x0) :
    MetFree l (⟨"java/util/Arrays", "fill", "([Ljava/lang/Object;Ljava/lang/Object;)V"⟩ : MethodName) (head1 (Jvm.Cond.code (⟨"java/util/Arrays", "fill", "([Ljava/lang/Object;Ljava/lang/Object;)V"⟩ : MethodName) jdk_65_method_117_code 4 none :: ws) ({ frames := 0, cells := 0, slots := 0, locals := 0 } : Room)) (fun a U => a = #[(.ref x0), .null] ∧ Z.Warmed39 U.vm ∧ U.heap = h0) (fun _ _ _ _ _ => True) (fun _ U o U' => ∃ v L, o = .returned v ∧ Q7_4 Z x0 kx ff h0 n0 v U'.heap L ∧ FrameEnd U o U' L ({ frames := 0, cells := 0, slots := 0, locals := 0 } : Room).cells ({ frames := 0, cells := 0, slots := 0, locals := 0 } : Room).slots) := by
  refine MetFree.of_bodySF (plainFor_of_name pn_7) hisR ?_
  intro p e s m args below meth c s₁ Bd hml0 hP hK
  obtain ⟨rfl, hZ, hh⟩ := hP
  have hx := Bd.exec
  have hby := Bd.bytes
  have hml : c.maxLocals = 4 := hml0
  have hown : s.vm.findClass "java/util/Arrays" = some m.cls := findClass_of_methodNamed Bd.named
  have hnm := (name_of_methodNamed Bd.named Bd.method).1
  have X0 : Stand p l e ({ frames := 0, cells := 0, slots := 0, locals := 0 } : Room) s m #[(.ref x0), .null] below meth c s₁ [] 0 0 := Stand.of_body Bd
  have e0 : s₁.heap = h0 := by rw [← hh, Bd.state]; rfl
  have N0 := Fr.nil n0
  have K0 : Keep h0 h0 [x0] := Keep.refl h0 _
  refine (?_ : Goes p e below s ({ frames := 0, cells := 0, slots := 0, locals := 0 } : Room).cells ({ frames := 0, cells := 0, slots := 0, locals := 0 } : Room).slots (fun v h L => Q7_4 Z x0 kx ff h0 n0 v h L) (s₁.setTop (entryFrame m #[(.ref x0), .null] 4)))
  rw [ef_7_4 m x0 kx ff ]
  show Goes _ _ _ _ _ _ _ (s₁.setTop (mkF m 0 #[.val (.ref x0), .val .null, .unset, .unset] []))
  refine Goes.step (fun _ k => XS.iconst X0.here hx rfl (hb hby d7_0) k) ?_
  show Goes _ _ _ _ _ _ _ (s₁.setTop (mkF m 1 #[.val (.ref x0), .val .null, .unset, .unset] [(.int (0 : Int32))]))
  refine Goes.step (fun _ k => XS.istoreN X0.here hx rfl (hb hby d7_1) rfl (l' := #[.val (.ref x0), .val .null, .val (.int (0 : Int32)), .unset]) rfl k) ?_
  show Goes _ _ _ _ _ _ _ (s₁.setTop (mkF m 2 #[.val (.ref x0), .val .null, .val (.int (0 : Int32)), .unset] []))
  refine Goes.step (fun _ k => XS.aloadN X0.here hx rfl (hb hby d7_2) rfl rfl k) ?_
  show Goes _ _ _ _ _ _ _ (s₁.setTop (mkF m 3 #[.val (.ref x0), .val .null, .val (.int (0 : Int32)), .unset] [(.ref x0)]))
  obtain ⟨cl1, Ar1, q1, S1, H1⟩ := id A0
  refine Goes.step (fun _ k => X0.arraylength hx (by rw [e0]; exact Ar1.1) (State.isArrayOf_alike hZ.alike Ar1.2.1) (g := (mkF m 3 #[.val (.ref x0), .val .null, .val (.int (0 : Int32)), .unset] [(.ref x0)])) rfl rfl (hb hby d7_3) _ k) ?_
  rw [S1]
  show Goes _ _ _ _ _ _ _ (s₁.setTop (mkF m 4 #[.val (.ref x0), .val .null, .val (.int (0 : Int32)), .unset] [(.int (4 : Int32))]))
  refine Goes.step (fun _ k => XS.istoreN X0.here hx rfl (hb hby d7_4) rfl (l' := #[.val (.ref x0), .val .null, .val (.int (0 : Int32)), .val (.int (4 : Int32))]) rfl k) ?_
  show Goes _ _ _ _ _ _ _ (s₁.setTop (mkF m 5 #[.val (.ref x0), .val .null, .val (.int (0 : Int32)), .val (.int (4 : Int32))] []))
  refine Goes.step (fun _ k => XS.iloadN X0.here hx rfl (hb hby d7_5) rfl  k) ?_
  show Goes _ _ _ _ _ _ _ (s₁.setTop (mkF m 6 #[.val (.ref x0), .val .null, .val (.int (0 : Int32)), .val (.int (4 : Int32))] [(.int (0 : Int32))]))
  refine Goes.step (fun _ k => XS.iloadN X0.here hx rfl (hb hby d7_6) rfl  k) ?_
  show Goes _ _ _ _ _ _ _ (s₁.setTop (mkF m 7 #[.val (.ref x0), .val .null, .val (.int (0 : Int32)), .val (.int (4 : Int32))] [(.int (4 : Int32)), (.int (0 : Int32))]))
  refine Goes.step (fun _ k => XS.icmpNo X0.here hx rfl (hb hby d7_7) rfl (tlt (by decide : (0 : Int32) < (4 : Int32))).2.1 k) ?_
  show Goes _ _ _ _ _ _ _ (s₁.setTop (mkF m 10 #[.val (.ref x0), .val .null, .val (.int (0 : Int32)), .val (.int (4 : Int32))] []))
  refine Goes.step (fun _ k => XS.aloadN X0.here hx rfl (hb hby d7_10) rfl rfl k) ?_
  show Goes _ _ _ _ _ _ _ (s₁.setTop (mkF m 11 #[.val (.ref x0), .val .null, .val (.int (0 : Int32)), .val (.int (4 : Int32))] [(.ref x0)]))
  refine Goes.step (fun _ k => XS.iloadN X0.here hx rfl (hb hby d7_11) rfl  k) ?_
  show Goes _ _ _ _ _ _ _ (s₁.setTop (mkF m 12 #[.val (.ref x0), .val .null, .val (.int (0 : Int32)), .val (.int (4 : Int32))] [(.int (0 : Int32)), (.ref x0)]))
  refine Goes.step (fun _ k => XS.aloadN X0.here hx rfl (hb hby d7_12) rfl rfl k) ?_
  show Goes _ _ _ _ _ _ _ (s₁.setTop (mkF m 13 #[.val (.ref x0), .val .null, .val (.int (0 : Int32)), .val (.int (4 : Int32))] [.null, (.int (0 : Int32)), (.ref x0)]))
  obtain ⟨cl2, Ar2, q2, S2, H2⟩ := id A0
  have hin2 := own_arfin S2 (by decide : ¬ (0 : Int32) < 0) (by decide : ((0 : Int32)).toNatClampNeg < 4)
  obtain ⟨T3, h3, X3, e3, W3, st3⟩ := stR X0 hx hZ e0 Ar2 (j := (0 : Int32)) hin2 rfl (Or.inl rfl) (g := (mkF m 13 #[.val (.ref x0), .val .null, .val (.int (0 : Int32)), .val (.int (4 : Int32))] [.null, (.int (0 : Int32)), (.ref x0)])) rfl rfl (hb hby d7_13)
  refine Goes.step st3 ?_
  have V3 := ArF.set Ar2 q2 S2 H2 W3
  have f4 := V3
  have K5 : Keep h0 h3 [x0] := K0.wr W3 (Or.inl (List.mem_of_getElem? (i := 0) rfl))
  have Z5 : n0 ≤ h3.size := by rw [Wr.size W3]; exact Z0
  have N5 := Fr.snoc X3 N0 g_x0
  show Goes _ _ _ _ _ _ _ (T3.setTop (mkF m 14 #[.val (.ref x0), .val .null, .val (.int (0 : Int32)), .val (.int (4 : Int32))] []))
  refine Goes.step (fun _ k => XS.iinc X3.here hx rfl (hb hby d7_14) rfl (l' := #[.val (.ref x0), .val .null, .val (.int (1 : Int32)), .val (.int (4 : Int32))]) rfl k) ?_
  show Goes _ _ _ _ _ _ _ (T3.setTop (mkF m 17 #[.val (.ref x0), .val .null, .val (.int (1 : Int32)), .val (.int (4 : Int32))] []))
  refine Goes.step (fun _ k => XS.goto X3.here hx rfl (pc0 := 17) (pc' := 5) rfl (hb hby d7_17) (by decide) (by decide) k) ?_
  show Goes _ _ _ _ _ _ _ (T3.setTop (mkF m 5 #[.val (.ref x0), .val .null, .val (.int (1 : Int32)), .val (.int (4 : Int32))] []))
  refine Goes.step (fun _ k => XS.iloadN X3.here hx rfl (hb hby d7_5) rfl  k) ?_
  show Goes _ _ _ _ _ _ _ (T3.setTop (mkF m 6 #[.val (.ref x0), .val .null, .val (.int (1 : Int32)), .val (.int (4 : Int32))] [(.int (1 : Int32))]))
  refine Goes.step (fun _ k => XS.iloadN X3.here hx rfl (hb hby d7_6) rfl  k) ?_
  show Goes _ _ _ _ _ _ _ (T3.setTop (mkF m 7 #[.val (.ref x0), .val .null, .val (.int (1 : Int32)), .val (.int (4 : Int32))] [(.int (4 : Int32)), (.int (1 : Int32))]))
  refine Goes.step (fun _ k => XS.icmpNo X3.here hx rfl (hb hby d7_7) rfl (tlt (by decide : (1 : Int32) < (4 : Int32))).2.1 k) ?_
  show Goes _ _ _ _ _ _ _ (T3.setTop (mkF m 10 #[.val (.ref x0), .val .null, .val (.int (1 : Int32)), .val (.int (4 : Int32))] []))
  refine Goes.step (fun _ k => XS.aloadN X3.here hx rfl (hb hby d7_10) rfl rfl k) ?_
  show Goes _ _ _ _ _ _ _ (T3.setTop (mkF m 11 #[.val (.ref x0), .val .null, .val (.int (1 : Int32)), .val (.int (4 : Int32))] [(.ref x0)]))
  refine Goes.step (fun _ k => XS.iloadN X3.here hx rfl (hb hby d7_11) rfl  k) ?_
  show Goes _ _ _ _ _ _ _ (T3.setTop (mkF m 12 #[.val (.ref x0), .val .null, .val (.int (1 : Int32)), .val (.int (4 : Int32))] [(.int (1 : Int32)), (.ref x0)]))
  refine Goes.step (fun _ k => XS.aloadN X3.here hx rfl (hb hby d7_12) rfl rfl k) ?_
  show Goes _ _ _ _ _ _ _ (T3.setTop (mkF m 13 #[.val (.ref x0), .val .null, .val (.int (1 : Int32)), .val (.int (4 : Int32))] [.null, (.int (1 : Int32)), (.ref x0)]))
  obtain ⟨cl6, Ar6, q6, S6, H6⟩ := id f4
  have hin6 := own_arfin S6 (by decide : ¬ (1 : Int32) < 0) (by decide : ((1 : Int32)).toNatClampNeg < 4)
  obtain ⟨T7, h7, X7, e7, W7, st7⟩ := stR X3 hx hZ e3 Ar6 (j := (1 : Int32)) hin6 rfl (Or.inl rfl) (g := (mkF m 13 #[.val (.ref x0), .val .null, .val (.int (1 : Int32)), .val (.int (4 : Int32))] [.null, (.int (1 : Int32)), (.ref x0)])) rfl rfl (hb hby d7_13)
  refine Goes.step st7 ?_
  have V7 := ArF.set Ar6 q6 S6 H6 W7
  have f8 := V7
  have K9 : Keep h0 h7 [x0] := K5.wr W7 (Or.inl (List.mem_of_getElem? (i := 0) rfl))
  have Z9 : n0 ≤ h7.size := by rw [Wr.size W7]; exact Z5
  have N9 := Fr.snoc X7 N5 g_x0
  show Goes _ _ _ _ _ _ _ (T7.setTop (mkF m 14 #[.val (.ref x0), .val .null, .val (.int (1 : Int32)), .val (.int (4 : Int32))] []))
  refine Goes.step (fun _ k => XS.iinc X7.here hx rfl (hb hby d7_14) rfl (l' := #[.val (.ref x0), .val .null, .val (.int (2 : Int32)), .val (.int (4 : Int32))]) rfl k) ?_
  show Goes _ _ _ _ _ _ _ (T7.setTop (mkF m 17 #[.val (.ref x0), .val .null, .val (.int (2 : Int32)), .val (.int (4 : Int32))] []))
  refine Goes.step (fun _ k => XS.goto X7.here hx rfl (pc0 := 17) (pc' := 5) rfl (hb hby d7_17) (by decide) (by decide) k) ?_
  show Goes _ _ _ _ _ _ _ (T7.setTop (mkF m 5 #[.val (.ref x0), .val .null, .val (.int (2 : Int32)), .val (.int (4 : Int32))] []))
  refine Goes.step (fun _ k => XS.iloadN X7.here hx rfl (hb hby d7_5) rfl  k) ?_
  show Goes _ _ _ _ _ _ _ (T7.setTop (mkF m 6 #[.val (.ref x0), .val .null, .val (.int (2 : Int32)), .val (.int (4 : Int32))] [(.int (2 : Int32))]))
  refine Goes.step (fun _ k => XS.iloadN X7.here hx rfl (hb hby d7_6) rfl  k) ?_
  show Goes _ _ _ _ _ _ _ (T7.setTop (mkF m 7 #[.val (.ref x0), .val .null, .val (.int (2 : Int32)), .val (.int (4 : Int32))] [(.int (4 : Int32)), (.int (2 : Int32))]))
  refine Goes.step (fun _ k => XS.icmpNo X7.here hx rfl (hb hby d7_7) rfl (tlt (by decide : (2 : Int32) < (4 : Int32))).2.1 k) ?_
  show Goes _ _ _ _ _ _ _ (T7.setTop (mkF m 10 #[.val (.ref x0), .val .null, .val (.int (2 : Int32)), .val (.int (4 : Int32))] []))
  refine Goes.step (fun _ k => XS.aloadN X7.here hx rfl (hb hby d7_10) rfl rfl k) ?_
  show Goes _ _ _ _ _ _ _ (T7.setTop (mkF m 11 #[.val (.ref x0), .val .null, .val (.int (2 : Int32)), .val (.int (4 : Int32))] [(.ref x0)]))
  refine Goes.step (fun _ k => XS.iloadN X7.here hx rfl (hb hby d7_11) rfl  k) ?_
  show Goes _ _ _ _ _ _ _ (T7.setTop (mkF m 12 #[.val (.ref x0), .val .null, .val (.int (2 : Int32)), .val (.int (4 : Int32))] [(.int (2 : Int32)), (.ref x0)]))
  refine Goes.step (fun _ k => XS.aloadN X7.here hx rfl (hb hby d7_12) rfl rfl k) ?_
  show Goes _ _ _ _ _ _ _ (T7.setTop (mkF m 13 #[.val (.ref x0), .val .null, .val (.int (2 : Int32)), .val (.int (4 : Int32))] [.null, (.int (2 : Int32)), (.ref x0)]))
  obtain ⟨cl10, Ar10, q10, S10, H10⟩ := id f8
  have hin10 := own_arfin S10 (by decide : ¬ (2 : Int32) < 0) (by decide : ((2 : Int32)).toNatClampNeg < 4)
  obtain ⟨T11, h11, X11, e11, W11, st11⟩ := stR X7 hx hZ e7 Ar10 (j := (2 : Int32)) hin10 rfl (Or.inl rfl) (g := (mkF m 13 #[.val (.ref x0), .val .null, .val (.int (2 : Int32)), .val (.int (4 : Int32))] [.null, (.int (2 : Int32)), (.ref x0)])) rfl rfl (hb hby d7_13)
  refine Goes.step st11 ?_
  have V11 := ArF.set Ar10 q10 S10 H10 W11
  have f12 := V11
  have K13 : Keep h0 h11 [x0] := K9.wr W11 (Or.inl (List.mem_of_getElem? (i := 0) rfl))
  have Z13 : n0 ≤ h11.size := by rw [Wr.size W11]; exact Z9
  have N13 := Fr.snoc X11 N9 g_x0
  show Goes _ _ _ _ _ _ _ (T11.setTop (mkF m 14 #[.val (.ref x0), .val .null, .val (.int (2 : Int32)), .val (.int (4 : Int32))] []))
  refine Goes.step (fun _ k => XS.iinc X11.here hx rfl (hb hby d7_14) rfl (l' := #[.val (.ref x0), .val .null, .val (.int (3 : Int32)), .val (.int (4 : Int32))]) rfl k) ?_
  show Goes _ _ _ _ _ _ _ (T11.setTop (mkF m 17 #[.val (.ref x0), .val .null, .val (.int (3 : Int32)), .val (.int (4 : Int32))] []))
  refine Goes.step (fun _ k => XS.goto X11.here hx rfl (pc0 := 17) (pc' := 5) rfl (hb hby d7_17) (by decide) (by decide) k) ?_
  show Goes _ _ _ _ _ _ _ (T11.setTop (mkF m 5 #[.val (.ref x0), .val .null, .val (.int (3 : Int32)), .val (.int (4 : Int32))] []))
  refine Goes.step (fun _ k => XS.iloadN X11.here hx rfl (hb hby d7_5) rfl  k) ?_
  show Goes _ _ _ _ _ _ _ (T11.setTop (mkF m 6 #[.val (.ref x0), .val .null, .val (.int (3 : Int32)), .val (.int (4 : Int32))] [(.int (3 : Int32))]))
  refine Goes.step (fun _ k => XS.iloadN X11.here hx rfl (hb hby d7_6) rfl  k) ?_
  show Goes _ _ _ _ _ _ _ (T11.setTop (mkF m 7 #[.val (.ref x0), .val .null, .val (.int (3 : Int32)), .val (.int (4 : Int32))] [(.int (4 : Int32)), (.int (3 : Int32))]))
  refine Goes.step (fun _ k => XS.icmpNo X11.here hx rfl (hb hby d7_7) rfl (tlt (by decide : (3 : Int32) < (4 : Int32))).2.1 k) ?_
  show Goes _ _ _ _ _ _ _ (T11.setTop (mkF m 10 #[.val (.ref x0), .val .null, .val (.int (3 : Int32)), .val (.int (4 : Int32))] []))
  refine Goes.step (fun _ k => XS.aloadN X11.here hx rfl (hb hby d7_10) rfl rfl k) ?_
  show Goes _ _ _ _ _ _ _ (T11.setTop (mkF m 11 #[.val (.ref x0), .val .null, .val (.int (3 : Int32)), .val (.int (4 : Int32))] [(.ref x0)]))
  refine Goes.step (fun _ k => XS.iloadN X11.here hx rfl (hb hby d7_11) rfl  k) ?_
  show Goes _ _ _ _ _ _ _ (T11.setTop (mkF m 12 #[.val (.ref x0), .val .null, .val (.int (3 : Int32)), .val (.int (4 : Int32))] [(.int (3 : Int32)), (.ref x0)]))
  refine Goes.step (fun _ k => XS.aloadN X11.here hx rfl (hb hby d7_12) rfl rfl k) ?_
  show Goes _ _ _ _ _ _ _ (T11.setTop (mkF m 13 #[.val (.ref x0), .val .null, .val (.int (3 : Int32)), .val (.int (4 : Int32))] [.null, (.int (3 : Int32)), (.ref x0)]))
  obtain ⟨cl14, Ar14, q14, S14, H14⟩ := id f12
  have hin14 := own_arfin S14 (by decide : ¬ (3 : Int32) < 0) (by decide : ((3 : Int32)).toNatClampNeg < 4)
  obtain ⟨T15, h15, X15, e15, W15, st15⟩ := stR X11 hx hZ e11 Ar14 (j := (3 : Int32)) hin14 rfl (Or.inl rfl) (g := (mkF m 13 #[.val (.ref x0), .val .null, .val (.int (3 : Int32)), .val (.int (4 : Int32))] [.null, (.int (3 : Int32)), (.ref x0)])) rfl rfl (hb hby d7_13)
  refine Goes.step st15 ?_
  have V15 := ArF.set Ar14 q14 S14 H14 W15
  have f16 := V15
  have K17 : Keep h0 h15 [x0] := K13.wr W15 (Or.inl (List.mem_of_getElem? (i := 0) rfl))
  have Z17 : n0 ≤ h15.size := by rw [Wr.size W15]; exact Z13
  have N17 := Fr.snoc X15 N13 g_x0
  show Goes _ _ _ _ _ _ _ (T15.setTop (mkF m 14 #[.val (.ref x0), .val .null, .val (.int (3 : Int32)), .val (.int (4 : Int32))] []))
  refine Goes.step (fun _ k => XS.iinc X15.here hx rfl (hb hby d7_14) rfl (l' := #[.val (.ref x0), .val .null, .val (.int (4 : Int32)), .val (.int (4 : Int32))]) rfl k) ?_
  show Goes _ _ _ _ _ _ _ (T15.setTop (mkF m 17 #[.val (.ref x0), .val .null, .val (.int (4 : Int32)), .val (.int (4 : Int32))] []))
  refine Goes.step (fun _ k => XS.goto X15.here hx rfl (pc0 := 17) (pc' := 5) rfl (hb hby d7_17) (by decide) (by decide) k) ?_
  show Goes _ _ _ _ _ _ _ (T15.setTop (mkF m 5 #[.val (.ref x0), .val .null, .val (.int (4 : Int32)), .val (.int (4 : Int32))] []))
  refine Goes.step (fun _ k => XS.iloadN X15.here hx rfl (hb hby d7_5) rfl  k) ?_
  show Goes _ _ _ _ _ _ _ (T15.setTop (mkF m 6 #[.val (.ref x0), .val .null, .val (.int (4 : Int32)), .val (.int (4 : Int32))] [(.int (4 : Int32))]))
  refine Goes.step (fun _ k => XS.iloadN X15.here hx rfl (hb hby d7_6) rfl  k) ?_
  show Goes _ _ _ _ _ _ _ (T15.setTop (mkF m 7 #[.val (.ref x0), .val .null, .val (.int (4 : Int32)), .val (.int (4 : Int32))] [(.int (4 : Int32)), (.int (4 : Int32))]))
  refine Goes.step (fun _ k => XS.icmpYes X15.here hx rfl (pc0 := 7) (pc' := 20) rfl (hb hby d7_7) rfl (flt (by decide : ¬ ((4 : Int32) < (4 : Int32)))).2.1 (by decide) (by decide) k) ?_
  show Goes _ _ _ _ _ _ _ (T15.setTop (mkF m 20 #[.val (.ref x0), .val .null, .val (.int (4 : Int32)), .val (.int (4 : Int32))] []))
  exact Goes.retV X15 hx (BodyLoose.notSynchronized Bd) Bd.returns (hb hby d7_20) (by show Q7_4 Z x0 kx ff h0 n0 none T15.heap _; rw [e15]; exact ⟨N17, K17, rfl, f16.congr (fun j hj => by rcases (show j = 0 ∨ j = 1 ∨ j = 2 ∨ j = 3 by omega) with rfl | rfl | rfl | rfl <;> rfl)⟩) (by decide) (by decide)
theorem ef_5_f4 (m : MethodId) (x0 : Addr) (x1 : Int32) (x2 : Addr) (x3 : Addr) (ka : Addr) (ha : Addr) (va : Addr) (kk : ClassId) (kh : ClassId) (kw : ClassId) (t : Nat → Option Nat) (hf : Nat → Int32) (KA : Nat → Addr) (VA : Nat → Addr) (sh : Int32) (mo : Int32) (sz : Int32) (i0 : Nat) (kf : Nat) (q : Nat)  : entryFrame m #[(.ref x0), (.int x1), (.ref x2), (.ref x3)] 5 = mkF m 0 #[.val (.ref x0), .val (.int x1), .val (.ref x2), .val (.ref x3), .unset] [] := by first | (simp [entryFrame, mkF, argsToLocals, Value.category]; done) | rfl
def Q5_f4 (Z : State) (x0 : Addr) (x1 : Int32) (x2 : Addr) (x3 : Addr) (ka : Addr) (ha : Addr) (va : Addr) (kk : ClassId) (kh : ClassId) (kw : ClassId) (t : Nat → Option Nat) (hf : Nat → Int32) (KA : Nat → Addr) (VA : Nat → Addr) (sh : Int32) (mo : Int32) (sz : Int32) (i0 : Nat) (kf : Nat) (q : Nat) (h0 : Heap) (n0 : Nat) (v : Option Value) (h : Heap) (L : List Loc) : Prop := Fr n0 L ∧ Keep h0 h [x0, ka, ha, va] ∧ v = some (.ref x3) ∧ Exa Z h x0 "com/example/nehaba/nehaba/input/KeptValues" ∧ Fld Z h x0 "com/example/nehaba/nehaba/input/KeptValues" "keys" "[Ljava/lang/Object;" (.ref ka) ∧ Fld Z h x0 "com/example/nehaba/nehaba/input/KeptValues" "hashes" "[I" (.ref ha) ∧ Fld Z h x0 "com/example/nehaba/nehaba/input/KeptValues" "values" "[Ljava/lang/Object;" (.ref va) ∧ Fld Z h x0 "com/example/nehaba/nehaba/input/KeptValues" "most" "I" (.int mo) ∧ Fld Z h x0 "com/example/nehaba/nehaba/input/KeptValues" "size" "I" (.int (1 : Int32)) ∧ Fld Z h x0 "com/example/nehaba/nehaba/input/KeptValues" "shift" "I" (.int sh) ∧ ArF Z h ka kk (.object "java/lang/Object") 4 (fun j => rfv KA ((own_put own_t0 q i0) j)) ∧ ArF Z h ha kh .int 4 (fun j => .int (own_hp hf q x1 j)) ∧ ArF Z h va kw (.object "java/lang/Object") 4 (fun j => rfv VA ((own_put own_t0 q i0) j))
set_option maxRecDepth 65536 in
set_option maxHeartbeats 40000000 in
theorem rm5_f4 (l : Launch) (Z : State) (a0 : Array Value) (hw : ∀ d ∈ tables_1, d.before a0 Z = true) (ws : List Jvm.Cond) (x0 : Addr) (x1 : Int32) (x2 : Addr) (x3 : Addr) (ka : Addr) (ha : Addr) (va : Addr) (kk : ClassId) (kh : ClassId) (kw : ClassId) (t : Nat → Option Nat) (hf : Nat → Int32) (KA : Nat → Addr) (VA : Nat → Addr) (sh : Int32) (mo : Int32) (sz : Int32) (i0 : Nat) (kf : Nat) (q : Nat) (h0 : Heap) (n0 : Nat) (Z0 : n0 ≤ h0.size) (E0 : Exa Z h0 x0 "com/example/nehaba/nehaba/input/KeptValues") (Fk : Fld Z h0 x0 "com/example/nehaba/nehaba/input/KeptValues" "keys" "[Ljava/lang/Object;" (.ref ka)) (Fh : Fld Z h0 x0 "com/example/nehaba/nehaba/input/KeptValues" "hashes" "[I" (.ref ha)) (Fv : Fld Z h0 x0 "com/example/nehaba/nehaba/input/KeptValues" "values" "[Ljava/lang/Object;" (.ref va)) (Fm : Fld Z h0 x0 "com/example/nehaba/nehaba/input/KeptValues" "most" "I" (.int mo)) (Fz : Fld Z h0 x0 "com/example/nehaba/nehaba/input/KeptValues" "size" "I" (.int sz)) (Fs : Fld Z h0 x0 "com/example/nehaba/nehaba/input/KeptValues" "shift" "I" (.int sh)) (Ak : ArF Z h0 ka kk (.object "java/lang/Object") 4 (fun j => rfv KA (t j))) (Ah : ArF Z h0 ha kh .int 4 (fun j => .int (hf j))) (Av : ArF Z h0 va kw (.object "java/lang/Object") 4 (fun j => rfv VA (t j))) (Ok : Ovr Z kk "java/lang/Object") (Ow : Ovr Z kw "java/lang/Object") (I2 : Ins Z h0 x2 "java/lang/Object" true) (I3 : Ins Z h0 x3 "java/lang/Object" true) (hka : KA i0 = x2) (hva : VA i0 = x3) (g_x0 : n0 ≤ x0) (g_ka : n0 ≤ ka) (g_ha : n0 ≤ ha) (g_va : n0 ≤ va) (ne_ka_x0 : ka ≠ x0) (ne_ha_x0 : ha ≠ x0) (ne_ha_ka : ha ≠ ka) (ne_va_x0 : va ≠ x0) (ne_va_ka : va ≠ ka) (ne_va_ha : va ≠ ha) (hfull : sz = mo) (hS : (4 = 2 ∧ sh = 31) ∨ (4 = 4 ∧ sh = 30) ∨ (4 = 8 ∧ sh = 29)) (hq : (own_f x1 sh).toNatClampNeg = q) :
    MetFree l (⟨"com/example/nehaba/nehaba/input/KeptValues", "put", "(ILjava/lang/Object;Ljava/lang/Object;)Ljava/lang/Object;"⟩ : MethodName) (head1 (Jvm.Cond.code (⟨"com/example/nehaba/nehaba/input/KeptValues", "put", "(ILjava/lang/Object;Ljava/lang/Object;)Ljava/lang/Object;"⟩ : MethodName) prog_31_method_7_code 5 (some (.object "java/lang/Object")) :: ws) ({ frames := 1, cells := 0, slots := 0, locals := 15 } : Room)) (fun a U => a = #[(.ref x0), (.int x1), (.ref x2), (.ref x3)] ∧ Z.Warmed39 U.vm ∧ U.heap = h0) (fun _ _ _ _ _ => True) (fun _ U o U' => ∃ v L, o = .returned v ∧ Q5_f4 Z x0 x1 x2 x3 ka ha va kk kh kw t hf KA VA sh mo sz i0 kf q h0 n0 v U'.heap L ∧ FrameEnd U o U' L ({ frames := 1, cells := 0, slots := 0, locals := 15 } : Room).cells ({ frames := 1, cells := 0, slots := 0, locals := 15 } : Room).slots) := by
  refine MetFree.of_bodySF (plainFor_of_name pn_5) hisR ?_
  intro p e s m args below meth c s₁ Bd hml0 hP hK
  obtain ⟨rfl, hZ, hh⟩ := hP
  have hx := Bd.exec
  have hby := Bd.bytes
  have hml : c.maxLocals = 5 := hml0
  have hown : s.vm.findClass "com/example/nehaba/nehaba/input/KeptValues" = some m.cls := findClass_of_methodNamed Bd.named
  have hnm := (name_of_methodNamed Bd.named Bd.method).1
  have X0 : Stand p l e ({ frames := 1, cells := 0, slots := 0, locals := 15 } : Room) s m #[(.ref x0), (.int x1), (.ref x2), (.ref x3)] below meth c s₁ [] 0 0 := Stand.of_body Bd
  have e0 : s₁.heap = h0 := by rw [← hh, Bd.state]; rfl
  have N0 := Fr.nil n0
  have K0 : Keep h0 h0 [x0, ka, ha, va] := Keep.refl h0 _
  refine (?_ : Goes p e below s ({ frames := 1, cells := 0, slots := 0, locals := 15 } : Room).cells ({ frames := 1, cells := 0, slots := 0, locals := 15 } : Room).slots (fun v h L => Q5_f4 Z x0 x1 x2 x3 ka ha va kk kh kw t hf KA VA sh mo sz i0 kf q h0 n0 v h L) (s₁.setTop (entryFrame m #[(.ref x0), (.int x1), (.ref x2), (.ref x3)] 5)))
  rw [ef_5_f4 m x0 x1 x2 x3 ka ha va kk kh kw t hf KA VA sh mo sz i0 kf q ]
  show Goes _ _ _ _ _ _ _ (s₁.setTop (mkF m 0 #[.val (.ref x0), .val (.int x1), .val (.ref x2), .val (.ref x3), .unset] []))
  refine Goes.step (fun _ k => XS.aloadN X0.here hx rfl (hb hby d5_0) rfl rfl k) ?_
  show Goes _ _ _ _ _ _ _ (s₁.setTop (mkF m 1 #[.val (.ref x0), .val (.int x1), .val (.ref x2), .val (.ref x3), .unset] [(.ref x0)]))
  obtain ⟨T1, X1, e1, st1⟩ := getF X0 hx hZ hown (host := "") (Or.inl (hw _ (List.mem_of_getElem? (i := 38) rfl))) Via.refl e0 Fz (g := (mkF m 1 #[.val (.ref x0), .val (.int x1), .val (.ref x2), .val (.ref x3), .unset] [(.ref x0)])) rfl rfl (hb hby d5_1)
  refine Goes.step st1 ?_
  show Goes _ _ _ _ _ _ _ (T1.setTop (mkF m 4 #[.val (.ref x0), .val (.int x1), .val (.ref x2), .val (.ref x3), .unset] [(.int sz)]))
  refine Goes.step (fun _ k => XS.aloadN X1.here hx rfl (hb hby d5_4) rfl rfl k) ?_
  show Goes _ _ _ _ _ _ _ (T1.setTop (mkF m 5 #[.val (.ref x0), .val (.int x1), .val (.ref x2), .val (.ref x3), .unset] [(.ref x0), (.int sz)]))
  obtain ⟨T2, X2, e2, st2⟩ := getF X1 hx hZ hown (host := "") (Or.inl (hw _ (List.mem_of_getElem? (i := 11) rfl))) Via.refl e1 Fm (g := (mkF m 5 #[.val (.ref x0), .val (.int x1), .val (.ref x2), .val (.ref x3), .unset] [(.ref x0), (.int sz)])) rfl rfl (hb hby d5_5)
  refine Goes.step st2 ?_
  show Goes _ _ _ _ _ _ _ (T2.setTop (mkF m 8 #[.val (.ref x0), .val (.int x1), .val (.ref x2), .val (.ref x3), .unset] [(.int mo), (.int sz)]))
  refine Goes.step (fun _ k => XS.icmpNo X2.here hx rfl (hb hby d5_8) rfl (teq hfull).2 k) ?_
  show Goes _ _ _ _ _ _ _ (T2.setTop (mkF m 11 #[.val (.ref x0), .val (.int x1), .val (.ref x2), .val (.ref x3), .unset] []))
  refine Goes.step (fun _ k => XS.aloadN X2.here hx rfl (hb hby d5_11) rfl rfl k) ?_
  show Goes _ _ _ _ _ _ _ (T2.setTop (mkF m 12 #[.val (.ref x0), .val (.int x1), .val (.ref x2), .val (.ref x3), .unset] [(.ref x0)]))
  obtain ⟨T3, X3, e3, st3⟩ := getF X2 hx hZ hown (host := "") (Or.inl (hw _ (List.mem_of_getElem? (i := 24) rfl))) Via.refl e2 Fk (g := (mkF m 12 #[.val (.ref x0), .val (.int x1), .val (.ref x2), .val (.ref x3), .unset] [(.ref x0)])) rfl rfl (hb hby d5_12)
  refine Goes.step st3 ?_
  show Goes _ _ _ _ _ _ _ (T3.setTop (mkF m 15 #[.val (.ref x0), .val (.int x1), .val (.ref x2), .val (.ref x3), .unset] [(.ref ka)]))
  refine Goes.step (fun _ k => XS.aconstNull X3.here hx rfl (hb hby d5_15) k) ?_
  show Goes _ _ _ _ _ _ _ (T3.setTop (mkF m 16 #[.val (.ref x0), .val (.int x1), .val (.ref x2), .val (.ref x3), .unset] [.null, (.ref ka)]))
  obtain ⟨_, _, ⟨T4, L4, k4, n4⟩, -, X4, ⟨Lc4, hQ4, l4, y4, z4⟩, st4⟩ := Jvm.LawKit.callS X3 hx (y := (⟨"java/util/Arrays", "fill", "([Ljava/lang/Object;Ljava/lang/Object;)V"⟩ : MethodName)) hown (mvT hZ (hw _ (List.mem_of_getElem? (i := 46) rfl))) (mvT hZ (hw _ (List.mem_of_getElem? (i := 47) rfl))) (mvT hZ (hw _ (List.mem_of_getElem? (i := 48) rfl))) (mvT hZ (hw _ (List.mem_of_getElem? (i := 49) rfl))) (by decide) (backOf (W := 0) (rm7_4 l Z a0 hw [] ka kk (fun j => rfv KA (t j)) h0 n0 Z0 Ak g_ka) hZ (hw _ (List.mem_of_getElem? (i := 49) rfl)) (hw _ (List.mem_of_getElem? (i := 48) rfl)) (by decide) (by decide)) (g := (mkF m 16 #[.val (.ref x0), .val (.int x1), .val (.ref x2), .val (.ref x3), .unset] [.null, (.ref ka)])) rfl (by rw [hml]; rfl) (argsL := [(.ref ka), .null]) (rest := []) (lenOf pd_4 rfl) rfl (by show 2 * 0 + _ ≤ _; exact Nat.le_of_eq rfl) (hb hby d5_16) (fun _ _ => ⟨rfl, e3, (by decide : 0 + 0 ≤ _), (by decide : 0 + 0 ≤ _)⟩)
  dsimp only [Pt.U, Pt.locs, Pt.cells, Pt.slots] at X4 l4 y4 z4 st4 hQ4
  subst l4 y4 z4
  obtain ⟨N4, KK4, rfl, V4⟩ := hQ4
  have NA4 := Fr.app N0 N4
  have f5 := E0.keep KK4
  have f6 := Fk.keep KK4 (ninS (Ne.symm ne_ka_x0) nin0)
  have f7 := Fh.keep KK4 (ninS (Ne.symm ne_ka_x0) nin0)
  have f8 := Fv.keep KK4 (ninS (Ne.symm ne_ka_x0) nin0)
  have f9 := Fm.keep KK4 (ninS (Ne.symm ne_ka_x0) nin0)
  have f10 := Fz.keep KK4 (ninS (Ne.symm ne_ka_x0) nin0)
  have f11 := Fs.keep KK4 (ninS (Ne.symm ne_ka_x0) nin0)
  have f13 := Ah.keep KK4 (ninS ne_ha_ka nin0)
  have f14 := Av.keep KK4 (ninS ne_va_ka nin0)
  have f15 := own_insKeep I2 KK4
  have f16 := own_insKeep I3 KK4
  have K17 : Keep h0 T4.heap [x0, ka, ha, va] := K0.trans KK4 (allS (Or.inl (List.mem_of_getElem? (i := 1) rfl)) all0)
  have Z17 : n0 ≤ T4.heap.size := Nat.le_trans Z0 KK4.1
  refine Goes.step st4 ?_
  show Goes _ _ _ _ _ _ _ (T4.setTop (mkF m 19 #[.val (.ref x0), .val (.int x1), .val (.ref x2), .val (.ref x3), .unset] []))
  refine Goes.step (fun _ k => XS.aloadN X4.here hx rfl (hb hby d5_19) rfl rfl k) ?_
  show Goes _ _ _ _ _ _ _ (T4.setTop (mkF m 20 #[.val (.ref x0), .val (.int x1), .val (.ref x2), .val (.ref x3), .unset] [(.ref x0)]))
  obtain ⟨T18, X18, e18, st18⟩ := getF X4 hx hZ hown (host := "") (Or.inl (hw _ (List.mem_of_getElem? (i := 28) rfl))) Via.refl rfl f8 (g := (mkF m 20 #[.val (.ref x0), .val (.int x1), .val (.ref x2), .val (.ref x3), .unset] [(.ref x0)])) rfl rfl (hb hby d5_20)
  refine Goes.step st18 ?_
  show Goes _ _ _ _ _ _ _ (T18.setTop (mkF m 23 #[.val (.ref x0), .val (.int x1), .val (.ref x2), .val (.ref x3), .unset] [(.ref va)]))
  refine Goes.step (fun _ k => XS.aconstNull X18.here hx rfl (hb hby d5_23) k) ?_
  show Goes _ _ _ _ _ _ _ (T18.setTop (mkF m 24 #[.val (.ref x0), .val (.int x1), .val (.ref x2), .val (.ref x3), .unset] [.null, (.ref va)]))
  obtain ⟨_, _, ⟨T19, L19, k19, n19⟩, -, X19, ⟨Lc19, hQ19, l19, y19, z19⟩, st19⟩ := Jvm.LawKit.callS X18 hx (y := (⟨"java/util/Arrays", "fill", "([Ljava/lang/Object;Ljava/lang/Object;)V"⟩ : MethodName)) hown (mvT hZ (hw _ (List.mem_of_getElem? (i := 46) rfl))) (mvT hZ (hw _ (List.mem_of_getElem? (i := 47) rfl))) (mvT hZ (hw _ (List.mem_of_getElem? (i := 48) rfl))) (mvT hZ (hw _ (List.mem_of_getElem? (i := 49) rfl))) (by decide) (backOf (W := 0) (rm7_4 l Z a0 hw [] va kw (fun j => rfv VA (t j)) T4.heap n0 Z17 f14 g_va) hZ (hw _ (List.mem_of_getElem? (i := 49) rfl)) (hw _ (List.mem_of_getElem? (i := 48) rfl)) (by decide) (by decide)) (g := (mkF m 24 #[.val (.ref x0), .val (.int x1), .val (.ref x2), .val (.ref x3), .unset] [.null, (.ref va)])) rfl (by rw [hml]; rfl) (argsL := [(.ref va), .null]) (rest := []) (lenOf pd_4 rfl) rfl (by show 2 * 0 + _ ≤ _; exact Nat.le_of_eq rfl) (hb hby d5_24) (fun _ _ => ⟨rfl, e18, (by decide : 0 + 0 ≤ _), (by decide : 0 + 0 ≤ _)⟩)
  dsimp only [Pt.U, Pt.locs, Pt.cells, Pt.slots] at X19 l19 y19 z19 st19 hQ19
  subst l19 y19 z19
  obtain ⟨N19, KK19, rfl, V19⟩ := hQ19
  have NA19 := Fr.app NA4 N19
  have f20 := f5.keep KK19
  have f21 := f6.keep KK19 (ninS (Ne.symm ne_va_x0) nin0)
  have f22 := f7.keep KK19 (ninS (Ne.symm ne_va_x0) nin0)
  have f23 := f8.keep KK19 (ninS (Ne.symm ne_va_x0) nin0)
  have f24 := f9.keep KK19 (ninS (Ne.symm ne_va_x0) nin0)
  have f25 := f10.keep KK19 (ninS (Ne.symm ne_va_x0) nin0)
  have f26 := f11.keep KK19 (ninS (Ne.symm ne_va_x0) nin0)
  have f27 := f13.keep KK19 (ninS (Ne.symm ne_va_ha) nin0)
  have f29 := own_insKeep f15 KK19
  have f30 := own_insKeep f16 KK19
  have f31 := V4.keep KK19 (ninS (Ne.symm ne_va_ka) nin0)
  have K32 : Keep h0 T19.heap [x0, ka, ha, va] := K17.trans KK19 (allS (Or.inl (List.mem_of_getElem? (i := 3) rfl)) all0)
  have Z32 : n0 ≤ T19.heap.size := Nat.le_trans Z17 KK19.1
  refine Goes.step st19 ?_
  show Goes _ _ _ _ _ _ _ (T19.setTop (mkF m 27 #[.val (.ref x0), .val (.int x1), .val (.ref x2), .val (.ref x3), .unset] []))
  refine Goes.step (fun _ k => XS.aloadN X19.here hx rfl (hb hby d5_27) rfl rfl k) ?_
  show Goes _ _ _ _ _ _ _ (T19.setTop (mkF m 28 #[.val (.ref x0), .val (.int x1), .val (.ref x2), .val (.ref x3), .unset] [(.ref x0)]))
  refine Goes.step (fun _ k => XS.iconst X19.here hx rfl (hb hby d5_28) k) ?_
  show Goes _ _ _ _ _ _ _ (T19.setTop (mkF m 29 #[.val (.ref x0), .val (.int x1), .val (.ref x2), .val (.ref x3), .unset] [(.int (0 : Int32)), (.ref x0)]))
  obtain ⟨T33, h33, X33, e33, W33, st33⟩ := putF X19 hx hZ hown (host := "") (Or.inl (hw _ (List.mem_of_getElem? (i := 38) rfl))) Via.refl rfl f25 f20 (Or.inl (hw _ (List.mem_of_getElem? (i := 39) rfl))) (hw _ (List.mem_of_getElem? (i := 2) rfl)) (ty := .int) (by decide) rfl rfl (g := (mkF m 29 #[.val (.ref x0), .val (.int x1), .val (.ref x2), .val (.ref x3), .unset] [(.int (0 : Int32)), (.ref x0)])) rfl rfl (hb hby d5_29)
  refine Goes.step st33 ?_
  have f34 := f20.wr W33
  have f35 := f21.other W33 (Or.inr (slot_ne (Or.inr (hw _ (List.mem_of_getElem? (i := 25) rfl))) (Or.inl (hw _ (List.mem_of_getElem? (i := 39) rfl))) (by decide) (t := (.array (.object "java/lang/Object"))) (t' := .int) (by decide) (by decide)))
  have f36 := f22.other W33 (Or.inr (slot_ne (Or.inr (hw _ (List.mem_of_getElem? (i := 27) rfl))) (Or.inl (hw _ (List.mem_of_getElem? (i := 39) rfl))) (by decide) (t := (.array .int)) (t' := .int) (by decide) (by decide)))
  have f37 := f23.other W33 (Or.inr (slot_ne (Or.inr (hw _ (List.mem_of_getElem? (i := 29) rfl))) (Or.inl (hw _ (List.mem_of_getElem? (i := 39) rfl))) (by decide) (t := (.array (.object "java/lang/Object"))) (t' := .int) (by decide) (by decide)))
  have f38 := f24.other W33 (Or.inr (slot_ne (Or.inr (hw _ (List.mem_of_getElem? (i := 12) rfl))) (Or.inl (hw _ (List.mem_of_getElem? (i := 39) rfl))) (by decide) (t := .int) (t' := .int) (by decide) (by decide)))
  have f39 := f25.same W33
  have f40 := f26.other W33 (Or.inr (slot_ne (Or.inr (hw _ (List.mem_of_getElem? (i := 32) rfl))) (Or.inl (hw _ (List.mem_of_getElem? (i := 39) rfl))) (by decide) (t := .int) (t' := .int) (by decide) (by decide)))
  have f41 := f27.other W33 ne_ha_x0
  have f42 := f29.wr W33
  have f43 := f30.wr W33
  have f44 := f31.other W33 ne_ka_x0
  have f45 := V19.other W33 ne_va_x0
  have K46 : Keep h0 h33 [x0, ka, ha, va] := K32.wr W33 (Or.inl (List.mem_of_getElem? (i := 0) rfl))
  have Z46 : n0 ≤ h33.size := by rw [Wr.size W33]; exact Z32
  have N46 := Fr.snoc X33 NA19 g_x0
  show Goes _ _ _ _ _ _ _ (T33.setTop (mkF m 32 #[.val (.ref x0), .val (.int x1), .val (.ref x2), .val (.ref x3), .unset] []))
  refine Goes.step (fun _ k => XS.aloadN X33.here hx rfl (hb hby d5_32) rfl rfl k) ?_
  show Goes _ _ _ _ _ _ _ (T33.setTop (mkF m 33 #[.val (.ref x0), .val (.int x1), .val (.ref x2), .val (.ref x3), .unset] [(.ref x0)]))
  refine Goes.step (fun _ k => XS.iloadN X33.here hx rfl (hb hby d5_33) rfl  k) ?_
  show Goes _ _ _ _ _ _ _ (T33.setTop (mkF m 34 #[.val (.ref x0), .val (.int x1), .val (.ref x2), .val (.ref x3), .unset] [(.int x1), (.ref x0)]))
  obtain ⟨cq47, q47, q47'⟩ := f34.cell
  obtain ⟨_, _, ⟨T47, L47, k47, n47⟩, -, X47, ⟨Lc47, hQ47, l47, y47, z47⟩, st47⟩ := X33.privateBack hx (y := (⟨"com/example/nehaba/nehaba/input/KeptValues", "first", "(I)I"⟩ : MethodName)) hown (mvT hZ (hw _ (List.mem_of_getElem? (i := 40) rfl))) (mvT hZ (hw _ (List.mem_of_getElem? (i := 41) rfl))) (own_selPriv (mvT hZ (hw _ (List.mem_of_getElem? (i := 36) rfl))) rfl (mvP hZ (hw _ (List.mem_of_getElem? (i := 42) rfl))) (mvT hZ (hw _ (List.mem_of_getElem? (i := 41) rfl))) (by decide)) (Cond.privateMethod_at (mvP hZ (hw _ (List.mem_of_getElem? (i := 42) rfl)) (args := #[]))) (mvT hZ (hw _ (List.mem_of_getElem? (i := 43) rfl))) (by decide) (backOf (W := 0) (rm6 l Z a0 hw [] x0 x1 ka ha va kk kh kw 4 own_t0 hf KA VA sh mo (0 : Int32) h33 n0 Z46 f34 f35 f36 f37 f38 f39 f40 f44 f41 f45) hZ (hw _ (List.mem_of_getElem? (i := 43) rfl)) (hw _ (List.mem_of_getElem? (i := 3) rfl)) (by decide) (by decide)) (g := (mkF m 34 #[.val (.ref x0), .val (.int x1), .val (.ref x2), .val (.ref x3), .unset] [(.int x1), (.ref x0)])) rfl (by rw [hml]; rfl) (Steps.refl _) (a := x0) (by rw [e33]; exact q47) q47' (argsL := [(.int x1)]) (rest := []) (lenOf pd_2 rfl) rfl (by show 2 * 0 + _ ≤ _; exact Nat.le_of_eq rfl) (hb hby d5_34) (fun _ _ => ⟨rfl, e33, (by decide : 0 + 0 ≤ _), (by decide : 0 + 0 ≤ _)⟩)
  dsimp only [Pt.U, Pt.locs, Pt.cells, Pt.slots] at X47 l47 y47 z47 st47 hQ47
  subst l47 y47 z47
  obtain ⟨N47, eh47, hv47⟩ := hQ47
  have NA47 := Fr.app N46 N47
  subst hv47
  refine Goes.back st47 ?_
  show Goes _ _ _ _ _ _ _ (T47.setTop (mkF m 37 #[.val (.ref x0), .val (.int x1), .val (.ref x2), .val (.ref x3), .unset] [(.int (own_f x1 sh))]))
  refine Goes.step (fun _ k => XS.istore X47.here hx rfl (hb hby d5_37) rfl (l' := #[.val (.ref x0), .val (.int x1), .val (.ref x2), .val (.ref x3), .val (.int (own_f x1 sh))]) rfl k) ?_
  show Goes _ _ _ _ _ _ _ (T47.setTop (mkF m 39 #[.val (.ref x0), .val (.int x1), .val (.ref x2), .val (.ref x3), .val (.int (own_f x1 sh))] []))
  refine Goes.step (fun _ k => XS.aloadN X47.here hx rfl (hb hby d5_39) rfl rfl k) ?_
  show Goes _ _ _ _ _ _ _ (T47.setTop (mkF m 40 #[.val (.ref x0), .val (.int x1), .val (.ref x2), .val (.ref x3), .val (.int (own_f x1 sh))] [(.ref x0)]))
  obtain ⟨T48, X48, e48, st48⟩ := getF X47 hx hZ hown (host := "") (Or.inl (hw _ (List.mem_of_getElem? (i := 24) rfl))) Via.refl eh47 f35 (g := (mkF m 40 #[.val (.ref x0), .val (.int x1), .val (.ref x2), .val (.ref x3), .val (.int (own_f x1 sh))] [(.ref x0)])) rfl rfl (hb hby d5_40)
  refine Goes.step st48 ?_
  show Goes _ _ _ _ _ _ _ (T48.setTop (mkF m 43 #[.val (.ref x0), .val (.int x1), .val (.ref x2), .val (.ref x3), .val (.int (own_f x1 sh))] [(.ref ka)]))
  refine Goes.step (fun _ k => XS.iload X48.here hx rfl (hb hby d5_43) rfl  k) ?_
  show Goes _ _ _ _ _ _ _ (T48.setTop (mkF m 45 #[.val (.ref x0), .val (.int x1), .val (.ref x2), .val (.ref x3), .val (.int (own_f x1 sh))] [(.int (own_f x1 sh)), (.ref ka)]))
  obtain ⟨cl49, Ar49, q49, S49, H49⟩ := id f44
  have hin49 := own_arfin S49 (own_first x1 hS).1 (own_first x1 hS).2
  have hat49 : cl49.slots[((own_f x1 sh)).toNatClampNeg]? = some .null := H49 _ (own_first x1 hS).2
  refine Goes.step (fun _ k => X48.aaload hx (j := (own_f x1 sh)) (v := .null) (by rw [e48]; exact Ar49.1) (State.isArrayOf_alike hZ.alike Ar49.2.1) rfl Ar49.2.2 hin49 hat49 (g := (mkF m 45 #[.val (.ref x0), .val (.int x1), .val (.ref x2), .val (.ref x3), .val (.int (own_f x1 sh))] [(.int (own_f x1 sh)), (.ref ka)])) rfl rfl (hb hby d5_45) _ k) ?_
  show Goes _ _ _ _ _ _ _ (T48.setTop (mkF m 46 #[.val (.ref x0), .val (.int x1), .val (.ref x2), .val (.ref x3), .val (.int (own_f x1 sh))] [.null]))
  refine Goes.step (fun _ k => XS.ifnullYes X48.here hx rfl (pc0 := 46) (pc' := 60) rfl (hb hby d5_46) rfl (by decide) (by decide) k) ?_
  show Goes _ _ _ _ _ _ _ (T48.setTop (mkF m 60 #[.val (.ref x0), .val (.int x1), .val (.ref x2), .val (.ref x3), .val (.int (own_f x1 sh))] []))
  refine Goes.step (fun _ k => XS.aloadN X48.here hx rfl (hb hby d5_60) rfl rfl k) ?_
  show Goes _ _ _ _ _ _ _ (T48.setTop (mkF m 61 #[.val (.ref x0), .val (.int x1), .val (.ref x2), .val (.ref x3), .val (.int (own_f x1 sh))] [(.ref x0)]))
  obtain ⟨T50, X50, e50, st50⟩ := getF X48 hx hZ hown (host := "") (Or.inl (hw _ (List.mem_of_getElem? (i := 24) rfl))) Via.refl e48 f35 (g := (mkF m 61 #[.val (.ref x0), .val (.int x1), .val (.ref x2), .val (.ref x3), .val (.int (own_f x1 sh))] [(.ref x0)])) rfl rfl (hb hby d5_61)
  refine Goes.step st50 ?_
  show Goes _ _ _ _ _ _ _ (T50.setTop (mkF m 64 #[.val (.ref x0), .val (.int x1), .val (.ref x2), .val (.ref x3), .val (.int (own_f x1 sh))] [(.ref ka)]))
  refine Goes.step (fun _ k => XS.iload X50.here hx rfl (hb hby d5_64) rfl  k) ?_
  show Goes _ _ _ _ _ _ _ (T50.setTop (mkF m 66 #[.val (.ref x0), .val (.int x1), .val (.ref x2), .val (.ref x3), .val (.int (own_f x1 sh))] [(.int (own_f x1 sh)), (.ref ka)]))
  refine Goes.step (fun _ k => XS.aloadN X50.here hx rfl (hb hby d5_66) rfl rfl k) ?_
  show Goes _ _ _ _ _ _ _ (T50.setTop (mkF m 67 #[.val (.ref x0), .val (.int x1), .val (.ref x2), .val (.ref x3), .val (.int (own_f x1 sh))] [(.ref x2), (.int (own_f x1 sh)), (.ref ka)]))
  obtain ⟨cl51, Ar51, q51, S51, H51⟩ := id f44
  have hin51 := own_arfin S51 (own_first x1 hS).1 (own_first x1 hS).2
  obtain ⟨T52, h52, X52, e52, W52, st52⟩ := stR X50 hx hZ e50 Ar51 (j := (own_f x1 sh)) hin51 rfl (Sto.ofV Ar51 q51 Ok f42) (g := (mkF m 67 #[.val (.ref x0), .val (.int x1), .val (.ref x2), .val (.ref x3), .val (.int (own_f x1 sh))] [(.ref x2), (.int (own_f x1 sh)), (.ref ka)])) rfl rfl (hb hby d5_67)
  refine Goes.step st52 ?_
  have V52 := ArF.set Ar51 q51 S51 H51 W52
  have f53 := f34.wr W52
  have f54 := f35.other W52 (Or.inl (Ne.symm ne_ka_x0))
  have f55 := f36.other W52 (Or.inl (Ne.symm ne_ka_x0))
  have f56 := f37.other W52 (Or.inl (Ne.symm ne_ka_x0))
  have f57 := f38.other W52 (Or.inl (Ne.symm ne_ka_x0))
  have f58 := f39.other W52 (Or.inl (Ne.symm ne_ka_x0))
  have f59 := f40.other W52 (Or.inl (Ne.symm ne_ka_x0))
  have f60 := f41.other W52 ne_ha_ka
  have f61 := f42.wr W52
  have f62 := f43.wr W52
  have f63 := V52
  have f64 := f45.other W52 ne_va_ka
  have K65 : Keep h0 h52 [x0, ka, ha, va] := K46.wr W52 (Or.inl (List.mem_of_getElem? (i := 1) rfl))
  have Z65 : n0 ≤ h52.size := by rw [Wr.size W52]; exact Z46
  have N65 := Fr.snoc X52 NA47 g_ka
  show Goes _ _ _ _ _ _ _ (T52.setTop (mkF m 68 #[.val (.ref x0), .val (.int x1), .val (.ref x2), .val (.ref x3), .val (.int (own_f x1 sh))] []))
  refine Goes.step (fun _ k => XS.aloadN X52.here hx rfl (hb hby d5_68) rfl rfl k) ?_
  show Goes _ _ _ _ _ _ _ (T52.setTop (mkF m 69 #[.val (.ref x0), .val (.int x1), .val (.ref x2), .val (.ref x3), .val (.int (own_f x1 sh))] [(.ref x0)]))
  obtain ⟨T66, X66, e66, st66⟩ := getF X52 hx hZ hown (host := "") (Or.inl (hw _ (List.mem_of_getElem? (i := 26) rfl))) Via.refl e52 f55 (g := (mkF m 69 #[.val (.ref x0), .val (.int x1), .val (.ref x2), .val (.ref x3), .val (.int (own_f x1 sh))] [(.ref x0)])) rfl rfl (hb hby d5_69)
  refine Goes.step st66 ?_
  show Goes _ _ _ _ _ _ _ (T66.setTop (mkF m 72 #[.val (.ref x0), .val (.int x1), .val (.ref x2), .val (.ref x3), .val (.int (own_f x1 sh))] [(.ref ha)]))
  refine Goes.step (fun _ k => XS.iload X66.here hx rfl (hb hby d5_72) rfl  k) ?_
  show Goes _ _ _ _ _ _ _ (T66.setTop (mkF m 74 #[.val (.ref x0), .val (.int x1), .val (.ref x2), .val (.ref x3), .val (.int (own_f x1 sh))] [(.int (own_f x1 sh)), (.ref ha)]))
  refine Goes.step (fun _ k => XS.iloadN X66.here hx rfl (hb hby d5_74) rfl  k) ?_
  show Goes _ _ _ _ _ _ _ (T66.setTop (mkF m 75 #[.val (.ref x0), .val (.int x1), .val (.ref x2), .val (.ref x3), .val (.int (own_f x1 sh))] [(.int x1), (.int (own_f x1 sh)), (.ref ha)]))
  obtain ⟨cl67, Ar67, q67, S67, H67⟩ := id f60
  have hin67 := own_arfin S67 (own_first x1 hS).1 (own_first x1 hS).2
  obtain ⟨T68, h68, X68, e68, W68, st68⟩ := stI X66 hx hZ e66 Ar67 (j := (own_f x1 sh)) hin67 (g := (mkF m 75 #[.val (.ref x0), .val (.int x1), .val (.ref x2), .val (.ref x3), .val (.int (own_f x1 sh))] [(.int x1), (.int (own_f x1 sh)), (.ref ha)])) rfl rfl (hb hby d5_75)
  refine Goes.step st68 ?_
  have V68 := ArF.set Ar67 q67 S67 H67 W68
  have f69 := f53.wr W68
  have f70 := f54.other W68 (Or.inl (Ne.symm ne_ha_x0))
  have f71 := f55.other W68 (Or.inl (Ne.symm ne_ha_x0))
  have f72 := f56.other W68 (Or.inl (Ne.symm ne_ha_x0))
  have f73 := f57.other W68 (Or.inl (Ne.symm ne_ha_x0))
  have f74 := f58.other W68 (Or.inl (Ne.symm ne_ha_x0))
  have f75 := f59.other W68 (Or.inl (Ne.symm ne_ha_x0))
  have f76 := V68
  have f77 := f61.wr W68
  have f78 := f62.wr W68
  have f79 := f63.other W68 (Ne.symm ne_ha_ka)
  have f80 := f64.other W68 ne_va_ha
  have K81 : Keep h0 h68 [x0, ka, ha, va] := K65.wr W68 (Or.inl (List.mem_of_getElem? (i := 2) rfl))
  have Z81 : n0 ≤ h68.size := by rw [Wr.size W68]; exact Z65
  have N81 := Fr.snoc X68 N65 g_ha
  show Goes _ _ _ _ _ _ _ (T68.setTop (mkF m 76 #[.val (.ref x0), .val (.int x1), .val (.ref x2), .val (.ref x3), .val (.int (own_f x1 sh))] []))
  refine Goes.step (fun _ k => XS.aloadN X68.here hx rfl (hb hby d5_76) rfl rfl k) ?_
  show Goes _ _ _ _ _ _ _ (T68.setTop (mkF m 77 #[.val (.ref x0), .val (.int x1), .val (.ref x2), .val (.ref x3), .val (.int (own_f x1 sh))] [(.ref x0)]))
  obtain ⟨T82, X82, e82, st82⟩ := getF X68 hx hZ hown (host := "") (Or.inl (hw _ (List.mem_of_getElem? (i := 28) rfl))) Via.refl e68 f72 (g := (mkF m 77 #[.val (.ref x0), .val (.int x1), .val (.ref x2), .val (.ref x3), .val (.int (own_f x1 sh))] [(.ref x0)])) rfl rfl (hb hby d5_77)
  refine Goes.step st82 ?_
  show Goes _ _ _ _ _ _ _ (T82.setTop (mkF m 80 #[.val (.ref x0), .val (.int x1), .val (.ref x2), .val (.ref x3), .val (.int (own_f x1 sh))] [(.ref va)]))
  refine Goes.step (fun _ k => XS.iload X82.here hx rfl (hb hby d5_80) rfl  k) ?_
  show Goes _ _ _ _ _ _ _ (T82.setTop (mkF m 82 #[.val (.ref x0), .val (.int x1), .val (.ref x2), .val (.ref x3), .val (.int (own_f x1 sh))] [(.int (own_f x1 sh)), (.ref va)]))
  refine Goes.step (fun _ k => XS.aloadN X82.here hx rfl (hb hby d5_82) rfl rfl k) ?_
  show Goes _ _ _ _ _ _ _ (T82.setTop (mkF m 83 #[.val (.ref x0), .val (.int x1), .val (.ref x2), .val (.ref x3), .val (.int (own_f x1 sh))] [(.ref x3), (.int (own_f x1 sh)), (.ref va)]))
  obtain ⟨cl83, Ar83, q83, S83, H83⟩ := id f80
  have hin83 := own_arfin S83 (own_first x1 hS).1 (own_first x1 hS).2
  obtain ⟨T84, h84, X84, e84, W84, st84⟩ := stR X82 hx hZ e82 Ar83 (j := (own_f x1 sh)) hin83 rfl (Sto.ofV Ar83 q83 Ow f78) (g := (mkF m 83 #[.val (.ref x0), .val (.int x1), .val (.ref x2), .val (.ref x3), .val (.int (own_f x1 sh))] [(.ref x3), (.int (own_f x1 sh)), (.ref va)])) rfl rfl (hb hby d5_83)
  refine Goes.step st84 ?_
  have V84 := ArF.set Ar83 q83 S83 H83 W84
  have f85 := f69.wr W84
  have f86 := f70.other W84 (Or.inl (Ne.symm ne_va_x0))
  have f87 := f71.other W84 (Or.inl (Ne.symm ne_va_x0))
  have f88 := f72.other W84 (Or.inl (Ne.symm ne_va_x0))
  have f89 := f73.other W84 (Or.inl (Ne.symm ne_va_x0))
  have f90 := f74.other W84 (Or.inl (Ne.symm ne_va_x0))
  have f91 := f75.other W84 (Or.inl (Ne.symm ne_va_x0))
  have f92 := f76.other W84 (Ne.symm ne_va_ha)
  have f93 := f77.wr W84
  have f94 := f78.wr W84
  have f95 := f79.other W84 (Ne.symm ne_va_ka)
  have f96 := V84
  have K97 : Keep h0 h84 [x0, ka, ha, va] := K81.wr W84 (Or.inl (List.mem_of_getElem? (i := 3) rfl))
  have Z97 : n0 ≤ h84.size := by rw [Wr.size W84]; exact Z81
  have N97 := Fr.snoc X84 N81 g_va
  show Goes _ _ _ _ _ _ _ (T84.setTop (mkF m 84 #[.val (.ref x0), .val (.int x1), .val (.ref x2), .val (.ref x3), .val (.int (own_f x1 sh))] []))
  refine Goes.step (fun _ k => XS.aloadN X84.here hx rfl (hb hby d5_84) rfl rfl k) ?_
  show Goes _ _ _ _ _ _ _ (T84.setTop (mkF m 85 #[.val (.ref x0), .val (.int x1), .val (.ref x2), .val (.ref x3), .val (.int (own_f x1 sh))] [(.ref x0)]))
  refine Goes.step (fun _ k => XS.dup X84.here hx rfl (hb hby d5_85) rfl rfl k) ?_
  show Goes _ _ _ _ _ _ _ (T84.setTop (mkF m 86 #[.val (.ref x0), .val (.int x1), .val (.ref x2), .val (.ref x3), .val (.int (own_f x1 sh))] [(.ref x0), (.ref x0)]))
  obtain ⟨T98, X98, e98, st98⟩ := getF X84 hx hZ hown (host := "") (Or.inl (hw _ (List.mem_of_getElem? (i := 38) rfl))) Via.refl e84 f90 (g := (mkF m 86 #[.val (.ref x0), .val (.int x1), .val (.ref x2), .val (.ref x3), .val (.int (own_f x1 sh))] [(.ref x0), (.ref x0)])) rfl rfl (hb hby d5_86)
  refine Goes.step st98 ?_
  show Goes _ _ _ _ _ _ _ (T98.setTop (mkF m 89 #[.val (.ref x0), .val (.int x1), .val (.ref x2), .val (.ref x3), .val (.int (own_f x1 sh))] [(.int (0 : Int32)), (.ref x0)]))
  refine Goes.step (fun _ k => XS.iconst X98.here hx rfl (hb hby d5_89) k) ?_
  show Goes _ _ _ _ _ _ _ (T98.setTop (mkF m 90 #[.val (.ref x0), .val (.int x1), .val (.ref x2), .val (.ref x3), .val (.int (own_f x1 sh))] [(.int (1 : Int32)), (.int (0 : Int32)), (.ref x0)]))
  refine Goes.step (fun _ k => XS.iadd X98.here hx rfl (hb hby d5_90) rfl k) ?_
  show Goes _ _ _ _ _ _ _ (T98.setTop (mkF m 91 #[.val (.ref x0), .val (.int x1), .val (.ref x2), .val (.ref x3), .val (.int (own_f x1 sh))] [(.int (1 : Int32)), (.ref x0)]))
  obtain ⟨T99, h99, X99, e99, W99, st99⟩ := putF X98 hx hZ hown (host := "") (Or.inl (hw _ (List.mem_of_getElem? (i := 38) rfl))) Via.refl e98 f90 f85 (Or.inl (hw _ (List.mem_of_getElem? (i := 39) rfl))) (hw _ (List.mem_of_getElem? (i := 2) rfl)) (ty := .int) (by decide) rfl rfl (g := (mkF m 91 #[.val (.ref x0), .val (.int x1), .val (.ref x2), .val (.ref x3), .val (.int (own_f x1 sh))] [(.int (1 : Int32)), (.ref x0)])) rfl rfl (hb hby d5_91)
  refine Goes.step st99 ?_
  have f100 := f85.wr W99
  have f101 := f86.other W99 (Or.inr (slot_ne (Or.inr (hw _ (List.mem_of_getElem? (i := 25) rfl))) (Or.inl (hw _ (List.mem_of_getElem? (i := 39) rfl))) (by decide) (t := (.array (.object "java/lang/Object"))) (t' := .int) (by decide) (by decide)))
  have f102 := f87.other W99 (Or.inr (slot_ne (Or.inr (hw _ (List.mem_of_getElem? (i := 27) rfl))) (Or.inl (hw _ (List.mem_of_getElem? (i := 39) rfl))) (by decide) (t := (.array .int)) (t' := .int) (by decide) (by decide)))
  have f103 := f88.other W99 (Or.inr (slot_ne (Or.inr (hw _ (List.mem_of_getElem? (i := 29) rfl))) (Or.inl (hw _ (List.mem_of_getElem? (i := 39) rfl))) (by decide) (t := (.array (.object "java/lang/Object"))) (t' := .int) (by decide) (by decide)))
  have f104 := f89.other W99 (Or.inr (slot_ne (Or.inr (hw _ (List.mem_of_getElem? (i := 12) rfl))) (Or.inl (hw _ (List.mem_of_getElem? (i := 39) rfl))) (by decide) (t := .int) (t' := .int) (by decide) (by decide)))
  have f105 := f90.same W99
  have f106 := f91.other W99 (Or.inr (slot_ne (Or.inr (hw _ (List.mem_of_getElem? (i := 32) rfl))) (Or.inl (hw _ (List.mem_of_getElem? (i := 39) rfl))) (by decide) (t := .int) (t' := .int) (by decide) (by decide)))
  have f107 := f92.other W99 ne_ha_x0
  have f108 := f93.wr W99
  have f109 := f94.wr W99
  have f110 := f95.other W99 ne_ka_x0
  have f111 := f96.other W99 ne_va_x0
  have K112 : Keep h0 h99 [x0, ka, ha, va] := K97.wr W99 (Or.inl (List.mem_of_getElem? (i := 0) rfl))
  have Z112 : n0 ≤ h99.size := by rw [Wr.size W99]; exact Z97
  have N112 := Fr.snoc X99 N97 g_x0
  show Goes _ _ _ _ _ _ _ (T99.setTop (mkF m 94 #[.val (.ref x0), .val (.int x1), .val (.ref x2), .val (.ref x3), .val (.int (own_f x1 sh))] []))
  refine Goes.step (fun _ k => XS.aloadN X99.here hx rfl (hb hby d5_94) rfl rfl k) ?_
  show Goes _ _ _ _ _ _ _ (T99.setTop (mkF m 95 #[.val (.ref x0), .val (.int x1), .val (.ref x2), .val (.ref x3), .val (.int (own_f x1 sh))] [(.ref x3)]))
  exact Goes.ret X99 hx (BodyLoose.notSynchronized Bd) Bd.returns rfl (Or.inr (Or.inr (Or.inr (Or.inr ⟨rfl, rfl, rfl⟩)))) (hb hby d5_95) (by show Q5_f4 Z x0 x1 x2 x3 ka ha va kk kh kw t hf KA VA sh mo sz i0 kf q h0 n0 (some (.ref x3)) T99.heap _; rw [e99]; exact ⟨N112, K112, rfl, f100, f101, f102, f103, f104, f105, f106, (f110.congr (own_rfset (t := own_t0) hka _ hq)), (f107.congr (own_hset _ hq)), (f111.congr (own_rfset (t := own_t0) hva _ hq))⟩) (by decide) (by decide)
theorem d4_0 : decode jdk_33_method_47_code 0 = .ok (.iload_n 0, 1) := by decide +kernel
theorem d4_1 : decode jdk_33_method_47_code 1 = .ok (.ifCond .gt 14, 3) := by decide +kernel
theorem d4_15 : decode jdk_33_method_47_code 15 = .ok (.bipush 31, 2) := by decide +kernel
theorem d4_17 : decode jdk_33_method_47_code 17 = .ok (.istore_n 1, 1) := by decide +kernel
theorem d4_18 : decode jdk_33_method_47_code 18 = .ok (.iload_n 0, 1) := by decide +kernel
theorem d4_19 : decode jdk_33_method_47_code 19 = .ok (.ldc_w 264, 3) := by decide +kernel
theorem d4_22 : decode jdk_33_method_47_code 22 = .ok (.if_icmp .lt 11, 3) := by decide +kernel
theorem d4_33 : decode jdk_33_method_47_code 33 = .ok (.iload_n 0, 1) := by decide +kernel
theorem d4_34 : decode jdk_33_method_47_code 34 = .ok (.sipush 256, 3) := by decide +kernel
theorem d4_37 : decode jdk_33_method_47_code 37 = .ok (.if_icmp .lt 11, 3) := by decide +kernel
theorem d4_48 : decode jdk_33_method_47_code 48 = .ok (.iload_n 0, 1) := by decide +kernel
theorem d4_49 : decode jdk_33_method_47_code 49 = .ok (.bipush 16, 2) := by decide +kernel
theorem d4_51 : decode jdk_33_method_47_code 51 = .ok (.if_icmp .lt 10, 3) := by decide +kernel
theorem d4_61 : decode jdk_33_method_47_code 61 = .ok (.iload_n 0, 1) := by decide +kernel
theorem d4_62 : decode jdk_33_method_47_code 62 = .ok (.iconst 4, 1) := by decide +kernel
theorem d4_63 : decode jdk_33_method_47_code 63 = .ok (.if_icmp .lt 10, 3) := by decide +kernel
theorem d4_73 : decode jdk_33_method_47_code 73 = .ok (.iload_n 1, 1) := by decide +kernel
theorem d4_74 : decode jdk_33_method_47_code 74 = .ok (.iload_n 0, 1) := by decide +kernel
theorem d4_75 : decode jdk_33_method_47_code 75 = .ok (.iconst 1, 1) := by decide +kernel
theorem d4_76 : decode jdk_33_method_47_code 76 = .ok (.iushr, 1) := by decide +kernel
theorem d4_77 : decode jdk_33_method_47_code 77 = .ok (.isub, 1) := by decide +kernel
theorem d4_78 : decode jdk_33_method_47_code 78 = .ok (.ireturn, 1) := by decide +kernel
theorem pn_4 : plainName "java/lang/Integer" = true := by first | (simp [plainName, overriddenIn]; done) | decide +kernel
theorem ef_4_1 (m : MethodId)   : entryFrame m #[(.int (1 : Int32))] 2 = mkF m 0 #[.val (.int (1 : Int32)), .unset] [] := by first | (simp [entryFrame, mkF, argsToLocals, Value.category]; done) | rfl
def Q4_1 (Z : State)  (h0 : Heap) (n0 : Nat) (v : Option Value) (h : Heap) (L : List Loc) : Prop := Fr n0 L ∧ h = h0 ∧ ((v = some (.int (31 : Int32))))
set_option maxRecDepth 65536 in
set_option maxHeartbeats 40000000 in
theorem rm4_1 (l : Launch) (Z : State) (a0 : Array Value) (hw : ∀ d ∈ tables_1, d.before a0 Z = true) (ws : List Jvm.Cond)  (h0 : Heap) (n0 : Nat) (Z0 : n0 ≤ h0.size) :
    MetFree l (⟨"java/lang/Integer", "numberOfLeadingZeros", "(I)I"⟩ : MethodName) (head1 (Jvm.Cond.code (⟨"java/lang/Integer", "numberOfLeadingZeros", "(I)I"⟩ : MethodName) jdk_33_method_47_code 2 (some .int) :: ws) ({ frames := 0, cells := 0, slots := 0, locals := 0 } : Room)) (fun a U => a = #[(.int (1 : Int32))] ∧ Z.Warmed39 U.vm ∧ U.heap = h0) (fun _ _ _ _ _ => True) (fun _ U o U' => ∃ v L, o = .returned v ∧ Q4_1 Z  h0 n0 v U'.heap L ∧ FrameEnd U o U' L ({ frames := 0, cells := 0, slots := 0, locals := 0 } : Room).cells ({ frames := 0, cells := 0, slots := 0, locals := 0 } : Room).slots) := by
  refine MetFree.of_bodySF (plainFor_of_name pn_4) hisR ?_
  intro p e s m args below meth c s₁ Bd hml0 hP hK
  obtain ⟨rfl, hZ, hh⟩ := hP
  have hx := Bd.exec
  have hby := Bd.bytes
  have hml : c.maxLocals = 2 := hml0
  have hown : s.vm.findClass "java/lang/Integer" = some m.cls := findClass_of_methodNamed Bd.named
  have hnm := (name_of_methodNamed Bd.named Bd.method).1
  have X0 : Stand p l e ({ frames := 0, cells := 0, slots := 0, locals := 0 } : Room) s m #[(.int (1 : Int32))] below meth c s₁ [] 0 0 := Stand.of_body Bd
  have e0 : s₁.heap = h0 := by rw [← hh, Bd.state]; rfl
  have N0 := Fr.nil n0
  have K0 : Keep h0 h0 [] := Keep.refl h0 _
  refine (?_ : Goes p e below s ({ frames := 0, cells := 0, slots := 0, locals := 0 } : Room).cells ({ frames := 0, cells := 0, slots := 0, locals := 0 } : Room).slots (fun v h L => Q4_1 Z  h0 n0 v h L) (s₁.setTop (entryFrame m #[(.int (1 : Int32))] 2)))
  rw [ef_4_1 m  ]
  show Goes _ _ _ _ _ _ _ (s₁.setTop (mkF m 0 #[.val (.int (1 : Int32)), .unset] []))
  refine Goes.step (fun _ k => XS.iloadN X0.here hx rfl (hb hby d4_0) rfl  k) ?_
  show Goes _ _ _ _ _ _ _ (s₁.setTop (mkF m 1 #[.val (.int (1 : Int32)), .unset] [(.int (1 : Int32))]))
  refine Goes.step (fun _ k => XS.ifYes X0.here hx rfl (pc0 := 1) (pc' := 15) rfl (hb hby d4_1) rfl ((if0 _ _).trans (tlt (by decide : (0 : Int32) < (1 : Int32))).2.2.1) (by decide) (by decide) k) ?_
  show Goes _ _ _ _ _ _ _ (s₁.setTop (mkF m 15 #[.val (.int (1 : Int32)), .unset] []))
  refine Goes.step (fun _ k => XS.bipush X0.here hx rfl (hb hby d4_15) k) ?_
  show Goes _ _ _ _ _ _ _ (s₁.setTop (mkF m 17 #[.val (.int (1 : Int32)), .unset] [(.int (31 : Int32))]))
  refine Goes.step (fun _ k => XS.istoreN X0.here hx rfl (hb hby d4_17) rfl (l' := #[.val (.int (1 : Int32)), .val (.int (31 : Int32))]) rfl k) ?_
  show Goes _ _ _ _ _ _ _ (s₁.setTop (mkF m 18 #[.val (.int (1 : Int32)), .val (.int (31 : Int32))] []))
  refine Goes.step (fun _ k => XS.iloadN X0.here hx rfl (hb hby d4_18) rfl  k) ?_
  show Goes _ _ _ _ _ _ _ (s₁.setTop (mkF m 19 #[.val (.int (1 : Int32)), .val (.int (31 : Int32))] [(.int (1 : Int32))]))
  refine Goes.step (fun _ k => X0.ldcwInt hx hown (mvT hZ (hw _ (List.mem_of_getElem? (i := 21) rfl))) (g := (mkF m 19 #[.val (.int (1 : Int32)), .val (.int (31 : Int32))] [(.int (1 : Int32))])) rfl (hb hby d4_19) _ k) ?_
  show Goes _ _ _ _ _ _ _ (s₁.setTop (mkF m 22 #[.val (.int (1 : Int32)), .val (.int (31 : Int32))] [(.int (65536 : Int32)), (.int (1 : Int32))]))
  refine Goes.step (fun _ k => XS.icmpYes X0.here hx rfl (pc0 := 22) (pc' := 33) rfl (hb hby d4_22) rfl (tlt (by decide : (1 : Int32) < (65536 : Int32))).1 (by decide) (by decide) k) ?_
  show Goes _ _ _ _ _ _ _ (s₁.setTop (mkF m 33 #[.val (.int (1 : Int32)), .val (.int (31 : Int32))] []))
  refine Goes.step (fun _ k => XS.iloadN X0.here hx rfl (hb hby d4_33) rfl  k) ?_
  show Goes _ _ _ _ _ _ _ (s₁.setTop (mkF m 34 #[.val (.int (1 : Int32)), .val (.int (31 : Int32))] [(.int (1 : Int32))]))
  refine Goes.step (fun _ k => XS.sipush X0.here hx rfl (hb hby d4_34) k) ?_
  show Goes _ _ _ _ _ _ _ (s₁.setTop (mkF m 37 #[.val (.int (1 : Int32)), .val (.int (31 : Int32))] [(.int (256 : Int32)), (.int (1 : Int32))]))
  refine Goes.step (fun _ k => XS.icmpYes X0.here hx rfl (pc0 := 37) (pc' := 48) rfl (hb hby d4_37) rfl (tlt (by decide : (1 : Int32) < (256 : Int32))).1 (by decide) (by decide) k) ?_
  show Goes _ _ _ _ _ _ _ (s₁.setTop (mkF m 48 #[.val (.int (1 : Int32)), .val (.int (31 : Int32))] []))
  refine Goes.step (fun _ k => XS.iloadN X0.here hx rfl (hb hby d4_48) rfl  k) ?_
  show Goes _ _ _ _ _ _ _ (s₁.setTop (mkF m 49 #[.val (.int (1 : Int32)), .val (.int (31 : Int32))] [(.int (1 : Int32))]))
  refine Goes.step (fun _ k => XS.bipush X0.here hx rfl (hb hby d4_49) k) ?_
  show Goes _ _ _ _ _ _ _ (s₁.setTop (mkF m 51 #[.val (.int (1 : Int32)), .val (.int (31 : Int32))] [(.int (16 : Int32)), (.int (1 : Int32))]))
  refine Goes.step (fun _ k => XS.icmpYes X0.here hx rfl (pc0 := 51) (pc' := 61) rfl (hb hby d4_51) rfl (tlt (by decide : (1 : Int32) < (16 : Int32))).1 (by decide) (by decide) k) ?_
  show Goes _ _ _ _ _ _ _ (s₁.setTop (mkF m 61 #[.val (.int (1 : Int32)), .val (.int (31 : Int32))] []))
  refine Goes.step (fun _ k => XS.iloadN X0.here hx rfl (hb hby d4_61) rfl  k) ?_
  show Goes _ _ _ _ _ _ _ (s₁.setTop (mkF m 62 #[.val (.int (1 : Int32)), .val (.int (31 : Int32))] [(.int (1 : Int32))]))
  refine Goes.step (fun _ k => XS.iconst X0.here hx rfl (hb hby d4_62) k) ?_
  show Goes _ _ _ _ _ _ _ (s₁.setTop (mkF m 63 #[.val (.int (1 : Int32)), .val (.int (31 : Int32))] [(.int (4 : Int32)), (.int (1 : Int32))]))
  refine Goes.step (fun _ k => XS.icmpYes X0.here hx rfl (pc0 := 63) (pc' := 73) rfl (hb hby d4_63) rfl (tlt (by decide : (1 : Int32) < (4 : Int32))).1 (by decide) (by decide) k) ?_
  show Goes _ _ _ _ _ _ _ (s₁.setTop (mkF m 73 #[.val (.int (1 : Int32)), .val (.int (31 : Int32))] []))
  refine Goes.step (fun _ k => XS.iloadN X0.here hx rfl (hb hby d4_73) rfl  k) ?_
  show Goes _ _ _ _ _ _ _ (s₁.setTop (mkF m 74 #[.val (.int (1 : Int32)), .val (.int (31 : Int32))] [(.int (31 : Int32))]))
  refine Goes.step (fun _ k => XS.iloadN X0.here hx rfl (hb hby d4_74) rfl  k) ?_
  show Goes _ _ _ _ _ _ _ (s₁.setTop (mkF m 75 #[.val (.int (1 : Int32)), .val (.int (31 : Int32))] [(.int (1 : Int32)), (.int (31 : Int32))]))
  refine Goes.step (fun _ k => XS.iconst X0.here hx rfl (hb hby d4_75) k) ?_
  show Goes _ _ _ _ _ _ _ (s₁.setTop (mkF m 76 #[.val (.int (1 : Int32)), .val (.int (31 : Int32))] [(.int (1 : Int32)), (.int (1 : Int32)), (.int (31 : Int32))]))
  refine Goes.step (fun _ k => XS.iushr X0.here hx rfl (hb hby d4_76) rfl k) ?_
  show Goes _ _ _ _ _ _ _ (s₁.setTop (mkF m 77 #[.val (.int (1 : Int32)), .val (.int (31 : Int32))] [(.int (0 : Int32)), (.int (31 : Int32))]))
  refine Goes.step (fun _ k => XS.isub X0.here hx rfl (hb hby d4_77) rfl k) ?_
  show Goes _ _ _ _ _ _ _ (s₁.setTop (mkF m 78 #[.val (.int (1 : Int32)), .val (.int (31 : Int32))] [(.int (31 : Int32))]))
  exact Goes.ret X0 hx (BodyLoose.notSynchronized Bd) Bd.returns rfl (Or.inl ⟨rfl, by simp, _, rfl⟩) (hb hby d4_78) (by show Q4_1 Z  h0 n0 (some (.int (31 : Int32))) s₁.heap _; rw [e0]; exact ⟨N0, rfl, rfl⟩) (by decide) (by decide)
theorem ef_4_3 (m : MethodId)   : entryFrame m #[(.int (3 : Int32))] 2 = mkF m 0 #[.val (.int (3 : Int32)), .unset] [] := by first | (simp [entryFrame, mkF, argsToLocals, Value.category]; done) | rfl
def Q4_3 (Z : State)  (h0 : Heap) (n0 : Nat) (v : Option Value) (h : Heap) (L : List Loc) : Prop := Fr n0 L ∧ h = h0 ∧ ((v = some (.int (30 : Int32))))
set_option maxRecDepth 65536 in
set_option maxHeartbeats 40000000 in
theorem rm4_3 (l : Launch) (Z : State) (a0 : Array Value) (hw : ∀ d ∈ tables_1, d.before a0 Z = true) (ws : List Jvm.Cond)  (h0 : Heap) (n0 : Nat) (Z0 : n0 ≤ h0.size) :
    MetFree l (⟨"java/lang/Integer", "numberOfLeadingZeros", "(I)I"⟩ : MethodName) (head1 (Jvm.Cond.code (⟨"java/lang/Integer", "numberOfLeadingZeros", "(I)I"⟩ : MethodName) jdk_33_method_47_code 2 (some .int) :: ws) ({ frames := 0, cells := 0, slots := 0, locals := 0 } : Room)) (fun a U => a = #[(.int (3 : Int32))] ∧ Z.Warmed39 U.vm ∧ U.heap = h0) (fun _ _ _ _ _ => True) (fun _ U o U' => ∃ v L, o = .returned v ∧ Q4_3 Z  h0 n0 v U'.heap L ∧ FrameEnd U o U' L ({ frames := 0, cells := 0, slots := 0, locals := 0 } : Room).cells ({ frames := 0, cells := 0, slots := 0, locals := 0 } : Room).slots) := by
  refine MetFree.of_bodySF (plainFor_of_name pn_4) hisR ?_
  intro p e s m args below meth c s₁ Bd hml0 hP hK
  obtain ⟨rfl, hZ, hh⟩ := hP
  have hx := Bd.exec
  have hby := Bd.bytes
  have hml : c.maxLocals = 2 := hml0
  have hown : s.vm.findClass "java/lang/Integer" = some m.cls := findClass_of_methodNamed Bd.named
  have hnm := (name_of_methodNamed Bd.named Bd.method).1
  have X0 : Stand p l e ({ frames := 0, cells := 0, slots := 0, locals := 0 } : Room) s m #[(.int (3 : Int32))] below meth c s₁ [] 0 0 := Stand.of_body Bd
  have e0 : s₁.heap = h0 := by rw [← hh, Bd.state]; rfl
  have N0 := Fr.nil n0
  have K0 : Keep h0 h0 [] := Keep.refl h0 _
  refine (?_ : Goes p e below s ({ frames := 0, cells := 0, slots := 0, locals := 0 } : Room).cells ({ frames := 0, cells := 0, slots := 0, locals := 0 } : Room).slots (fun v h L => Q4_3 Z  h0 n0 v h L) (s₁.setTop (entryFrame m #[(.int (3 : Int32))] 2)))
  rw [ef_4_3 m  ]
  show Goes _ _ _ _ _ _ _ (s₁.setTop (mkF m 0 #[.val (.int (3 : Int32)), .unset] []))
  refine Goes.step (fun _ k => XS.iloadN X0.here hx rfl (hb hby d4_0) rfl  k) ?_
  show Goes _ _ _ _ _ _ _ (s₁.setTop (mkF m 1 #[.val (.int (3 : Int32)), .unset] [(.int (3 : Int32))]))
  refine Goes.step (fun _ k => XS.ifYes X0.here hx rfl (pc0 := 1) (pc' := 15) rfl (hb hby d4_1) rfl ((if0 _ _).trans (tlt (by decide : (0 : Int32) < (3 : Int32))).2.2.1) (by decide) (by decide) k) ?_
  show Goes _ _ _ _ _ _ _ (s₁.setTop (mkF m 15 #[.val (.int (3 : Int32)), .unset] []))
  refine Goes.step (fun _ k => XS.bipush X0.here hx rfl (hb hby d4_15) k) ?_
  show Goes _ _ _ _ _ _ _ (s₁.setTop (mkF m 17 #[.val (.int (3 : Int32)), .unset] [(.int (31 : Int32))]))
  refine Goes.step (fun _ k => XS.istoreN X0.here hx rfl (hb hby d4_17) rfl (l' := #[.val (.int (3 : Int32)), .val (.int (31 : Int32))]) rfl k) ?_
  show Goes _ _ _ _ _ _ _ (s₁.setTop (mkF m 18 #[.val (.int (3 : Int32)), .val (.int (31 : Int32))] []))
  refine Goes.step (fun _ k => XS.iloadN X0.here hx rfl (hb hby d4_18) rfl  k) ?_
  show Goes _ _ _ _ _ _ _ (s₁.setTop (mkF m 19 #[.val (.int (3 : Int32)), .val (.int (31 : Int32))] [(.int (3 : Int32))]))
  refine Goes.step (fun _ k => X0.ldcwInt hx hown (mvT hZ (hw _ (List.mem_of_getElem? (i := 21) rfl))) (g := (mkF m 19 #[.val (.int (3 : Int32)), .val (.int (31 : Int32))] [(.int (3 : Int32))])) rfl (hb hby d4_19) _ k) ?_
  show Goes _ _ _ _ _ _ _ (s₁.setTop (mkF m 22 #[.val (.int (3 : Int32)), .val (.int (31 : Int32))] [(.int (65536 : Int32)), (.int (3 : Int32))]))
  refine Goes.step (fun _ k => XS.icmpYes X0.here hx rfl (pc0 := 22) (pc' := 33) rfl (hb hby d4_22) rfl (tlt (by decide : (3 : Int32) < (65536 : Int32))).1 (by decide) (by decide) k) ?_
  show Goes _ _ _ _ _ _ _ (s₁.setTop (mkF m 33 #[.val (.int (3 : Int32)), .val (.int (31 : Int32))] []))
  refine Goes.step (fun _ k => XS.iloadN X0.here hx rfl (hb hby d4_33) rfl  k) ?_
  show Goes _ _ _ _ _ _ _ (s₁.setTop (mkF m 34 #[.val (.int (3 : Int32)), .val (.int (31 : Int32))] [(.int (3 : Int32))]))
  refine Goes.step (fun _ k => XS.sipush X0.here hx rfl (hb hby d4_34) k) ?_
  show Goes _ _ _ _ _ _ _ (s₁.setTop (mkF m 37 #[.val (.int (3 : Int32)), .val (.int (31 : Int32))] [(.int (256 : Int32)), (.int (3 : Int32))]))
  refine Goes.step (fun _ k => XS.icmpYes X0.here hx rfl (pc0 := 37) (pc' := 48) rfl (hb hby d4_37) rfl (tlt (by decide : (3 : Int32) < (256 : Int32))).1 (by decide) (by decide) k) ?_
  show Goes _ _ _ _ _ _ _ (s₁.setTop (mkF m 48 #[.val (.int (3 : Int32)), .val (.int (31 : Int32))] []))
  refine Goes.step (fun _ k => XS.iloadN X0.here hx rfl (hb hby d4_48) rfl  k) ?_
  show Goes _ _ _ _ _ _ _ (s₁.setTop (mkF m 49 #[.val (.int (3 : Int32)), .val (.int (31 : Int32))] [(.int (3 : Int32))]))
  refine Goes.step (fun _ k => XS.bipush X0.here hx rfl (hb hby d4_49) k) ?_
  show Goes _ _ _ _ _ _ _ (s₁.setTop (mkF m 51 #[.val (.int (3 : Int32)), .val (.int (31 : Int32))] [(.int (16 : Int32)), (.int (3 : Int32))]))
  refine Goes.step (fun _ k => XS.icmpYes X0.here hx rfl (pc0 := 51) (pc' := 61) rfl (hb hby d4_51) rfl (tlt (by decide : (3 : Int32) < (16 : Int32))).1 (by decide) (by decide) k) ?_
  show Goes _ _ _ _ _ _ _ (s₁.setTop (mkF m 61 #[.val (.int (3 : Int32)), .val (.int (31 : Int32))] []))
  refine Goes.step (fun _ k => XS.iloadN X0.here hx rfl (hb hby d4_61) rfl  k) ?_
  show Goes _ _ _ _ _ _ _ (s₁.setTop (mkF m 62 #[.val (.int (3 : Int32)), .val (.int (31 : Int32))] [(.int (3 : Int32))]))
  refine Goes.step (fun _ k => XS.iconst X0.here hx rfl (hb hby d4_62) k) ?_
  show Goes _ _ _ _ _ _ _ (s₁.setTop (mkF m 63 #[.val (.int (3 : Int32)), .val (.int (31 : Int32))] [(.int (4 : Int32)), (.int (3 : Int32))]))
  refine Goes.step (fun _ k => XS.icmpYes X0.here hx rfl (pc0 := 63) (pc' := 73) rfl (hb hby d4_63) rfl (tlt (by decide : (3 : Int32) < (4 : Int32))).1 (by decide) (by decide) k) ?_
  show Goes _ _ _ _ _ _ _ (s₁.setTop (mkF m 73 #[.val (.int (3 : Int32)), .val (.int (31 : Int32))] []))
  refine Goes.step (fun _ k => XS.iloadN X0.here hx rfl (hb hby d4_73) rfl  k) ?_
  show Goes _ _ _ _ _ _ _ (s₁.setTop (mkF m 74 #[.val (.int (3 : Int32)), .val (.int (31 : Int32))] [(.int (31 : Int32))]))
  refine Goes.step (fun _ k => XS.iloadN X0.here hx rfl (hb hby d4_74) rfl  k) ?_
  show Goes _ _ _ _ _ _ _ (s₁.setTop (mkF m 75 #[.val (.int (3 : Int32)), .val (.int (31 : Int32))] [(.int (3 : Int32)), (.int (31 : Int32))]))
  refine Goes.step (fun _ k => XS.iconst X0.here hx rfl (hb hby d4_75) k) ?_
  show Goes _ _ _ _ _ _ _ (s₁.setTop (mkF m 76 #[.val (.int (3 : Int32)), .val (.int (31 : Int32))] [(.int (1 : Int32)), (.int (3 : Int32)), (.int (31 : Int32))]))
  refine Goes.step (fun _ k => XS.iushr X0.here hx rfl (hb hby d4_76) rfl k) ?_
  show Goes _ _ _ _ _ _ _ (s₁.setTop (mkF m 77 #[.val (.int (3 : Int32)), .val (.int (31 : Int32))] [(.int (1 : Int32)), (.int (31 : Int32))]))
  refine Goes.step (fun _ k => XS.isub X0.here hx rfl (hb hby d4_77) rfl k) ?_
  show Goes _ _ _ _ _ _ _ (s₁.setTop (mkF m 78 #[.val (.int (3 : Int32)), .val (.int (31 : Int32))] [(.int (30 : Int32))]))
  exact Goes.ret X0 hx (BodyLoose.notSynchronized Bd) Bd.returns rfl (Or.inl ⟨rfl, by simp, _, rfl⟩) (hb hby d4_78) (by show Q4_3 Z  h0 n0 (some (.int (30 : Int32))) s₁.heap _; rw [e0]; exact ⟨N0, rfl, rfl⟩) (by decide) (by decide)
theorem d4_66 : decode jdk_33_method_47_code 66 = .ok (.iinc 1 (-2), 3) := by decide +kernel
theorem d4_69 : decode jdk_33_method_47_code 69 = .ok (.iload_n 0, 1) := by decide +kernel
theorem d4_70 : decode jdk_33_method_47_code 70 = .ok (.iconst 2, 1) := by decide +kernel
theorem d4_71 : decode jdk_33_method_47_code 71 = .ok (.iushr, 1) := by decide +kernel
theorem d4_72 : decode jdk_33_method_47_code 72 = .ok (.istore_n 0, 1) := by decide +kernel
theorem ef_4_5 (m : MethodId)   : entryFrame m #[(.int (5 : Int32))] 2 = mkF m 0 #[.val (.int (5 : Int32)), .unset] [] := by first | (simp [entryFrame, mkF, argsToLocals, Value.category]; done) | rfl
def Q4_5 (Z : State)  (h0 : Heap) (n0 : Nat) (v : Option Value) (h : Heap) (L : List Loc) : Prop := Fr n0 L ∧ h = h0 ∧ ((v = some (.int (29 : Int32))))
set_option maxRecDepth 65536 in
set_option maxHeartbeats 40000000 in
theorem rm4_5 (l : Launch) (Z : State) (a0 : Array Value) (hw : ∀ d ∈ tables_1, d.before a0 Z = true) (ws : List Jvm.Cond)  (h0 : Heap) (n0 : Nat) (Z0 : n0 ≤ h0.size) :
    MetFree l (⟨"java/lang/Integer", "numberOfLeadingZeros", "(I)I"⟩ : MethodName) (head1 (Jvm.Cond.code (⟨"java/lang/Integer", "numberOfLeadingZeros", "(I)I"⟩ : MethodName) jdk_33_method_47_code 2 (some .int) :: ws) ({ frames := 0, cells := 0, slots := 0, locals := 0 } : Room)) (fun a U => a = #[(.int (5 : Int32))] ∧ Z.Warmed39 U.vm ∧ U.heap = h0) (fun _ _ _ _ _ => True) (fun _ U o U' => ∃ v L, o = .returned v ∧ Q4_5 Z  h0 n0 v U'.heap L ∧ FrameEnd U o U' L ({ frames := 0, cells := 0, slots := 0, locals := 0 } : Room).cells ({ frames := 0, cells := 0, slots := 0, locals := 0 } : Room).slots) := by
  refine MetFree.of_bodySF (plainFor_of_name pn_4) hisR ?_
  intro p e s m args below meth c s₁ Bd hml0 hP hK
  obtain ⟨rfl, hZ, hh⟩ := hP
  have hx := Bd.exec
  have hby := Bd.bytes
  have hml : c.maxLocals = 2 := hml0
  have hown : s.vm.findClass "java/lang/Integer" = some m.cls := findClass_of_methodNamed Bd.named
  have hnm := (name_of_methodNamed Bd.named Bd.method).1
  have X0 : Stand p l e ({ frames := 0, cells := 0, slots := 0, locals := 0 } : Room) s m #[(.int (5 : Int32))] below meth c s₁ [] 0 0 := Stand.of_body Bd
  have e0 : s₁.heap = h0 := by rw [← hh, Bd.state]; rfl
  have N0 := Fr.nil n0
  have K0 : Keep h0 h0 [] := Keep.refl h0 _
  refine (?_ : Goes p e below s ({ frames := 0, cells := 0, slots := 0, locals := 0 } : Room).cells ({ frames := 0, cells := 0, slots := 0, locals := 0 } : Room).slots (fun v h L => Q4_5 Z  h0 n0 v h L) (s₁.setTop (entryFrame m #[(.int (5 : Int32))] 2)))
  rw [ef_4_5 m  ]
  show Goes _ _ _ _ _ _ _ (s₁.setTop (mkF m 0 #[.val (.int (5 : Int32)), .unset] []))
  refine Goes.step (fun _ k => XS.iloadN X0.here hx rfl (hb hby d4_0) rfl  k) ?_
  show Goes _ _ _ _ _ _ _ (s₁.setTop (mkF m 1 #[.val (.int (5 : Int32)), .unset] [(.int (5 : Int32))]))
  refine Goes.step (fun _ k => XS.ifYes X0.here hx rfl (pc0 := 1) (pc' := 15) rfl (hb hby d4_1) rfl ((if0 _ _).trans (tlt (by decide : (0 : Int32) < (5 : Int32))).2.2.1) (by decide) (by decide) k) ?_
  show Goes _ _ _ _ _ _ _ (s₁.setTop (mkF m 15 #[.val (.int (5 : Int32)), .unset] []))
  refine Goes.step (fun _ k => XS.bipush X0.here hx rfl (hb hby d4_15) k) ?_
  show Goes _ _ _ _ _ _ _ (s₁.setTop (mkF m 17 #[.val (.int (5 : Int32)), .unset] [(.int (31 : Int32))]))
  refine Goes.step (fun _ k => XS.istoreN X0.here hx rfl (hb hby d4_17) rfl (l' := #[.val (.int (5 : Int32)), .val (.int (31 : Int32))]) rfl k) ?_
  show Goes _ _ _ _ _ _ _ (s₁.setTop (mkF m 18 #[.val (.int (5 : Int32)), .val (.int (31 : Int32))] []))
  refine Goes.step (fun _ k => XS.iloadN X0.here hx rfl (hb hby d4_18) rfl  k) ?_
  show Goes _ _ _ _ _ _ _ (s₁.setTop (mkF m 19 #[.val (.int (5 : Int32)), .val (.int (31 : Int32))] [(.int (5 : Int32))]))
  refine Goes.step (fun _ k => X0.ldcwInt hx hown (mvT hZ (hw _ (List.mem_of_getElem? (i := 21) rfl))) (g := (mkF m 19 #[.val (.int (5 : Int32)), .val (.int (31 : Int32))] [(.int (5 : Int32))])) rfl (hb hby d4_19) _ k) ?_
  show Goes _ _ _ _ _ _ _ (s₁.setTop (mkF m 22 #[.val (.int (5 : Int32)), .val (.int (31 : Int32))] [(.int (65536 : Int32)), (.int (5 : Int32))]))
  refine Goes.step (fun _ k => XS.icmpYes X0.here hx rfl (pc0 := 22) (pc' := 33) rfl (hb hby d4_22) rfl (tlt (by decide : (5 : Int32) < (65536 : Int32))).1 (by decide) (by decide) k) ?_
  show Goes _ _ _ _ _ _ _ (s₁.setTop (mkF m 33 #[.val (.int (5 : Int32)), .val (.int (31 : Int32))] []))
  refine Goes.step (fun _ k => XS.iloadN X0.here hx rfl (hb hby d4_33) rfl  k) ?_
  show Goes _ _ _ _ _ _ _ (s₁.setTop (mkF m 34 #[.val (.int (5 : Int32)), .val (.int (31 : Int32))] [(.int (5 : Int32))]))
  refine Goes.step (fun _ k => XS.sipush X0.here hx rfl (hb hby d4_34) k) ?_
  show Goes _ _ _ _ _ _ _ (s₁.setTop (mkF m 37 #[.val (.int (5 : Int32)), .val (.int (31 : Int32))] [(.int (256 : Int32)), (.int (5 : Int32))]))
  refine Goes.step (fun _ k => XS.icmpYes X0.here hx rfl (pc0 := 37) (pc' := 48) rfl (hb hby d4_37) rfl (tlt (by decide : (5 : Int32) < (256 : Int32))).1 (by decide) (by decide) k) ?_
  show Goes _ _ _ _ _ _ _ (s₁.setTop (mkF m 48 #[.val (.int (5 : Int32)), .val (.int (31 : Int32))] []))
  refine Goes.step (fun _ k => XS.iloadN X0.here hx rfl (hb hby d4_48) rfl  k) ?_
  show Goes _ _ _ _ _ _ _ (s₁.setTop (mkF m 49 #[.val (.int (5 : Int32)), .val (.int (31 : Int32))] [(.int (5 : Int32))]))
  refine Goes.step (fun _ k => XS.bipush X0.here hx rfl (hb hby d4_49) k) ?_
  show Goes _ _ _ _ _ _ _ (s₁.setTop (mkF m 51 #[.val (.int (5 : Int32)), .val (.int (31 : Int32))] [(.int (16 : Int32)), (.int (5 : Int32))]))
  refine Goes.step (fun _ k => XS.icmpYes X0.here hx rfl (pc0 := 51) (pc' := 61) rfl (hb hby d4_51) rfl (tlt (by decide : (5 : Int32) < (16 : Int32))).1 (by decide) (by decide) k) ?_
  show Goes _ _ _ _ _ _ _ (s₁.setTop (mkF m 61 #[.val (.int (5 : Int32)), .val (.int (31 : Int32))] []))
  refine Goes.step (fun _ k => XS.iloadN X0.here hx rfl (hb hby d4_61) rfl  k) ?_
  show Goes _ _ _ _ _ _ _ (s₁.setTop (mkF m 62 #[.val (.int (5 : Int32)), .val (.int (31 : Int32))] [(.int (5 : Int32))]))
  refine Goes.step (fun _ k => XS.iconst X0.here hx rfl (hb hby d4_62) k) ?_
  show Goes _ _ _ _ _ _ _ (s₁.setTop (mkF m 63 #[.val (.int (5 : Int32)), .val (.int (31 : Int32))] [(.int (4 : Int32)), (.int (5 : Int32))]))
  refine Goes.step (fun _ k => XS.icmpNo X0.here hx rfl (hb hby d4_63) rfl (flt (by decide : ¬ ((5 : Int32) < (4 : Int32)))).1 k) ?_
  show Goes _ _ _ _ _ _ _ (s₁.setTop (mkF m 66 #[.val (.int (5 : Int32)), .val (.int (31 : Int32))] []))
  refine Goes.step (fun _ k => XS.iinc X0.here hx rfl (hb hby d4_66) rfl (l' := #[.val (.int (5 : Int32)), .val (.int (29 : Int32))]) rfl k) ?_
  show Goes _ _ _ _ _ _ _ (s₁.setTop (mkF m 69 #[.val (.int (5 : Int32)), .val (.int (29 : Int32))] []))
  refine Goes.step (fun _ k => XS.iloadN X0.here hx rfl (hb hby d4_69) rfl  k) ?_
  show Goes _ _ _ _ _ _ _ (s₁.setTop (mkF m 70 #[.val (.int (5 : Int32)), .val (.int (29 : Int32))] [(.int (5 : Int32))]))
  refine Goes.step (fun _ k => XS.iconst X0.here hx rfl (hb hby d4_70) k) ?_
  show Goes _ _ _ _ _ _ _ (s₁.setTop (mkF m 71 #[.val (.int (5 : Int32)), .val (.int (29 : Int32))] [(.int (2 : Int32)), (.int (5 : Int32))]))
  refine Goes.step (fun _ k => XS.iushr X0.here hx rfl (hb hby d4_71) rfl k) ?_
  show Goes _ _ _ _ _ _ _ (s₁.setTop (mkF m 72 #[.val (.int (5 : Int32)), .val (.int (29 : Int32))] [(.int (1 : Int32))]))
  refine Goes.step (fun _ k => XS.istoreN X0.here hx rfl (hb hby d4_72) rfl (l' := #[.val (.int (1 : Int32)), .val (.int (29 : Int32))]) rfl k) ?_
  show Goes _ _ _ _ _ _ _ (s₁.setTop (mkF m 73 #[.val (.int (1 : Int32)), .val (.int (29 : Int32))] []))
  refine Goes.step (fun _ k => XS.iloadN X0.here hx rfl (hb hby d4_73) rfl  k) ?_
  show Goes _ _ _ _ _ _ _ (s₁.setTop (mkF m 74 #[.val (.int (1 : Int32)), .val (.int (29 : Int32))] [(.int (29 : Int32))]))
  refine Goes.step (fun _ k => XS.iloadN X0.here hx rfl (hb hby d4_74) rfl  k) ?_
  show Goes _ _ _ _ _ _ _ (s₁.setTop (mkF m 75 #[.val (.int (1 : Int32)), .val (.int (29 : Int32))] [(.int (1 : Int32)), (.int (29 : Int32))]))
  refine Goes.step (fun _ k => XS.iconst X0.here hx rfl (hb hby d4_75) k) ?_
  show Goes _ _ _ _ _ _ _ (s₁.setTop (mkF m 76 #[.val (.int (1 : Int32)), .val (.int (29 : Int32))] [(.int (1 : Int32)), (.int (1 : Int32)), (.int (29 : Int32))]))
  refine Goes.step (fun _ k => XS.iushr X0.here hx rfl (hb hby d4_76) rfl k) ?_
  show Goes _ _ _ _ _ _ _ (s₁.setTop (mkF m 77 #[.val (.int (1 : Int32)), .val (.int (29 : Int32))] [(.int (0 : Int32)), (.int (29 : Int32))]))
  refine Goes.step (fun _ k => XS.isub X0.here hx rfl (hb hby d4_77) rfl k) ?_
  show Goes _ _ _ _ _ _ _ (s₁.setTop (mkF m 78 #[.val (.int (1 : Int32)), .val (.int (29 : Int32))] [(.int (29 : Int32))]))
  exact Goes.ret X0 hx (BodyLoose.notSynchronized Bd) Bd.returns rfl (Or.inl ⟨rfl, by simp, _, rfl⟩) (hb hby d4_78) (by show Q4_5 Z  h0 n0 (some (.int (29 : Int32))) s₁.heap _; rw [e0]; exact ⟨N0, rfl, rfl⟩) (by decide) (by decide)
theorem ef_4_7 (m : MethodId)   : entryFrame m #[(.int (7 : Int32))] 2 = mkF m 0 #[.val (.int (7 : Int32)), .unset] [] := by first | (simp [entryFrame, mkF, argsToLocals, Value.category]; done) | rfl
def Q4_7 (Z : State)  (h0 : Heap) (n0 : Nat) (v : Option Value) (h : Heap) (L : List Loc) : Prop := Fr n0 L ∧ h = h0 ∧ ((v = some (.int (29 : Int32))))
set_option maxRecDepth 65536 in
set_option maxHeartbeats 40000000 in
theorem rm4_7 (l : Launch) (Z : State) (a0 : Array Value) (hw : ∀ d ∈ tables_1, d.before a0 Z = true) (ws : List Jvm.Cond)  (h0 : Heap) (n0 : Nat) (Z0 : n0 ≤ h0.size) :
    MetFree l (⟨"java/lang/Integer", "numberOfLeadingZeros", "(I)I"⟩ : MethodName) (head1 (Jvm.Cond.code (⟨"java/lang/Integer", "numberOfLeadingZeros", "(I)I"⟩ : MethodName) jdk_33_method_47_code 2 (some .int) :: ws) ({ frames := 0, cells := 0, slots := 0, locals := 0 } : Room)) (fun a U => a = #[(.int (7 : Int32))] ∧ Z.Warmed39 U.vm ∧ U.heap = h0) (fun _ _ _ _ _ => True) (fun _ U o U' => ∃ v L, o = .returned v ∧ Q4_7 Z  h0 n0 v U'.heap L ∧ FrameEnd U o U' L ({ frames := 0, cells := 0, slots := 0, locals := 0 } : Room).cells ({ frames := 0, cells := 0, slots := 0, locals := 0 } : Room).slots) := by
  refine MetFree.of_bodySF (plainFor_of_name pn_4) hisR ?_
  intro p e s m args below meth c s₁ Bd hml0 hP hK
  obtain ⟨rfl, hZ, hh⟩ := hP
  have hx := Bd.exec
  have hby := Bd.bytes
  have hml : c.maxLocals = 2 := hml0
  have hown : s.vm.findClass "java/lang/Integer" = some m.cls := findClass_of_methodNamed Bd.named
  have hnm := (name_of_methodNamed Bd.named Bd.method).1
  have X0 : Stand p l e ({ frames := 0, cells := 0, slots := 0, locals := 0 } : Room) s m #[(.int (7 : Int32))] below meth c s₁ [] 0 0 := Stand.of_body Bd
  have e0 : s₁.heap = h0 := by rw [← hh, Bd.state]; rfl
  have N0 := Fr.nil n0
  have K0 : Keep h0 h0 [] := Keep.refl h0 _
  refine (?_ : Goes p e below s ({ frames := 0, cells := 0, slots := 0, locals := 0 } : Room).cells ({ frames := 0, cells := 0, slots := 0, locals := 0 } : Room).slots (fun v h L => Q4_7 Z  h0 n0 v h L) (s₁.setTop (entryFrame m #[(.int (7 : Int32))] 2)))
  rw [ef_4_7 m  ]
  show Goes _ _ _ _ _ _ _ (s₁.setTop (mkF m 0 #[.val (.int (7 : Int32)), .unset] []))
  refine Goes.step (fun _ k => XS.iloadN X0.here hx rfl (hb hby d4_0) rfl  k) ?_
  show Goes _ _ _ _ _ _ _ (s₁.setTop (mkF m 1 #[.val (.int (7 : Int32)), .unset] [(.int (7 : Int32))]))
  refine Goes.step (fun _ k => XS.ifYes X0.here hx rfl (pc0 := 1) (pc' := 15) rfl (hb hby d4_1) rfl ((if0 _ _).trans (tlt (by decide : (0 : Int32) < (7 : Int32))).2.2.1) (by decide) (by decide) k) ?_
  show Goes _ _ _ _ _ _ _ (s₁.setTop (mkF m 15 #[.val (.int (7 : Int32)), .unset] []))
  refine Goes.step (fun _ k => XS.bipush X0.here hx rfl (hb hby d4_15) k) ?_
  show Goes _ _ _ _ _ _ _ (s₁.setTop (mkF m 17 #[.val (.int (7 : Int32)), .unset] [(.int (31 : Int32))]))
  refine Goes.step (fun _ k => XS.istoreN X0.here hx rfl (hb hby d4_17) rfl (l' := #[.val (.int (7 : Int32)), .val (.int (31 : Int32))]) rfl k) ?_
  show Goes _ _ _ _ _ _ _ (s₁.setTop (mkF m 18 #[.val (.int (7 : Int32)), .val (.int (31 : Int32))] []))
  refine Goes.step (fun _ k => XS.iloadN X0.here hx rfl (hb hby d4_18) rfl  k) ?_
  show Goes _ _ _ _ _ _ _ (s₁.setTop (mkF m 19 #[.val (.int (7 : Int32)), .val (.int (31 : Int32))] [(.int (7 : Int32))]))
  refine Goes.step (fun _ k => X0.ldcwInt hx hown (mvT hZ (hw _ (List.mem_of_getElem? (i := 21) rfl))) (g := (mkF m 19 #[.val (.int (7 : Int32)), .val (.int (31 : Int32))] [(.int (7 : Int32))])) rfl (hb hby d4_19) _ k) ?_
  show Goes _ _ _ _ _ _ _ (s₁.setTop (mkF m 22 #[.val (.int (7 : Int32)), .val (.int (31 : Int32))] [(.int (65536 : Int32)), (.int (7 : Int32))]))
  refine Goes.step (fun _ k => XS.icmpYes X0.here hx rfl (pc0 := 22) (pc' := 33) rfl (hb hby d4_22) rfl (tlt (by decide : (7 : Int32) < (65536 : Int32))).1 (by decide) (by decide) k) ?_
  show Goes _ _ _ _ _ _ _ (s₁.setTop (mkF m 33 #[.val (.int (7 : Int32)), .val (.int (31 : Int32))] []))
  refine Goes.step (fun _ k => XS.iloadN X0.here hx rfl (hb hby d4_33) rfl  k) ?_
  show Goes _ _ _ _ _ _ _ (s₁.setTop (mkF m 34 #[.val (.int (7 : Int32)), .val (.int (31 : Int32))] [(.int (7 : Int32))]))
  refine Goes.step (fun _ k => XS.sipush X0.here hx rfl (hb hby d4_34) k) ?_
  show Goes _ _ _ _ _ _ _ (s₁.setTop (mkF m 37 #[.val (.int (7 : Int32)), .val (.int (31 : Int32))] [(.int (256 : Int32)), (.int (7 : Int32))]))
  refine Goes.step (fun _ k => XS.icmpYes X0.here hx rfl (pc0 := 37) (pc' := 48) rfl (hb hby d4_37) rfl (tlt (by decide : (7 : Int32) < (256 : Int32))).1 (by decide) (by decide) k) ?_
  show Goes _ _ _ _ _ _ _ (s₁.setTop (mkF m 48 #[.val (.int (7 : Int32)), .val (.int (31 : Int32))] []))
  refine Goes.step (fun _ k => XS.iloadN X0.here hx rfl (hb hby d4_48) rfl  k) ?_
  show Goes _ _ _ _ _ _ _ (s₁.setTop (mkF m 49 #[.val (.int (7 : Int32)), .val (.int (31 : Int32))] [(.int (7 : Int32))]))
  refine Goes.step (fun _ k => XS.bipush X0.here hx rfl (hb hby d4_49) k) ?_
  show Goes _ _ _ _ _ _ _ (s₁.setTop (mkF m 51 #[.val (.int (7 : Int32)), .val (.int (31 : Int32))] [(.int (16 : Int32)), (.int (7 : Int32))]))
  refine Goes.step (fun _ k => XS.icmpYes X0.here hx rfl (pc0 := 51) (pc' := 61) rfl (hb hby d4_51) rfl (tlt (by decide : (7 : Int32) < (16 : Int32))).1 (by decide) (by decide) k) ?_
  show Goes _ _ _ _ _ _ _ (s₁.setTop (mkF m 61 #[.val (.int (7 : Int32)), .val (.int (31 : Int32))] []))
  refine Goes.step (fun _ k => XS.iloadN X0.here hx rfl (hb hby d4_61) rfl  k) ?_
  show Goes _ _ _ _ _ _ _ (s₁.setTop (mkF m 62 #[.val (.int (7 : Int32)), .val (.int (31 : Int32))] [(.int (7 : Int32))]))
  refine Goes.step (fun _ k => XS.iconst X0.here hx rfl (hb hby d4_62) k) ?_
  show Goes _ _ _ _ _ _ _ (s₁.setTop (mkF m 63 #[.val (.int (7 : Int32)), .val (.int (31 : Int32))] [(.int (4 : Int32)), (.int (7 : Int32))]))
  refine Goes.step (fun _ k => XS.icmpNo X0.here hx rfl (hb hby d4_63) rfl (flt (by decide : ¬ ((7 : Int32) < (4 : Int32)))).1 k) ?_
  show Goes _ _ _ _ _ _ _ (s₁.setTop (mkF m 66 #[.val (.int (7 : Int32)), .val (.int (31 : Int32))] []))
  refine Goes.step (fun _ k => XS.iinc X0.here hx rfl (hb hby d4_66) rfl (l' := #[.val (.int (7 : Int32)), .val (.int (29 : Int32))]) rfl k) ?_
  show Goes _ _ _ _ _ _ _ (s₁.setTop (mkF m 69 #[.val (.int (7 : Int32)), .val (.int (29 : Int32))] []))
  refine Goes.step (fun _ k => XS.iloadN X0.here hx rfl (hb hby d4_69) rfl  k) ?_
  show Goes _ _ _ _ _ _ _ (s₁.setTop (mkF m 70 #[.val (.int (7 : Int32)), .val (.int (29 : Int32))] [(.int (7 : Int32))]))
  refine Goes.step (fun _ k => XS.iconst X0.here hx rfl (hb hby d4_70) k) ?_
  show Goes _ _ _ _ _ _ _ (s₁.setTop (mkF m 71 #[.val (.int (7 : Int32)), .val (.int (29 : Int32))] [(.int (2 : Int32)), (.int (7 : Int32))]))
  refine Goes.step (fun _ k => XS.iushr X0.here hx rfl (hb hby d4_71) rfl k) ?_
  show Goes _ _ _ _ _ _ _ (s₁.setTop (mkF m 72 #[.val (.int (7 : Int32)), .val (.int (29 : Int32))] [(.int (1 : Int32))]))
  refine Goes.step (fun _ k => XS.istoreN X0.here hx rfl (hb hby d4_72) rfl (l' := #[.val (.int (1 : Int32)), .val (.int (29 : Int32))]) rfl k) ?_
  show Goes _ _ _ _ _ _ _ (s₁.setTop (mkF m 73 #[.val (.int (1 : Int32)), .val (.int (29 : Int32))] []))
  refine Goes.step (fun _ k => XS.iloadN X0.here hx rfl (hb hby d4_73) rfl  k) ?_
  show Goes _ _ _ _ _ _ _ (s₁.setTop (mkF m 74 #[.val (.int (1 : Int32)), .val (.int (29 : Int32))] [(.int (29 : Int32))]))
  refine Goes.step (fun _ k => XS.iloadN X0.here hx rfl (hb hby d4_74) rfl  k) ?_
  show Goes _ _ _ _ _ _ _ (s₁.setTop (mkF m 75 #[.val (.int (1 : Int32)), .val (.int (29 : Int32))] [(.int (1 : Int32)), (.int (29 : Int32))]))
  refine Goes.step (fun _ k => XS.iconst X0.here hx rfl (hb hby d4_75) k) ?_
  show Goes _ _ _ _ _ _ _ (s₁.setTop (mkF m 76 #[.val (.int (1 : Int32)), .val (.int (29 : Int32))] [(.int (1 : Int32)), (.int (1 : Int32)), (.int (29 : Int32))]))
  refine Goes.step (fun _ k => XS.iushr X0.here hx rfl (hb hby d4_76) rfl k) ?_
  show Goes _ _ _ _ _ _ _ (s₁.setTop (mkF m 77 #[.val (.int (1 : Int32)), .val (.int (29 : Int32))] [(.int (0 : Int32)), (.int (29 : Int32))]))
  refine Goes.step (fun _ k => XS.isub X0.here hx rfl (hb hby d4_77) rfl k) ?_
  show Goes _ _ _ _ _ _ _ (s₁.setTop (mkF m 78 #[.val (.int (1 : Int32)), .val (.int (29 : Int32))] [(.int (29 : Int32))]))
  exact Goes.ret X0 hx (BodyLoose.notSynchronized Bd) Bd.returns rfl (Or.inl ⟨rfl, by simp, _, rfl⟩) (hb hby d4_78) (by show Q4_7 Z  h0 n0 (some (.int (29 : Int32))) s₁.heap _; rw [e0]; exact ⟨N0, rfl, rfl⟩) (by decide) (by decide)
theorem ef_4_2 (m : MethodId)   : entryFrame m #[(.int (2 : Int32))] 2 = mkF m 0 #[.val (.int (2 : Int32)), .unset] [] := by first | (simp [entryFrame, mkF, argsToLocals, Value.category]; done) | rfl
def Q4_2 (Z : State)  (h0 : Heap) (n0 : Nat) (v : Option Value) (h : Heap) (L : List Loc) : Prop := Fr n0 L ∧ h = h0 ∧ ((v = some (.int (30 : Int32))))
set_option maxRecDepth 65536 in
set_option maxHeartbeats 40000000 in
theorem rm4_2 (l : Launch) (Z : State) (a0 : Array Value) (hw : ∀ d ∈ tables_1, d.before a0 Z = true) (ws : List Jvm.Cond)  (h0 : Heap) (n0 : Nat) (Z0 : n0 ≤ h0.size) :
    MetFree l (⟨"java/lang/Integer", "numberOfLeadingZeros", "(I)I"⟩ : MethodName) (head1 (Jvm.Cond.code (⟨"java/lang/Integer", "numberOfLeadingZeros", "(I)I"⟩ : MethodName) jdk_33_method_47_code 2 (some .int) :: ws) ({ frames := 0, cells := 0, slots := 0, locals := 0 } : Room)) (fun a U => a = #[(.int (2 : Int32))] ∧ Z.Warmed39 U.vm ∧ U.heap = h0) (fun _ _ _ _ _ => True) (fun _ U o U' => ∃ v L, o = .returned v ∧ Q4_2 Z  h0 n0 v U'.heap L ∧ FrameEnd U o U' L ({ frames := 0, cells := 0, slots := 0, locals := 0 } : Room).cells ({ frames := 0, cells := 0, slots := 0, locals := 0 } : Room).slots) := by
  refine MetFree.of_bodySF (plainFor_of_name pn_4) hisR ?_
  intro p e s m args below meth c s₁ Bd hml0 hP hK
  obtain ⟨rfl, hZ, hh⟩ := hP
  have hx := Bd.exec
  have hby := Bd.bytes
  have hml : c.maxLocals = 2 := hml0
  have hown : s.vm.findClass "java/lang/Integer" = some m.cls := findClass_of_methodNamed Bd.named
  have hnm := (name_of_methodNamed Bd.named Bd.method).1
  have X0 : Stand p l e ({ frames := 0, cells := 0, slots := 0, locals := 0 } : Room) s m #[(.int (2 : Int32))] below meth c s₁ [] 0 0 := Stand.of_body Bd
  have e0 : s₁.heap = h0 := by rw [← hh, Bd.state]; rfl
  have N0 := Fr.nil n0
  have K0 : Keep h0 h0 [] := Keep.refl h0 _
  refine (?_ : Goes p e below s ({ frames := 0, cells := 0, slots := 0, locals := 0 } : Room).cells ({ frames := 0, cells := 0, slots := 0, locals := 0 } : Room).slots (fun v h L => Q4_2 Z  h0 n0 v h L) (s₁.setTop (entryFrame m #[(.int (2 : Int32))] 2)))
  rw [ef_4_2 m  ]
  show Goes _ _ _ _ _ _ _ (s₁.setTop (mkF m 0 #[.val (.int (2 : Int32)), .unset] []))
  refine Goes.step (fun _ k => XS.iloadN X0.here hx rfl (hb hby d4_0) rfl  k) ?_
  show Goes _ _ _ _ _ _ _ (s₁.setTop (mkF m 1 #[.val (.int (2 : Int32)), .unset] [(.int (2 : Int32))]))
  refine Goes.step (fun _ k => XS.ifYes X0.here hx rfl (pc0 := 1) (pc' := 15) rfl (hb hby d4_1) rfl ((if0 _ _).trans (tlt (by decide : (0 : Int32) < (2 : Int32))).2.2.1) (by decide) (by decide) k) ?_
  show Goes _ _ _ _ _ _ _ (s₁.setTop (mkF m 15 #[.val (.int (2 : Int32)), .unset] []))
  refine Goes.step (fun _ k => XS.bipush X0.here hx rfl (hb hby d4_15) k) ?_
  show Goes _ _ _ _ _ _ _ (s₁.setTop (mkF m 17 #[.val (.int (2 : Int32)), .unset] [(.int (31 : Int32))]))
  refine Goes.step (fun _ k => XS.istoreN X0.here hx rfl (hb hby d4_17) rfl (l' := #[.val (.int (2 : Int32)), .val (.int (31 : Int32))]) rfl k) ?_
  show Goes _ _ _ _ _ _ _ (s₁.setTop (mkF m 18 #[.val (.int (2 : Int32)), .val (.int (31 : Int32))] []))
  refine Goes.step (fun _ k => XS.iloadN X0.here hx rfl (hb hby d4_18) rfl  k) ?_
  show Goes _ _ _ _ _ _ _ (s₁.setTop (mkF m 19 #[.val (.int (2 : Int32)), .val (.int (31 : Int32))] [(.int (2 : Int32))]))
  refine Goes.step (fun _ k => X0.ldcwInt hx hown (mvT hZ (hw _ (List.mem_of_getElem? (i := 21) rfl))) (g := (mkF m 19 #[.val (.int (2 : Int32)), .val (.int (31 : Int32))] [(.int (2 : Int32))])) rfl (hb hby d4_19) _ k) ?_
  show Goes _ _ _ _ _ _ _ (s₁.setTop (mkF m 22 #[.val (.int (2 : Int32)), .val (.int (31 : Int32))] [(.int (65536 : Int32)), (.int (2 : Int32))]))
  refine Goes.step (fun _ k => XS.icmpYes X0.here hx rfl (pc0 := 22) (pc' := 33) rfl (hb hby d4_22) rfl (tlt (by decide : (2 : Int32) < (65536 : Int32))).1 (by decide) (by decide) k) ?_
  show Goes _ _ _ _ _ _ _ (s₁.setTop (mkF m 33 #[.val (.int (2 : Int32)), .val (.int (31 : Int32))] []))
  refine Goes.step (fun _ k => XS.iloadN X0.here hx rfl (hb hby d4_33) rfl  k) ?_
  show Goes _ _ _ _ _ _ _ (s₁.setTop (mkF m 34 #[.val (.int (2 : Int32)), .val (.int (31 : Int32))] [(.int (2 : Int32))]))
  refine Goes.step (fun _ k => XS.sipush X0.here hx rfl (hb hby d4_34) k) ?_
  show Goes _ _ _ _ _ _ _ (s₁.setTop (mkF m 37 #[.val (.int (2 : Int32)), .val (.int (31 : Int32))] [(.int (256 : Int32)), (.int (2 : Int32))]))
  refine Goes.step (fun _ k => XS.icmpYes X0.here hx rfl (pc0 := 37) (pc' := 48) rfl (hb hby d4_37) rfl (tlt (by decide : (2 : Int32) < (256 : Int32))).1 (by decide) (by decide) k) ?_
  show Goes _ _ _ _ _ _ _ (s₁.setTop (mkF m 48 #[.val (.int (2 : Int32)), .val (.int (31 : Int32))] []))
  refine Goes.step (fun _ k => XS.iloadN X0.here hx rfl (hb hby d4_48) rfl  k) ?_
  show Goes _ _ _ _ _ _ _ (s₁.setTop (mkF m 49 #[.val (.int (2 : Int32)), .val (.int (31 : Int32))] [(.int (2 : Int32))]))
  refine Goes.step (fun _ k => XS.bipush X0.here hx rfl (hb hby d4_49) k) ?_
  show Goes _ _ _ _ _ _ _ (s₁.setTop (mkF m 51 #[.val (.int (2 : Int32)), .val (.int (31 : Int32))] [(.int (16 : Int32)), (.int (2 : Int32))]))
  refine Goes.step (fun _ k => XS.icmpYes X0.here hx rfl (pc0 := 51) (pc' := 61) rfl (hb hby d4_51) rfl (tlt (by decide : (2 : Int32) < (16 : Int32))).1 (by decide) (by decide) k) ?_
  show Goes _ _ _ _ _ _ _ (s₁.setTop (mkF m 61 #[.val (.int (2 : Int32)), .val (.int (31 : Int32))] []))
  refine Goes.step (fun _ k => XS.iloadN X0.here hx rfl (hb hby d4_61) rfl  k) ?_
  show Goes _ _ _ _ _ _ _ (s₁.setTop (mkF m 62 #[.val (.int (2 : Int32)), .val (.int (31 : Int32))] [(.int (2 : Int32))]))
  refine Goes.step (fun _ k => XS.iconst X0.here hx rfl (hb hby d4_62) k) ?_
  show Goes _ _ _ _ _ _ _ (s₁.setTop (mkF m 63 #[.val (.int (2 : Int32)), .val (.int (31 : Int32))] [(.int (4 : Int32)), (.int (2 : Int32))]))
  refine Goes.step (fun _ k => XS.icmpYes X0.here hx rfl (pc0 := 63) (pc' := 73) rfl (hb hby d4_63) rfl (tlt (by decide : (2 : Int32) < (4 : Int32))).1 (by decide) (by decide) k) ?_
  show Goes _ _ _ _ _ _ _ (s₁.setTop (mkF m 73 #[.val (.int (2 : Int32)), .val (.int (31 : Int32))] []))
  refine Goes.step (fun _ k => XS.iloadN X0.here hx rfl (hb hby d4_73) rfl  k) ?_
  show Goes _ _ _ _ _ _ _ (s₁.setTop (mkF m 74 #[.val (.int (2 : Int32)), .val (.int (31 : Int32))] [(.int (31 : Int32))]))
  refine Goes.step (fun _ k => XS.iloadN X0.here hx rfl (hb hby d4_74) rfl  k) ?_
  show Goes _ _ _ _ _ _ _ (s₁.setTop (mkF m 75 #[.val (.int (2 : Int32)), .val (.int (31 : Int32))] [(.int (2 : Int32)), (.int (31 : Int32))]))
  refine Goes.step (fun _ k => XS.iconst X0.here hx rfl (hb hby d4_75) k) ?_
  show Goes _ _ _ _ _ _ _ (s₁.setTop (mkF m 76 #[.val (.int (2 : Int32)), .val (.int (31 : Int32))] [(.int (1 : Int32)), (.int (2 : Int32)), (.int (31 : Int32))]))
  refine Goes.step (fun _ k => XS.iushr X0.here hx rfl (hb hby d4_76) rfl k) ?_
  show Goes _ _ _ _ _ _ _ (s₁.setTop (mkF m 77 #[.val (.int (2 : Int32)), .val (.int (31 : Int32))] [(.int (1 : Int32)), (.int (31 : Int32))]))
  refine Goes.step (fun _ k => XS.isub X0.here hx rfl (hb hby d4_77) rfl k) ?_
  show Goes _ _ _ _ _ _ _ (s₁.setTop (mkF m 78 #[.val (.int (2 : Int32)), .val (.int (31 : Int32))] [(.int (30 : Int32))]))
  exact Goes.ret X0 hx (BodyLoose.notSynchronized Bd) Bd.returns rfl (Or.inl ⟨rfl, by simp, _, rfl⟩) (hb hby d4_78) (by show Q4_2 Z  h0 n0 (some (.int (30 : Int32))) s₁.heap _; rw [e0]; exact ⟨N0, rfl, rfl⟩) (by decide) (by decide)
theorem ef_4_4 (m : MethodId)   : entryFrame m #[(.int (4 : Int32))] 2 = mkF m 0 #[.val (.int (4 : Int32)), .unset] [] := by first | (simp [entryFrame, mkF, argsToLocals, Value.category]; done) | rfl
def Q4_4 (Z : State)  (h0 : Heap) (n0 : Nat) (v : Option Value) (h : Heap) (L : List Loc) : Prop := Fr n0 L ∧ h = h0 ∧ ((v = some (.int (29 : Int32))))
set_option maxRecDepth 65536 in
set_option maxHeartbeats 40000000 in
theorem rm4_4 (l : Launch) (Z : State) (a0 : Array Value) (hw : ∀ d ∈ tables_1, d.before a0 Z = true) (ws : List Jvm.Cond)  (h0 : Heap) (n0 : Nat) (Z0 : n0 ≤ h0.size) :
    MetFree l (⟨"java/lang/Integer", "numberOfLeadingZeros", "(I)I"⟩ : MethodName) (head1 (Jvm.Cond.code (⟨"java/lang/Integer", "numberOfLeadingZeros", "(I)I"⟩ : MethodName) jdk_33_method_47_code 2 (some .int) :: ws) ({ frames := 0, cells := 0, slots := 0, locals := 0 } : Room)) (fun a U => a = #[(.int (4 : Int32))] ∧ Z.Warmed39 U.vm ∧ U.heap = h0) (fun _ _ _ _ _ => True) (fun _ U o U' => ∃ v L, o = .returned v ∧ Q4_4 Z  h0 n0 v U'.heap L ∧ FrameEnd U o U' L ({ frames := 0, cells := 0, slots := 0, locals := 0 } : Room).cells ({ frames := 0, cells := 0, slots := 0, locals := 0 } : Room).slots) := by
  refine MetFree.of_bodySF (plainFor_of_name pn_4) hisR ?_
  intro p e s m args below meth c s₁ Bd hml0 hP hK
  obtain ⟨rfl, hZ, hh⟩ := hP
  have hx := Bd.exec
  have hby := Bd.bytes
  have hml : c.maxLocals = 2 := hml0
  have hown : s.vm.findClass "java/lang/Integer" = some m.cls := findClass_of_methodNamed Bd.named
  have hnm := (name_of_methodNamed Bd.named Bd.method).1
  have X0 : Stand p l e ({ frames := 0, cells := 0, slots := 0, locals := 0 } : Room) s m #[(.int (4 : Int32))] below meth c s₁ [] 0 0 := Stand.of_body Bd
  have e0 : s₁.heap = h0 := by rw [← hh, Bd.state]; rfl
  have N0 := Fr.nil n0
  have K0 : Keep h0 h0 [] := Keep.refl h0 _
  refine (?_ : Goes p e below s ({ frames := 0, cells := 0, slots := 0, locals := 0 } : Room).cells ({ frames := 0, cells := 0, slots := 0, locals := 0 } : Room).slots (fun v h L => Q4_4 Z  h0 n0 v h L) (s₁.setTop (entryFrame m #[(.int (4 : Int32))] 2)))
  rw [ef_4_4 m  ]
  show Goes _ _ _ _ _ _ _ (s₁.setTop (mkF m 0 #[.val (.int (4 : Int32)), .unset] []))
  refine Goes.step (fun _ k => XS.iloadN X0.here hx rfl (hb hby d4_0) rfl  k) ?_
  show Goes _ _ _ _ _ _ _ (s₁.setTop (mkF m 1 #[.val (.int (4 : Int32)), .unset] [(.int (4 : Int32))]))
  refine Goes.step (fun _ k => XS.ifYes X0.here hx rfl (pc0 := 1) (pc' := 15) rfl (hb hby d4_1) rfl ((if0 _ _).trans (tlt (by decide : (0 : Int32) < (4 : Int32))).2.2.1) (by decide) (by decide) k) ?_
  show Goes _ _ _ _ _ _ _ (s₁.setTop (mkF m 15 #[.val (.int (4 : Int32)), .unset] []))
  refine Goes.step (fun _ k => XS.bipush X0.here hx rfl (hb hby d4_15) k) ?_
  show Goes _ _ _ _ _ _ _ (s₁.setTop (mkF m 17 #[.val (.int (4 : Int32)), .unset] [(.int (31 : Int32))]))
  refine Goes.step (fun _ k => XS.istoreN X0.here hx rfl (hb hby d4_17) rfl (l' := #[.val (.int (4 : Int32)), .val (.int (31 : Int32))]) rfl k) ?_
  show Goes _ _ _ _ _ _ _ (s₁.setTop (mkF m 18 #[.val (.int (4 : Int32)), .val (.int (31 : Int32))] []))
  refine Goes.step (fun _ k => XS.iloadN X0.here hx rfl (hb hby d4_18) rfl  k) ?_
  show Goes _ _ _ _ _ _ _ (s₁.setTop (mkF m 19 #[.val (.int (4 : Int32)), .val (.int (31 : Int32))] [(.int (4 : Int32))]))
  refine Goes.step (fun _ k => X0.ldcwInt hx hown (mvT hZ (hw _ (List.mem_of_getElem? (i := 21) rfl))) (g := (mkF m 19 #[.val (.int (4 : Int32)), .val (.int (31 : Int32))] [(.int (4 : Int32))])) rfl (hb hby d4_19) _ k) ?_
  show Goes _ _ _ _ _ _ _ (s₁.setTop (mkF m 22 #[.val (.int (4 : Int32)), .val (.int (31 : Int32))] [(.int (65536 : Int32)), (.int (4 : Int32))]))
  refine Goes.step (fun _ k => XS.icmpYes X0.here hx rfl (pc0 := 22) (pc' := 33) rfl (hb hby d4_22) rfl (tlt (by decide : (4 : Int32) < (65536 : Int32))).1 (by decide) (by decide) k) ?_
  show Goes _ _ _ _ _ _ _ (s₁.setTop (mkF m 33 #[.val (.int (4 : Int32)), .val (.int (31 : Int32))] []))
  refine Goes.step (fun _ k => XS.iloadN X0.here hx rfl (hb hby d4_33) rfl  k) ?_
  show Goes _ _ _ _ _ _ _ (s₁.setTop (mkF m 34 #[.val (.int (4 : Int32)), .val (.int (31 : Int32))] [(.int (4 : Int32))]))
  refine Goes.step (fun _ k => XS.sipush X0.here hx rfl (hb hby d4_34) k) ?_
  show Goes _ _ _ _ _ _ _ (s₁.setTop (mkF m 37 #[.val (.int (4 : Int32)), .val (.int (31 : Int32))] [(.int (256 : Int32)), (.int (4 : Int32))]))
  refine Goes.step (fun _ k => XS.icmpYes X0.here hx rfl (pc0 := 37) (pc' := 48) rfl (hb hby d4_37) rfl (tlt (by decide : (4 : Int32) < (256 : Int32))).1 (by decide) (by decide) k) ?_
  show Goes _ _ _ _ _ _ _ (s₁.setTop (mkF m 48 #[.val (.int (4 : Int32)), .val (.int (31 : Int32))] []))
  refine Goes.step (fun _ k => XS.iloadN X0.here hx rfl (hb hby d4_48) rfl  k) ?_
  show Goes _ _ _ _ _ _ _ (s₁.setTop (mkF m 49 #[.val (.int (4 : Int32)), .val (.int (31 : Int32))] [(.int (4 : Int32))]))
  refine Goes.step (fun _ k => XS.bipush X0.here hx rfl (hb hby d4_49) k) ?_
  show Goes _ _ _ _ _ _ _ (s₁.setTop (mkF m 51 #[.val (.int (4 : Int32)), .val (.int (31 : Int32))] [(.int (16 : Int32)), (.int (4 : Int32))]))
  refine Goes.step (fun _ k => XS.icmpYes X0.here hx rfl (pc0 := 51) (pc' := 61) rfl (hb hby d4_51) rfl (tlt (by decide : (4 : Int32) < (16 : Int32))).1 (by decide) (by decide) k) ?_
  show Goes _ _ _ _ _ _ _ (s₁.setTop (mkF m 61 #[.val (.int (4 : Int32)), .val (.int (31 : Int32))] []))
  refine Goes.step (fun _ k => XS.iloadN X0.here hx rfl (hb hby d4_61) rfl  k) ?_
  show Goes _ _ _ _ _ _ _ (s₁.setTop (mkF m 62 #[.val (.int (4 : Int32)), .val (.int (31 : Int32))] [(.int (4 : Int32))]))
  refine Goes.step (fun _ k => XS.iconst X0.here hx rfl (hb hby d4_62) k) ?_
  show Goes _ _ _ _ _ _ _ (s₁.setTop (mkF m 63 #[.val (.int (4 : Int32)), .val (.int (31 : Int32))] [(.int (4 : Int32)), (.int (4 : Int32))]))
  refine Goes.step (fun _ k => XS.icmpNo X0.here hx rfl (hb hby d4_63) rfl (flt (by decide : ¬ ((4 : Int32) < (4 : Int32)))).1 k) ?_
  show Goes _ _ _ _ _ _ _ (s₁.setTop (mkF m 66 #[.val (.int (4 : Int32)), .val (.int (31 : Int32))] []))
  refine Goes.step (fun _ k => XS.iinc X0.here hx rfl (hb hby d4_66) rfl (l' := #[.val (.int (4 : Int32)), .val (.int (29 : Int32))]) rfl k) ?_
  show Goes _ _ _ _ _ _ _ (s₁.setTop (mkF m 69 #[.val (.int (4 : Int32)), .val (.int (29 : Int32))] []))
  refine Goes.step (fun _ k => XS.iloadN X0.here hx rfl (hb hby d4_69) rfl  k) ?_
  show Goes _ _ _ _ _ _ _ (s₁.setTop (mkF m 70 #[.val (.int (4 : Int32)), .val (.int (29 : Int32))] [(.int (4 : Int32))]))
  refine Goes.step (fun _ k => XS.iconst X0.here hx rfl (hb hby d4_70) k) ?_
  show Goes _ _ _ _ _ _ _ (s₁.setTop (mkF m 71 #[.val (.int (4 : Int32)), .val (.int (29 : Int32))] [(.int (2 : Int32)), (.int (4 : Int32))]))
  refine Goes.step (fun _ k => XS.iushr X0.here hx rfl (hb hby d4_71) rfl k) ?_
  show Goes _ _ _ _ _ _ _ (s₁.setTop (mkF m 72 #[.val (.int (4 : Int32)), .val (.int (29 : Int32))] [(.int (1 : Int32))]))
  refine Goes.step (fun _ k => XS.istoreN X0.here hx rfl (hb hby d4_72) rfl (l' := #[.val (.int (1 : Int32)), .val (.int (29 : Int32))]) rfl k) ?_
  show Goes _ _ _ _ _ _ _ (s₁.setTop (mkF m 73 #[.val (.int (1 : Int32)), .val (.int (29 : Int32))] []))
  refine Goes.step (fun _ k => XS.iloadN X0.here hx rfl (hb hby d4_73) rfl  k) ?_
  show Goes _ _ _ _ _ _ _ (s₁.setTop (mkF m 74 #[.val (.int (1 : Int32)), .val (.int (29 : Int32))] [(.int (29 : Int32))]))
  refine Goes.step (fun _ k => XS.iloadN X0.here hx rfl (hb hby d4_74) rfl  k) ?_
  show Goes _ _ _ _ _ _ _ (s₁.setTop (mkF m 75 #[.val (.int (1 : Int32)), .val (.int (29 : Int32))] [(.int (1 : Int32)), (.int (29 : Int32))]))
  refine Goes.step (fun _ k => XS.iconst X0.here hx rfl (hb hby d4_75) k) ?_
  show Goes _ _ _ _ _ _ _ (s₁.setTop (mkF m 76 #[.val (.int (1 : Int32)), .val (.int (29 : Int32))] [(.int (1 : Int32)), (.int (1 : Int32)), (.int (29 : Int32))]))
  refine Goes.step (fun _ k => XS.iushr X0.here hx rfl (hb hby d4_76) rfl k) ?_
  show Goes _ _ _ _ _ _ _ (s₁.setTop (mkF m 77 #[.val (.int (1 : Int32)), .val (.int (29 : Int32))] [(.int (0 : Int32)), (.int (29 : Int32))]))
  refine Goes.step (fun _ k => XS.isub X0.here hx rfl (hb hby d4_77) rfl k) ?_
  show Goes _ _ _ _ _ _ _ (s₁.setTop (mkF m 78 #[.val (.int (1 : Int32)), .val (.int (29 : Int32))] [(.int (29 : Int32))]))
  exact Goes.ret X0 hx (BodyLoose.notSynchronized Bd) Bd.returns rfl (Or.inl ⟨rfl, by simp, _, rfl⟩) (hb hby d4_78) (by show Q4_4 Z  h0 n0 (some (.int (29 : Int32))) s₁.heap _; rw [e0]; exact ⟨N0, rfl, rfl⟩) (by decide) (by decide)
theorem ef_4_8 (m : MethodId)   : entryFrame m #[(.int (8 : Int32))] 2 = mkF m 0 #[.val (.int (8 : Int32)), .unset] [] := by first | (simp [entryFrame, mkF, argsToLocals, Value.category]; done) | rfl
def Q4_8 (Z : State)  (h0 : Heap) (n0 : Nat) (v : Option Value) (h : Heap) (L : List Loc) : Prop := Fr n0 L ∧ h = h0 ∧ ((v = some (.int (28 : Int32))))
set_option maxRecDepth 65536 in
set_option maxHeartbeats 40000000 in
theorem rm4_8 (l : Launch) (Z : State) (a0 : Array Value) (hw : ∀ d ∈ tables_1, d.before a0 Z = true) (ws : List Jvm.Cond)  (h0 : Heap) (n0 : Nat) (Z0 : n0 ≤ h0.size) :
    MetFree l (⟨"java/lang/Integer", "numberOfLeadingZeros", "(I)I"⟩ : MethodName) (head1 (Jvm.Cond.code (⟨"java/lang/Integer", "numberOfLeadingZeros", "(I)I"⟩ : MethodName) jdk_33_method_47_code 2 (some .int) :: ws) ({ frames := 0, cells := 0, slots := 0, locals := 0 } : Room)) (fun a U => a = #[(.int (8 : Int32))] ∧ Z.Warmed39 U.vm ∧ U.heap = h0) (fun _ _ _ _ _ => True) (fun _ U o U' => ∃ v L, o = .returned v ∧ Q4_8 Z  h0 n0 v U'.heap L ∧ FrameEnd U o U' L ({ frames := 0, cells := 0, slots := 0, locals := 0 } : Room).cells ({ frames := 0, cells := 0, slots := 0, locals := 0 } : Room).slots) := by
  refine MetFree.of_bodySF (plainFor_of_name pn_4) hisR ?_
  intro p e s m args below meth c s₁ Bd hml0 hP hK
  obtain ⟨rfl, hZ, hh⟩ := hP
  have hx := Bd.exec
  have hby := Bd.bytes
  have hml : c.maxLocals = 2 := hml0
  have hown : s.vm.findClass "java/lang/Integer" = some m.cls := findClass_of_methodNamed Bd.named
  have hnm := (name_of_methodNamed Bd.named Bd.method).1
  have X0 : Stand p l e ({ frames := 0, cells := 0, slots := 0, locals := 0 } : Room) s m #[(.int (8 : Int32))] below meth c s₁ [] 0 0 := Stand.of_body Bd
  have e0 : s₁.heap = h0 := by rw [← hh, Bd.state]; rfl
  have N0 := Fr.nil n0
  have K0 : Keep h0 h0 [] := Keep.refl h0 _
  refine (?_ : Goes p e below s ({ frames := 0, cells := 0, slots := 0, locals := 0 } : Room).cells ({ frames := 0, cells := 0, slots := 0, locals := 0 } : Room).slots (fun v h L => Q4_8 Z  h0 n0 v h L) (s₁.setTop (entryFrame m #[(.int (8 : Int32))] 2)))
  rw [ef_4_8 m  ]
  show Goes _ _ _ _ _ _ _ (s₁.setTop (mkF m 0 #[.val (.int (8 : Int32)), .unset] []))
  refine Goes.step (fun _ k => XS.iloadN X0.here hx rfl (hb hby d4_0) rfl  k) ?_
  show Goes _ _ _ _ _ _ _ (s₁.setTop (mkF m 1 #[.val (.int (8 : Int32)), .unset] [(.int (8 : Int32))]))
  refine Goes.step (fun _ k => XS.ifYes X0.here hx rfl (pc0 := 1) (pc' := 15) rfl (hb hby d4_1) rfl ((if0 _ _).trans (tlt (by decide : (0 : Int32) < (8 : Int32))).2.2.1) (by decide) (by decide) k) ?_
  show Goes _ _ _ _ _ _ _ (s₁.setTop (mkF m 15 #[.val (.int (8 : Int32)), .unset] []))
  refine Goes.step (fun _ k => XS.bipush X0.here hx rfl (hb hby d4_15) k) ?_
  show Goes _ _ _ _ _ _ _ (s₁.setTop (mkF m 17 #[.val (.int (8 : Int32)), .unset] [(.int (31 : Int32))]))
  refine Goes.step (fun _ k => XS.istoreN X0.here hx rfl (hb hby d4_17) rfl (l' := #[.val (.int (8 : Int32)), .val (.int (31 : Int32))]) rfl k) ?_
  show Goes _ _ _ _ _ _ _ (s₁.setTop (mkF m 18 #[.val (.int (8 : Int32)), .val (.int (31 : Int32))] []))
  refine Goes.step (fun _ k => XS.iloadN X0.here hx rfl (hb hby d4_18) rfl  k) ?_
  show Goes _ _ _ _ _ _ _ (s₁.setTop (mkF m 19 #[.val (.int (8 : Int32)), .val (.int (31 : Int32))] [(.int (8 : Int32))]))
  refine Goes.step (fun _ k => X0.ldcwInt hx hown (mvT hZ (hw _ (List.mem_of_getElem? (i := 21) rfl))) (g := (mkF m 19 #[.val (.int (8 : Int32)), .val (.int (31 : Int32))] [(.int (8 : Int32))])) rfl (hb hby d4_19) _ k) ?_
  show Goes _ _ _ _ _ _ _ (s₁.setTop (mkF m 22 #[.val (.int (8 : Int32)), .val (.int (31 : Int32))] [(.int (65536 : Int32)), (.int (8 : Int32))]))
  refine Goes.step (fun _ k => XS.icmpYes X0.here hx rfl (pc0 := 22) (pc' := 33) rfl (hb hby d4_22) rfl (tlt (by decide : (8 : Int32) < (65536 : Int32))).1 (by decide) (by decide) k) ?_
  show Goes _ _ _ _ _ _ _ (s₁.setTop (mkF m 33 #[.val (.int (8 : Int32)), .val (.int (31 : Int32))] []))
  refine Goes.step (fun _ k => XS.iloadN X0.here hx rfl (hb hby d4_33) rfl  k) ?_
  show Goes _ _ _ _ _ _ _ (s₁.setTop (mkF m 34 #[.val (.int (8 : Int32)), .val (.int (31 : Int32))] [(.int (8 : Int32))]))
  refine Goes.step (fun _ k => XS.sipush X0.here hx rfl (hb hby d4_34) k) ?_
  show Goes _ _ _ _ _ _ _ (s₁.setTop (mkF m 37 #[.val (.int (8 : Int32)), .val (.int (31 : Int32))] [(.int (256 : Int32)), (.int (8 : Int32))]))
  refine Goes.step (fun _ k => XS.icmpYes X0.here hx rfl (pc0 := 37) (pc' := 48) rfl (hb hby d4_37) rfl (tlt (by decide : (8 : Int32) < (256 : Int32))).1 (by decide) (by decide) k) ?_
  show Goes _ _ _ _ _ _ _ (s₁.setTop (mkF m 48 #[.val (.int (8 : Int32)), .val (.int (31 : Int32))] []))
  refine Goes.step (fun _ k => XS.iloadN X0.here hx rfl (hb hby d4_48) rfl  k) ?_
  show Goes _ _ _ _ _ _ _ (s₁.setTop (mkF m 49 #[.val (.int (8 : Int32)), .val (.int (31 : Int32))] [(.int (8 : Int32))]))
  refine Goes.step (fun _ k => XS.bipush X0.here hx rfl (hb hby d4_49) k) ?_
  show Goes _ _ _ _ _ _ _ (s₁.setTop (mkF m 51 #[.val (.int (8 : Int32)), .val (.int (31 : Int32))] [(.int (16 : Int32)), (.int (8 : Int32))]))
  refine Goes.step (fun _ k => XS.icmpYes X0.here hx rfl (pc0 := 51) (pc' := 61) rfl (hb hby d4_51) rfl (tlt (by decide : (8 : Int32) < (16 : Int32))).1 (by decide) (by decide) k) ?_
  show Goes _ _ _ _ _ _ _ (s₁.setTop (mkF m 61 #[.val (.int (8 : Int32)), .val (.int (31 : Int32))] []))
  refine Goes.step (fun _ k => XS.iloadN X0.here hx rfl (hb hby d4_61) rfl  k) ?_
  show Goes _ _ _ _ _ _ _ (s₁.setTop (mkF m 62 #[.val (.int (8 : Int32)), .val (.int (31 : Int32))] [(.int (8 : Int32))]))
  refine Goes.step (fun _ k => XS.iconst X0.here hx rfl (hb hby d4_62) k) ?_
  show Goes _ _ _ _ _ _ _ (s₁.setTop (mkF m 63 #[.val (.int (8 : Int32)), .val (.int (31 : Int32))] [(.int (4 : Int32)), (.int (8 : Int32))]))
  refine Goes.step (fun _ k => XS.icmpNo X0.here hx rfl (hb hby d4_63) rfl (flt (by decide : ¬ ((8 : Int32) < (4 : Int32)))).1 k) ?_
  show Goes _ _ _ _ _ _ _ (s₁.setTop (mkF m 66 #[.val (.int (8 : Int32)), .val (.int (31 : Int32))] []))
  refine Goes.step (fun _ k => XS.iinc X0.here hx rfl (hb hby d4_66) rfl (l' := #[.val (.int (8 : Int32)), .val (.int (29 : Int32))]) rfl k) ?_
  show Goes _ _ _ _ _ _ _ (s₁.setTop (mkF m 69 #[.val (.int (8 : Int32)), .val (.int (29 : Int32))] []))
  refine Goes.step (fun _ k => XS.iloadN X0.here hx rfl (hb hby d4_69) rfl  k) ?_
  show Goes _ _ _ _ _ _ _ (s₁.setTop (mkF m 70 #[.val (.int (8 : Int32)), .val (.int (29 : Int32))] [(.int (8 : Int32))]))
  refine Goes.step (fun _ k => XS.iconst X0.here hx rfl (hb hby d4_70) k) ?_
  show Goes _ _ _ _ _ _ _ (s₁.setTop (mkF m 71 #[.val (.int (8 : Int32)), .val (.int (29 : Int32))] [(.int (2 : Int32)), (.int (8 : Int32))]))
  refine Goes.step (fun _ k => XS.iushr X0.here hx rfl (hb hby d4_71) rfl k) ?_
  show Goes _ _ _ _ _ _ _ (s₁.setTop (mkF m 72 #[.val (.int (8 : Int32)), .val (.int (29 : Int32))] [(.int (2 : Int32))]))
  refine Goes.step (fun _ k => XS.istoreN X0.here hx rfl (hb hby d4_72) rfl (l' := #[.val (.int (2 : Int32)), .val (.int (29 : Int32))]) rfl k) ?_
  show Goes _ _ _ _ _ _ _ (s₁.setTop (mkF m 73 #[.val (.int (2 : Int32)), .val (.int (29 : Int32))] []))
  refine Goes.step (fun _ k => XS.iloadN X0.here hx rfl (hb hby d4_73) rfl  k) ?_
  show Goes _ _ _ _ _ _ _ (s₁.setTop (mkF m 74 #[.val (.int (2 : Int32)), .val (.int (29 : Int32))] [(.int (29 : Int32))]))
  refine Goes.step (fun _ k => XS.iloadN X0.here hx rfl (hb hby d4_74) rfl  k) ?_
  show Goes _ _ _ _ _ _ _ (s₁.setTop (mkF m 75 #[.val (.int (2 : Int32)), .val (.int (29 : Int32))] [(.int (2 : Int32)), (.int (29 : Int32))]))
  refine Goes.step (fun _ k => XS.iconst X0.here hx rfl (hb hby d4_75) k) ?_
  show Goes _ _ _ _ _ _ _ (s₁.setTop (mkF m 76 #[.val (.int (2 : Int32)), .val (.int (29 : Int32))] [(.int (1 : Int32)), (.int (2 : Int32)), (.int (29 : Int32))]))
  refine Goes.step (fun _ k => XS.iushr X0.here hx rfl (hb hby d4_76) rfl k) ?_
  show Goes _ _ _ _ _ _ _ (s₁.setTop (mkF m 77 #[.val (.int (2 : Int32)), .val (.int (29 : Int32))] [(.int (1 : Int32)), (.int (29 : Int32))]))
  refine Goes.step (fun _ k => XS.isub X0.here hx rfl (hb hby d4_77) rfl k) ?_
  show Goes _ _ _ _ _ _ _ (s₁.setTop (mkF m 78 #[.val (.int (2 : Int32)), .val (.int (29 : Int32))] [(.int (28 : Int32))]))
  exact Goes.ret X0 hx (BodyLoose.notSynchronized Bd) Bd.returns rfl (Or.inl ⟨rfl, by simp, _, rfl⟩) (hb hby d4_78) (by show Q4_8 Z  h0 n0 (some (.int (28 : Int32))) s₁.heap _; rw [e0]; exact ⟨N0, rfl, rfl⟩) (by decide) (by decide)
theorem d3_0 : decode jdk_33_method_45_code 0 = .ok (.iload_n 0, 1) := by decide +kernel
theorem d3_1 : decode jdk_33_method_45_code 1 = .ok (.ldc 127, 2) := by decide +kernel
theorem d3_3 : decode jdk_33_method_45_code 3 = .ok (.iload_n 0, 1) := by decide +kernel
theorem d3_4 : decode jdk_33_method_45_code 4 = .ok (.invokestatic 51, 3) := by decide +kernel
theorem d3_7 : decode jdk_33_method_45_code 7 = .ok (.iushr, 1) := by decide +kernel
theorem d3_8 : decode jdk_33_method_45_code 8 = .ok (.iand, 1) := by decide +kernel
theorem d3_9 : decode jdk_33_method_45_code 9 = .ok (.ireturn, 1) := by decide +kernel
theorem pn_3 : plainName "java/lang/Integer" = true := by first | (simp [plainName, overriddenIn]; done) | decide +kernel
theorem ef_3_1 (m : MethodId)   : entryFrame m #[(.int (1 : Int32))] 1 = mkF m 0 #[.val (.int (1 : Int32))] [] := by first | (simp [entryFrame, mkF, argsToLocals, Value.category]; done) | rfl
def Q3_1 (Z : State)  (h0 : Heap) (n0 : Nat) (v : Option Value) (h : Heap) (L : List Loc) : Prop := Fr n0 L ∧ h = h0 ∧ ((v = some (.int (1 : Int32))))
set_option maxRecDepth 65536 in
set_option maxHeartbeats 40000000 in
theorem rm3_1 (l : Launch) (Z : State) (a0 : Array Value) (hw : ∀ d ∈ tables_1, d.before a0 Z = true) (ws : List Jvm.Cond)  (h0 : Heap) (n0 : Nat) (Z0 : n0 ≤ h0.size) :
    MetFree l (⟨"java/lang/Integer", "highestOneBit", "(I)I"⟩ : MethodName) (head1 (Jvm.Cond.code (⟨"java/lang/Integer", "highestOneBit", "(I)I"⟩ : MethodName) jdk_33_method_45_code 1 (some .int) :: ws) ({ frames := 1, cells := 0, slots := 0, locals := 15 } : Room)) (fun a U => a = #[(.int (1 : Int32))] ∧ Z.Warmed39 U.vm ∧ U.heap = h0) (fun _ _ _ _ _ => True) (fun _ U o U' => ∃ v L, o = .returned v ∧ Q3_1 Z  h0 n0 v U'.heap L ∧ FrameEnd U o U' L ({ frames := 1, cells := 0, slots := 0, locals := 15 } : Room).cells ({ frames := 1, cells := 0, slots := 0, locals := 15 } : Room).slots) := by
  refine MetFree.of_bodySF (plainFor_of_name pn_3) hisR ?_
  intro p e s m args below meth c s₁ Bd hml0 hP hK
  obtain ⟨rfl, hZ, hh⟩ := hP
  have hx := Bd.exec
  have hby := Bd.bytes
  have hml : c.maxLocals = 1 := hml0
  have hown : s.vm.findClass "java/lang/Integer" = some m.cls := findClass_of_methodNamed Bd.named
  have hnm := (name_of_methodNamed Bd.named Bd.method).1
  have X0 : Stand p l e ({ frames := 1, cells := 0, slots := 0, locals := 15 } : Room) s m #[(.int (1 : Int32))] below meth c s₁ [] 0 0 := Stand.of_body Bd
  have e0 : s₁.heap = h0 := by rw [← hh, Bd.state]; rfl
  have N0 := Fr.nil n0
  have K0 : Keep h0 h0 [] := Keep.refl h0 _
  refine (?_ : Goes p e below s ({ frames := 1, cells := 0, slots := 0, locals := 15 } : Room).cells ({ frames := 1, cells := 0, slots := 0, locals := 15 } : Room).slots (fun v h L => Q3_1 Z  h0 n0 v h L) (s₁.setTop (entryFrame m #[(.int (1 : Int32))] 1)))
  rw [ef_3_1 m  ]
  show Goes _ _ _ _ _ _ _ (s₁.setTop (mkF m 0 #[.val (.int (1 : Int32))] []))
  refine Goes.step (fun _ k => XS.iloadN X0.here hx rfl (hb hby d3_0) rfl  k) ?_
  show Goes _ _ _ _ _ _ _ (s₁.setTop (mkF m 1 #[.val (.int (1 : Int32))] [(.int (1 : Int32))]))
  refine Goes.step (fun _ k => X0.ldcInt hx hown (mvT hZ (hw _ (List.mem_of_getElem? (i := 17) rfl))) (g := (mkF m 1 #[.val (.int (1 : Int32))] [(.int (1 : Int32))])) rfl (hb hby d3_1) _ k) ?_
  show Goes _ _ _ _ _ _ _ (s₁.setTop (mkF m 3 #[.val (.int (1 : Int32))] [(.int (-2147483648 : Int32)), (.int (1 : Int32))]))
  refine Goes.step (fun _ k => XS.iloadN X0.here hx rfl (hb hby d3_3) rfl  k) ?_
  show Goes _ _ _ _ _ _ _ (s₁.setTop (mkF m 4 #[.val (.int (1 : Int32))] [(.int (1 : Int32)), (.int (-2147483648 : Int32)), (.int (1 : Int32))]))
  obtain ⟨_, _, ⟨T1, L1, k1, n1⟩, -, X1, ⟨Lc1, hQ1, l1, y1, z1⟩, st1⟩ := Jvm.LawKit.callS X0 hx (y := (⟨"java/lang/Integer", "numberOfLeadingZeros", "(I)I"⟩ : MethodName)) hown (mvT hZ (hw _ (List.mem_of_getElem? (i := 18) rfl))) (mvT hZ (hw _ (List.mem_of_getElem? (i := 19) rfl))) (mvT hZ (hw _ (List.mem_of_getElem? (i := 15) rfl))) (mvT hZ (hw _ (List.mem_of_getElem? (i := 20) rfl))) (by decide) (backOf (W := 2) (rm4_1 l Z a0 hw []  h0 n0 Z0 ) hZ (hw _ (List.mem_of_getElem? (i := 20) rfl)) (hw _ (List.mem_of_getElem? (i := 15) rfl)) (by decide) (by decide)) (g := (mkF m 4 #[.val (.int (1 : Int32))] [(.int (1 : Int32)), (.int (-2147483648 : Int32)), (.int (1 : Int32))])) rfl (by rw [hml]; rfl) (argsL := [(.int (1 : Int32))]) (rest := [(.int (-2147483648 : Int32)), (.int (1 : Int32))]) (lenOf pd_2 rfl) rfl (by show 2 * 0 + _ ≤ _; exact Nat.le_of_eq rfl) (hb hby d3_4) (fun _ _ => ⟨rfl, e0, (by decide : 0 + 0 ≤ _), (by decide : 0 + 0 ≤ _)⟩)
  dsimp only [Pt.U, Pt.locs, Pt.cells, Pt.slots] at X1 l1 y1 z1 st1 hQ1
  subst l1 y1 z1
  obtain ⟨N1, KK1, hR1⟩ := hQ1
  have NA1 := Fr.app N0 N1
  obtain rfl := hR1
  refine Goes.step st1 ?_
  show Goes _ _ _ _ _ _ _ (T1.setTop (mkF m 7 #[.val (.int (1 : Int32))] [(.int (31 : Int32)), (.int (-2147483648 : Int32)), (.int (1 : Int32))]))
  refine Goes.step (fun _ k => XS.iushr X1.here hx rfl (hb hby d3_7) rfl k) ?_
  show Goes _ _ _ _ _ _ _ (T1.setTop (mkF m 8 #[.val (.int (1 : Int32))] [(.int (1 : Int32)), (.int (1 : Int32))]))
  refine Goes.step (fun _ k => XS.iand X1.here hx rfl (hb hby d3_8) rfl k) ?_
  show Goes _ _ _ _ _ _ _ (T1.setTop (mkF m 9 #[.val (.int (1 : Int32))] [(.int (1 : Int32))]))
  exact Goes.ret X1 hx (BodyLoose.notSynchronized Bd) Bd.returns rfl (Or.inl ⟨rfl, by simp, _, rfl⟩) (hb hby d3_9) (by show Q3_1 Z  h0 n0 (some (.int (1 : Int32))) T1.heap _; rw [KK1]; exact ⟨NA1, rfl, rfl⟩) (by decide) (by decide)
theorem ef_3_3 (m : MethodId)   : entryFrame m #[(.int (3 : Int32))] 1 = mkF m 0 #[.val (.int (3 : Int32))] [] := by first | (simp [entryFrame, mkF, argsToLocals, Value.category]; done) | rfl
def Q3_3 (Z : State)  (h0 : Heap) (n0 : Nat) (v : Option Value) (h : Heap) (L : List Loc) : Prop := Fr n0 L ∧ h = h0 ∧ ((v = some (.int (2 : Int32))))
set_option maxRecDepth 65536 in
set_option maxHeartbeats 40000000 in
theorem rm3_3 (l : Launch) (Z : State) (a0 : Array Value) (hw : ∀ d ∈ tables_1, d.before a0 Z = true) (ws : List Jvm.Cond)  (h0 : Heap) (n0 : Nat) (Z0 : n0 ≤ h0.size) :
    MetFree l (⟨"java/lang/Integer", "highestOneBit", "(I)I"⟩ : MethodName) (head1 (Jvm.Cond.code (⟨"java/lang/Integer", "highestOneBit", "(I)I"⟩ : MethodName) jdk_33_method_45_code 1 (some .int) :: ws) ({ frames := 1, cells := 0, slots := 0, locals := 15 } : Room)) (fun a U => a = #[(.int (3 : Int32))] ∧ Z.Warmed39 U.vm ∧ U.heap = h0) (fun _ _ _ _ _ => True) (fun _ U o U' => ∃ v L, o = .returned v ∧ Q3_3 Z  h0 n0 v U'.heap L ∧ FrameEnd U o U' L ({ frames := 1, cells := 0, slots := 0, locals := 15 } : Room).cells ({ frames := 1, cells := 0, slots := 0, locals := 15 } : Room).slots) := by
  refine MetFree.of_bodySF (plainFor_of_name pn_3) hisR ?_
  intro p e s m args below meth c s₁ Bd hml0 hP hK
  obtain ⟨rfl, hZ, hh⟩ := hP
  have hx := Bd.exec
  have hby := Bd.bytes
  have hml : c.maxLocals = 1 := hml0
  have hown : s.vm.findClass "java/lang/Integer" = some m.cls := findClass_of_methodNamed Bd.named
  have hnm := (name_of_methodNamed Bd.named Bd.method).1
  have X0 : Stand p l e ({ frames := 1, cells := 0, slots := 0, locals := 15 } : Room) s m #[(.int (3 : Int32))] below meth c s₁ [] 0 0 := Stand.of_body Bd
  have e0 : s₁.heap = h0 := by rw [← hh, Bd.state]; rfl
  have N0 := Fr.nil n0
  have K0 : Keep h0 h0 [] := Keep.refl h0 _
  refine (?_ : Goes p e below s ({ frames := 1, cells := 0, slots := 0, locals := 15 } : Room).cells ({ frames := 1, cells := 0, slots := 0, locals := 15 } : Room).slots (fun v h L => Q3_3 Z  h0 n0 v h L) (s₁.setTop (entryFrame m #[(.int (3 : Int32))] 1)))
  rw [ef_3_3 m  ]
  show Goes _ _ _ _ _ _ _ (s₁.setTop (mkF m 0 #[.val (.int (3 : Int32))] []))
  refine Goes.step (fun _ k => XS.iloadN X0.here hx rfl (hb hby d3_0) rfl  k) ?_
  show Goes _ _ _ _ _ _ _ (s₁.setTop (mkF m 1 #[.val (.int (3 : Int32))] [(.int (3 : Int32))]))
  refine Goes.step (fun _ k => X0.ldcInt hx hown (mvT hZ (hw _ (List.mem_of_getElem? (i := 17) rfl))) (g := (mkF m 1 #[.val (.int (3 : Int32))] [(.int (3 : Int32))])) rfl (hb hby d3_1) _ k) ?_
  show Goes _ _ _ _ _ _ _ (s₁.setTop (mkF m 3 #[.val (.int (3 : Int32))] [(.int (-2147483648 : Int32)), (.int (3 : Int32))]))
  refine Goes.step (fun _ k => XS.iloadN X0.here hx rfl (hb hby d3_3) rfl  k) ?_
  show Goes _ _ _ _ _ _ _ (s₁.setTop (mkF m 4 #[.val (.int (3 : Int32))] [(.int (3 : Int32)), (.int (-2147483648 : Int32)), (.int (3 : Int32))]))
  obtain ⟨_, _, ⟨T1, L1, k1, n1⟩, -, X1, ⟨Lc1, hQ1, l1, y1, z1⟩, st1⟩ := Jvm.LawKit.callS X0 hx (y := (⟨"java/lang/Integer", "numberOfLeadingZeros", "(I)I"⟩ : MethodName)) hown (mvT hZ (hw _ (List.mem_of_getElem? (i := 18) rfl))) (mvT hZ (hw _ (List.mem_of_getElem? (i := 19) rfl))) (mvT hZ (hw _ (List.mem_of_getElem? (i := 15) rfl))) (mvT hZ (hw _ (List.mem_of_getElem? (i := 20) rfl))) (by decide) (backOf (W := 2) (rm4_3 l Z a0 hw []  h0 n0 Z0 ) hZ (hw _ (List.mem_of_getElem? (i := 20) rfl)) (hw _ (List.mem_of_getElem? (i := 15) rfl)) (by decide) (by decide)) (g := (mkF m 4 #[.val (.int (3 : Int32))] [(.int (3 : Int32)), (.int (-2147483648 : Int32)), (.int (3 : Int32))])) rfl (by rw [hml]; rfl) (argsL := [(.int (3 : Int32))]) (rest := [(.int (-2147483648 : Int32)), (.int (3 : Int32))]) (lenOf pd_2 rfl) rfl (by show 2 * 0 + _ ≤ _; exact Nat.le_of_eq rfl) (hb hby d3_4) (fun _ _ => ⟨rfl, e0, (by decide : 0 + 0 ≤ _), (by decide : 0 + 0 ≤ _)⟩)
  dsimp only [Pt.U, Pt.locs, Pt.cells, Pt.slots] at X1 l1 y1 z1 st1 hQ1
  subst l1 y1 z1
  obtain ⟨N1, KK1, hR1⟩ := hQ1
  have NA1 := Fr.app N0 N1
  obtain rfl := hR1
  refine Goes.step st1 ?_
  show Goes _ _ _ _ _ _ _ (T1.setTop (mkF m 7 #[.val (.int (3 : Int32))] [(.int (30 : Int32)), (.int (-2147483648 : Int32)), (.int (3 : Int32))]))
  refine Goes.step (fun _ k => XS.iushr X1.here hx rfl (hb hby d3_7) rfl k) ?_
  show Goes _ _ _ _ _ _ _ (T1.setTop (mkF m 8 #[.val (.int (3 : Int32))] [(.int (2 : Int32)), (.int (3 : Int32))]))
  refine Goes.step (fun _ k => XS.iand X1.here hx rfl (hb hby d3_8) rfl k) ?_
  show Goes _ _ _ _ _ _ _ (T1.setTop (mkF m 9 #[.val (.int (3 : Int32))] [(.int (2 : Int32))]))
  exact Goes.ret X1 hx (BodyLoose.notSynchronized Bd) Bd.returns rfl (Or.inl ⟨rfl, by simp, _, rfl⟩) (hb hby d3_9) (by show Q3_3 Z  h0 n0 (some (.int (2 : Int32))) T1.heap _; rw [KK1]; exact ⟨NA1, rfl, rfl⟩) (by decide) (by decide)
theorem ef_3_5 (m : MethodId)   : entryFrame m #[(.int (5 : Int32))] 1 = mkF m 0 #[.val (.int (5 : Int32))] [] := by first | (simp [entryFrame, mkF, argsToLocals, Value.category]; done) | rfl
def Q3_5 (Z : State)  (h0 : Heap) (n0 : Nat) (v : Option Value) (h : Heap) (L : List Loc) : Prop := Fr n0 L ∧ h = h0 ∧ ((v = some (.int (4 : Int32))))
set_option maxRecDepth 65536 in
set_option maxHeartbeats 40000000 in
theorem rm3_5 (l : Launch) (Z : State) (a0 : Array Value) (hw : ∀ d ∈ tables_1, d.before a0 Z = true) (ws : List Jvm.Cond)  (h0 : Heap) (n0 : Nat) (Z0 : n0 ≤ h0.size) :
    MetFree l (⟨"java/lang/Integer", "highestOneBit", "(I)I"⟩ : MethodName) (head1 (Jvm.Cond.code (⟨"java/lang/Integer", "highestOneBit", "(I)I"⟩ : MethodName) jdk_33_method_45_code 1 (some .int) :: ws) ({ frames := 1, cells := 0, slots := 0, locals := 15 } : Room)) (fun a U => a = #[(.int (5 : Int32))] ∧ Z.Warmed39 U.vm ∧ U.heap = h0) (fun _ _ _ _ _ => True) (fun _ U o U' => ∃ v L, o = .returned v ∧ Q3_5 Z  h0 n0 v U'.heap L ∧ FrameEnd U o U' L ({ frames := 1, cells := 0, slots := 0, locals := 15 } : Room).cells ({ frames := 1, cells := 0, slots := 0, locals := 15 } : Room).slots) := by
  refine MetFree.of_bodySF (plainFor_of_name pn_3) hisR ?_
  intro p e s m args below meth c s₁ Bd hml0 hP hK
  obtain ⟨rfl, hZ, hh⟩ := hP
  have hx := Bd.exec
  have hby := Bd.bytes
  have hml : c.maxLocals = 1 := hml0
  have hown : s.vm.findClass "java/lang/Integer" = some m.cls := findClass_of_methodNamed Bd.named
  have hnm := (name_of_methodNamed Bd.named Bd.method).1
  have X0 : Stand p l e ({ frames := 1, cells := 0, slots := 0, locals := 15 } : Room) s m #[(.int (5 : Int32))] below meth c s₁ [] 0 0 := Stand.of_body Bd
  have e0 : s₁.heap = h0 := by rw [← hh, Bd.state]; rfl
  have N0 := Fr.nil n0
  have K0 : Keep h0 h0 [] := Keep.refl h0 _
  refine (?_ : Goes p e below s ({ frames := 1, cells := 0, slots := 0, locals := 15 } : Room).cells ({ frames := 1, cells := 0, slots := 0, locals := 15 } : Room).slots (fun v h L => Q3_5 Z  h0 n0 v h L) (s₁.setTop (entryFrame m #[(.int (5 : Int32))] 1)))
  rw [ef_3_5 m  ]
  show Goes _ _ _ _ _ _ _ (s₁.setTop (mkF m 0 #[.val (.int (5 : Int32))] []))
  refine Goes.step (fun _ k => XS.iloadN X0.here hx rfl (hb hby d3_0) rfl  k) ?_
  show Goes _ _ _ _ _ _ _ (s₁.setTop (mkF m 1 #[.val (.int (5 : Int32))] [(.int (5 : Int32))]))
  refine Goes.step (fun _ k => X0.ldcInt hx hown (mvT hZ (hw _ (List.mem_of_getElem? (i := 17) rfl))) (g := (mkF m 1 #[.val (.int (5 : Int32))] [(.int (5 : Int32))])) rfl (hb hby d3_1) _ k) ?_
  show Goes _ _ _ _ _ _ _ (s₁.setTop (mkF m 3 #[.val (.int (5 : Int32))] [(.int (-2147483648 : Int32)), (.int (5 : Int32))]))
  refine Goes.step (fun _ k => XS.iloadN X0.here hx rfl (hb hby d3_3) rfl  k) ?_
  show Goes _ _ _ _ _ _ _ (s₁.setTop (mkF m 4 #[.val (.int (5 : Int32))] [(.int (5 : Int32)), (.int (-2147483648 : Int32)), (.int (5 : Int32))]))
  obtain ⟨_, _, ⟨T1, L1, k1, n1⟩, -, X1, ⟨Lc1, hQ1, l1, y1, z1⟩, st1⟩ := Jvm.LawKit.callS X0 hx (y := (⟨"java/lang/Integer", "numberOfLeadingZeros", "(I)I"⟩ : MethodName)) hown (mvT hZ (hw _ (List.mem_of_getElem? (i := 18) rfl))) (mvT hZ (hw _ (List.mem_of_getElem? (i := 19) rfl))) (mvT hZ (hw _ (List.mem_of_getElem? (i := 15) rfl))) (mvT hZ (hw _ (List.mem_of_getElem? (i := 20) rfl))) (by decide) (backOf (W := 2) (rm4_5 l Z a0 hw []  h0 n0 Z0 ) hZ (hw _ (List.mem_of_getElem? (i := 20) rfl)) (hw _ (List.mem_of_getElem? (i := 15) rfl)) (by decide) (by decide)) (g := (mkF m 4 #[.val (.int (5 : Int32))] [(.int (5 : Int32)), (.int (-2147483648 : Int32)), (.int (5 : Int32))])) rfl (by rw [hml]; rfl) (argsL := [(.int (5 : Int32))]) (rest := [(.int (-2147483648 : Int32)), (.int (5 : Int32))]) (lenOf pd_2 rfl) rfl (by show 2 * 0 + _ ≤ _; exact Nat.le_of_eq rfl) (hb hby d3_4) (fun _ _ => ⟨rfl, e0, (by decide : 0 + 0 ≤ _), (by decide : 0 + 0 ≤ _)⟩)
  dsimp only [Pt.U, Pt.locs, Pt.cells, Pt.slots] at X1 l1 y1 z1 st1 hQ1
  subst l1 y1 z1
  obtain ⟨N1, KK1, hR1⟩ := hQ1
  have NA1 := Fr.app N0 N1
  obtain rfl := hR1
  refine Goes.step st1 ?_
  show Goes _ _ _ _ _ _ _ (T1.setTop (mkF m 7 #[.val (.int (5 : Int32))] [(.int (29 : Int32)), (.int (-2147483648 : Int32)), (.int (5 : Int32))]))
  refine Goes.step (fun _ k => XS.iushr X1.here hx rfl (hb hby d3_7) rfl k) ?_
  show Goes _ _ _ _ _ _ _ (T1.setTop (mkF m 8 #[.val (.int (5 : Int32))] [(.int (4 : Int32)), (.int (5 : Int32))]))
  refine Goes.step (fun _ k => XS.iand X1.here hx rfl (hb hby d3_8) rfl k) ?_
  show Goes _ _ _ _ _ _ _ (T1.setTop (mkF m 9 #[.val (.int (5 : Int32))] [(.int (4 : Int32))]))
  exact Goes.ret X1 hx (BodyLoose.notSynchronized Bd) Bd.returns rfl (Or.inl ⟨rfl, by simp, _, rfl⟩) (hb hby d3_9) (by show Q3_5 Z  h0 n0 (some (.int (4 : Int32))) T1.heap _; rw [KK1]; exact ⟨NA1, rfl, rfl⟩) (by decide) (by decide)
theorem ef_3_7 (m : MethodId)   : entryFrame m #[(.int (7 : Int32))] 1 = mkF m 0 #[.val (.int (7 : Int32))] [] := by first | (simp [entryFrame, mkF, argsToLocals, Value.category]; done) | rfl
def Q3_7 (Z : State)  (h0 : Heap) (n0 : Nat) (v : Option Value) (h : Heap) (L : List Loc) : Prop := Fr n0 L ∧ h = h0 ∧ ((v = some (.int (4 : Int32))))
set_option maxRecDepth 65536 in
set_option maxHeartbeats 40000000 in
theorem rm3_7 (l : Launch) (Z : State) (a0 : Array Value) (hw : ∀ d ∈ tables_1, d.before a0 Z = true) (ws : List Jvm.Cond)  (h0 : Heap) (n0 : Nat) (Z0 : n0 ≤ h0.size) :
    MetFree l (⟨"java/lang/Integer", "highestOneBit", "(I)I"⟩ : MethodName) (head1 (Jvm.Cond.code (⟨"java/lang/Integer", "highestOneBit", "(I)I"⟩ : MethodName) jdk_33_method_45_code 1 (some .int) :: ws) ({ frames := 1, cells := 0, slots := 0, locals := 15 } : Room)) (fun a U => a = #[(.int (7 : Int32))] ∧ Z.Warmed39 U.vm ∧ U.heap = h0) (fun _ _ _ _ _ => True) (fun _ U o U' => ∃ v L, o = .returned v ∧ Q3_7 Z  h0 n0 v U'.heap L ∧ FrameEnd U o U' L ({ frames := 1, cells := 0, slots := 0, locals := 15 } : Room).cells ({ frames := 1, cells := 0, slots := 0, locals := 15 } : Room).slots) := by
  refine MetFree.of_bodySF (plainFor_of_name pn_3) hisR ?_
  intro p e s m args below meth c s₁ Bd hml0 hP hK
  obtain ⟨rfl, hZ, hh⟩ := hP
  have hx := Bd.exec
  have hby := Bd.bytes
  have hml : c.maxLocals = 1 := hml0
  have hown : s.vm.findClass "java/lang/Integer" = some m.cls := findClass_of_methodNamed Bd.named
  have hnm := (name_of_methodNamed Bd.named Bd.method).1
  have X0 : Stand p l e ({ frames := 1, cells := 0, slots := 0, locals := 15 } : Room) s m #[(.int (7 : Int32))] below meth c s₁ [] 0 0 := Stand.of_body Bd
  have e0 : s₁.heap = h0 := by rw [← hh, Bd.state]; rfl
  have N0 := Fr.nil n0
  have K0 : Keep h0 h0 [] := Keep.refl h0 _
  refine (?_ : Goes p e below s ({ frames := 1, cells := 0, slots := 0, locals := 15 } : Room).cells ({ frames := 1, cells := 0, slots := 0, locals := 15 } : Room).slots (fun v h L => Q3_7 Z  h0 n0 v h L) (s₁.setTop (entryFrame m #[(.int (7 : Int32))] 1)))
  rw [ef_3_7 m  ]
  show Goes _ _ _ _ _ _ _ (s₁.setTop (mkF m 0 #[.val (.int (7 : Int32))] []))
  refine Goes.step (fun _ k => XS.iloadN X0.here hx rfl (hb hby d3_0) rfl  k) ?_
  show Goes _ _ _ _ _ _ _ (s₁.setTop (mkF m 1 #[.val (.int (7 : Int32))] [(.int (7 : Int32))]))
  refine Goes.step (fun _ k => X0.ldcInt hx hown (mvT hZ (hw _ (List.mem_of_getElem? (i := 17) rfl))) (g := (mkF m 1 #[.val (.int (7 : Int32))] [(.int (7 : Int32))])) rfl (hb hby d3_1) _ k) ?_
  show Goes _ _ _ _ _ _ _ (s₁.setTop (mkF m 3 #[.val (.int (7 : Int32))] [(.int (-2147483648 : Int32)), (.int (7 : Int32))]))
  refine Goes.step (fun _ k => XS.iloadN X0.here hx rfl (hb hby d3_3) rfl  k) ?_
  show Goes _ _ _ _ _ _ _ (s₁.setTop (mkF m 4 #[.val (.int (7 : Int32))] [(.int (7 : Int32)), (.int (-2147483648 : Int32)), (.int (7 : Int32))]))
  obtain ⟨_, _, ⟨T1, L1, k1, n1⟩, -, X1, ⟨Lc1, hQ1, l1, y1, z1⟩, st1⟩ := Jvm.LawKit.callS X0 hx (y := (⟨"java/lang/Integer", "numberOfLeadingZeros", "(I)I"⟩ : MethodName)) hown (mvT hZ (hw _ (List.mem_of_getElem? (i := 18) rfl))) (mvT hZ (hw _ (List.mem_of_getElem? (i := 19) rfl))) (mvT hZ (hw _ (List.mem_of_getElem? (i := 15) rfl))) (mvT hZ (hw _ (List.mem_of_getElem? (i := 20) rfl))) (by decide) (backOf (W := 2) (rm4_7 l Z a0 hw []  h0 n0 Z0 ) hZ (hw _ (List.mem_of_getElem? (i := 20) rfl)) (hw _ (List.mem_of_getElem? (i := 15) rfl)) (by decide) (by decide)) (g := (mkF m 4 #[.val (.int (7 : Int32))] [(.int (7 : Int32)), (.int (-2147483648 : Int32)), (.int (7 : Int32))])) rfl (by rw [hml]; rfl) (argsL := [(.int (7 : Int32))]) (rest := [(.int (-2147483648 : Int32)), (.int (7 : Int32))]) (lenOf pd_2 rfl) rfl (by show 2 * 0 + _ ≤ _; exact Nat.le_of_eq rfl) (hb hby d3_4) (fun _ _ => ⟨rfl, e0, (by decide : 0 + 0 ≤ _), (by decide : 0 + 0 ≤ _)⟩)
  dsimp only [Pt.U, Pt.locs, Pt.cells, Pt.slots] at X1 l1 y1 z1 st1 hQ1
  subst l1 y1 z1
  obtain ⟨N1, KK1, hR1⟩ := hQ1
  have NA1 := Fr.app N0 N1
  obtain rfl := hR1
  refine Goes.step st1 ?_
  show Goes _ _ _ _ _ _ _ (T1.setTop (mkF m 7 #[.val (.int (7 : Int32))] [(.int (29 : Int32)), (.int (-2147483648 : Int32)), (.int (7 : Int32))]))
  refine Goes.step (fun _ k => XS.iushr X1.here hx rfl (hb hby d3_7) rfl k) ?_
  show Goes _ _ _ _ _ _ _ (T1.setTop (mkF m 8 #[.val (.int (7 : Int32))] [(.int (4 : Int32)), (.int (7 : Int32))]))
  refine Goes.step (fun _ k => XS.iand X1.here hx rfl (hb hby d3_8) rfl k) ?_
  show Goes _ _ _ _ _ _ _ (T1.setTop (mkF m 9 #[.val (.int (7 : Int32))] [(.int (4 : Int32))]))
  exact Goes.ret X1 hx (BodyLoose.notSynchronized Bd) Bd.returns rfl (Or.inl ⟨rfl, by simp, _, rfl⟩) (hb hby d3_9) (by show Q3_7 Z  h0 n0 (some (.int (4 : Int32))) T1.heap _; rw [KK1]; exact ⟨NA1, rfl, rfl⟩) (by decide) (by decide)
theorem d1_0 : decode prog_31_method_1_code 0 = .ok (.aload_n 0, 1) := by decide +kernel
theorem d1_1 : decode prog_31_method_1_code 1 = .ok (.invokespecial 1, 3) := by decide +kernel
theorem d1_4 : decode prog_31_method_1_code 4 = .ok (.iload_n 1, 1) := by decide +kernel
theorem d1_5 : decode prog_31_method_1_code 5 = .ok (.iconst 1, 1) := by decide +kernel
theorem d1_6 : decode prog_31_method_1_code 6 = .ok (.if_icmp .lt 9, 3) := by decide +kernel
theorem d1_9 : decode prog_31_method_1_code 9 = .ok (.iload_n 1, 1) := by decide +kernel
theorem d1_10 : decode prog_31_method_1_code 10 = .ok (.ldc 9, 2) := by decide +kernel
theorem d1_12 : decode prog_31_method_1_code 12 = .ok (.if_icmp .le 17, 3) := by decide +kernel
theorem d1_29 : decode prog_31_method_1_code 29 = .ok (.aload_n 0, 1) := by decide +kernel
theorem d1_30 : decode prog_31_method_1_code 30 = .ok (.iload_n 1, 1) := by decide +kernel
theorem d1_31 : decode prog_31_method_1_code 31 = .ok (.putfield 19, 3) := by decide +kernel
theorem d1_34 : decode prog_31_method_1_code 34 = .ok (.iconst 2, 1) := by decide +kernel
theorem d1_35 : decode prog_31_method_1_code 35 = .ok (.iload_n 1, 1) := by decide +kernel
theorem d1_36 : decode prog_31_method_1_code 36 = .ok (.imul, 1) := by decide +kernel
theorem d1_37 : decode prog_31_method_1_code 37 = .ok (.iconst 1, 1) := by decide +kernel
theorem d1_38 : decode prog_31_method_1_code 38 = .ok (.isub, 1) := by decide +kernel
theorem d1_39 : decode prog_31_method_1_code 39 = .ok (.invokestatic 23, 3) := by decide +kernel
theorem d1_42 : decode prog_31_method_1_code 42 = .ok (.iconst 1, 1) := by decide +kernel
theorem d1_43 : decode prog_31_method_1_code 43 = .ok (.ishl, 1) := by decide +kernel
theorem d1_44 : decode prog_31_method_1_code 44 = .ok (.istore_n 2, 1) := by decide +kernel
theorem d1_45 : decode prog_31_method_1_code 45 = .ok (.aload_n 0, 1) := by decide +kernel
theorem d1_46 : decode prog_31_method_1_code 46 = .ok (.iload_n 2, 1) := by decide +kernel
theorem d1_47 : decode prog_31_method_1_code 47 = .ok (.anewarray 2, 3) := by decide +kernel
theorem d1_50 : decode prog_31_method_1_code 50 = .ok (.putfield 29, 3) := by decide +kernel
theorem d1_53 : decode prog_31_method_1_code 53 = .ok (.aload_n 0, 1) := by decide +kernel
theorem d1_54 : decode prog_31_method_1_code 54 = .ok (.iload_n 2, 1) := by decide +kernel
theorem d1_55 : decode prog_31_method_1_code 55 = .ok (.newarray .int, 2) := by decide +kernel
theorem d1_57 : decode prog_31_method_1_code 57 = .ok (.putfield 33, 3) := by decide +kernel
theorem d1_60 : decode prog_31_method_1_code 60 = .ok (.aload_n 0, 1) := by decide +kernel
theorem d1_61 : decode prog_31_method_1_code 61 = .ok (.iload_n 2, 1) := by decide +kernel
theorem d1_62 : decode prog_31_method_1_code 62 = .ok (.anewarray 2, 3) := by decide +kernel
theorem d1_65 : decode prog_31_method_1_code 65 = .ok (.putfield 37, 3) := by decide +kernel
theorem d1_68 : decode prog_31_method_1_code 68 = .ok (.aload_n 0, 1) := by decide +kernel
theorem d1_69 : decode prog_31_method_1_code 69 = .ok (.iload_n 2, 1) := by decide +kernel
theorem d1_70 : decode prog_31_method_1_code 70 = .ok (.invokestatic 40, 3) := by decide +kernel
theorem d1_73 : decode prog_31_method_1_code 73 = .ok (.iconst 1, 1) := by decide +kernel
theorem d1_74 : decode prog_31_method_1_code 74 = .ok (.iadd, 1) := by decide +kernel
theorem d1_75 : decode prog_31_method_1_code 75 = .ok (.putfield 43, 3) := by decide +kernel
theorem d1_78 : decode prog_31_method_1_code 78 = .ok (.return_, 1) := by decide +kernel
theorem pn_1 : plainName "com/example/nehaba/nehaba/input/KeptValues" = true := by first | (simp [plainName, overriddenIn]; done) | decide +kernel
theorem ef_1_1 (m : MethodId) (x0 : Addr)  : entryFrame m #[(.ref x0), (.int (1 : Int32))] 3 = mkF m 0 #[.val (.ref x0), .val (.int (1 : Int32)), .unset] [] := by first | (simp [entryFrame, mkF, argsToLocals, Value.category]; done) | rfl
def Q1_1 (Z : State) (x0 : Addr) (h0 : Heap) (n0 : Nat) (v : Option Value) (h : Heap) (L : List Loc) : Prop := Fr n0 L ∧ Keep h0 h [x0] ∧ ((∃ (r_0 : Addr) (r_1 : Addr) (r_2 : Addr) (k_0 : ClassId) (k_1 : ClassId) (k_2 : ClassId), v = none ∧ n0 ≤ r_0 ∧ h0.size ≤ r_0 ∧ n0 ≤ r_1 ∧ h0.size ≤ r_1 ∧ n0 ≤ r_2 ∧ h0.size ≤ r_2 ∧ r_1 ≠ r_0 ∧ r_2 ≠ r_0 ∧ r_2 ≠ r_1 ∧ Fld Z h x0 "com/example/nehaba/nehaba/input/KeptValues" "most" "I" (.int (1 : Int32)) ∧ Fld Z h x0 "com/example/nehaba/nehaba/input/KeptValues" "keys" "[Ljava/lang/Object;" (.ref r_0) ∧ Fld Z h x0 "com/example/nehaba/nehaba/input/KeptValues" "hashes" "[I" (.ref r_1) ∧ Fld Z h x0 "com/example/nehaba/nehaba/input/KeptValues" "values" "[Ljava/lang/Object;" (.ref r_2) ∧ Fld Z h x0 "com/example/nehaba/nehaba/input/KeptValues" "shift" "I" (.int (31 : Int32)) ∧ Fld Z h x0 "com/example/nehaba/nehaba/input/KeptValues" "size" "I" (.int (0 : Int32)) ∧ Exa Z h x0 "com/example/nehaba/nehaba/input/KeptValues" ∧ ArF Z h r_0 k_0 (.object "java/lang/Object") 2 (fun _ => .null) ∧ ArF Z h r_1 k_1 .int 2 (fun _ => (.int (0 : Int32))) ∧ ArF Z h r_2 k_2 (.object "java/lang/Object") 2 (fun _ => .null) ∧ Ovr Z k_0 "java/lang/Object" ∧ Ovr Z k_2 "java/lang/Object"))
set_option maxRecDepth 65536 in
set_option maxHeartbeats 40000000 in
theorem rm1_1 (l : Launch) (Z : State) (a0 : Array Value) (hw : ∀ d ∈ tables_1, d.before a0 Z = true) (ws : List Jvm.Cond) (x0 : Addr) (h0 : Heap) (n0 : Nat) (Z0 : n0 ≤ h0.size) (F0_most : Fld Z h0 x0 "com/example/nehaba/nehaba/input/KeptValues" "most" "I" (.int (0 : Int32))) (F0_keys : Fld Z h0 x0 "com/example/nehaba/nehaba/input/KeptValues" "keys" "[Ljava/lang/Object;" .null) (F0_hashes : Fld Z h0 x0 "com/example/nehaba/nehaba/input/KeptValues" "hashes" "[I" .null) (F0_values : Fld Z h0 x0 "com/example/nehaba/nehaba/input/KeptValues" "values" "[Ljava/lang/Object;" .null) (F0_shift : Fld Z h0 x0 "com/example/nehaba/nehaba/input/KeptValues" "shift" "I" (.int (0 : Int32))) (F0_size : Fld Z h0 x0 "com/example/nehaba/nehaba/input/KeptValues" "size" "I" (.int (0 : Int32))) (E_x0 : Exa Z h0 x0 "com/example/nehaba/nehaba/input/KeptValues") (g_x0 : n0 ≤ x0) :
    MetFree l (⟨"com/example/nehaba/nehaba/input/KeptValues", "<init>", "(I)V"⟩ : MethodName) (head1 (Jvm.Cond.code (⟨"com/example/nehaba/nehaba/input/KeptValues", "<init>", "(I)V"⟩ : MethodName) prog_31_method_1_code 3 none :: ws) ({ frames := 2, cells := 3, slots := 6, locals := 27 } : Room)) (fun a U => a = #[(.ref x0), (.int (1 : Int32))] ∧ Z.Warmed39 U.vm ∧ U.heap = h0) (fun _ _ _ _ _ => True) (fun _ U o U' => ∃ v L, o = .returned v ∧ Q1_1 Z x0 h0 n0 v U'.heap L ∧ FrameEnd U o U' L ({ frames := 2, cells := 3, slots := 6, locals := 27 } : Room).cells ({ frames := 2, cells := 3, slots := 6, locals := 27 } : Room).slots) := by
  refine MetFree.of_bodySF (plainFor_of_name pn_1) hisR ?_
  intro p e s m args below meth c s₁ Bd hml0 hP hK
  obtain ⟨rfl, hZ, hh⟩ := hP
  have hx := Bd.exec
  have hby := Bd.bytes
  have hml : c.maxLocals = 3 := hml0
  have hown : s.vm.findClass "com/example/nehaba/nehaba/input/KeptValues" = some m.cls := findClass_of_methodNamed Bd.named
  have hnm := (name_of_methodNamed Bd.named Bd.method).1
  have X0 : Stand p l e ({ frames := 2, cells := 3, slots := 6, locals := 27 } : Room) s m #[(.ref x0), (.int (1 : Int32))] below meth c s₁ [] 0 0 := Stand.of_body Bd
  have e0 : s₁.heap = h0 := by rw [← hh, Bd.state]; rfl
  have N0 := Fr.nil n0
  have K0 : Keep h0 h0 [x0] := Keep.refl h0 _
  refine (?_ : Goes p e below s ({ frames := 2, cells := 3, slots := 6, locals := 27 } : Room).cells ({ frames := 2, cells := 3, slots := 6, locals := 27 } : Room).slots (fun v h L => Q1_1 Z x0 h0 n0 v h L) (s₁.setTop (entryFrame m #[(.ref x0), (.int (1 : Int32))] 3)))
  rw [ef_1_1 m x0 ]
  show Goes _ _ _ _ _ _ _ (s₁.setTop (mkF m 0 #[.val (.ref x0), .val (.int (1 : Int32)), .unset] []))
  refine Goes.step (fun _ k => XS.aloadN X0.here hx rfl (hb hby d1_0) rfl rfl k) ?_
  show Goes _ _ _ _ _ _ _ (s₁.setTop (mkF m 1 #[.val (.ref x0), .val (.int (1 : Int32)), .unset] [(.ref x0)]))
  obtain ⟨T1, X1, e1, st1⟩ := initO X0 hx hZ hown (hw _ (List.mem_of_getElem? (i := 7) rfl)) (hw _ (List.mem_of_getElem? (i := 8) rfl)) (hw _ (List.mem_of_getElem? (i := 9) rfl)) e0 (g := (mkF m 1 #[.val (.ref x0), .val (.int (1 : Int32)), .unset] [(.ref x0)])) rfl (by rw [hml]; rfl) rfl (hb hby d1_1) (by decide) (W := 0) (by show 2 * 0 + _ ≤ _; exact Nat.le_of_eq rfl) (by decide)
  refine Goes.step st1 ?_
  show Goes _ _ _ _ _ _ _ (T1.setTop (mkF m 4 #[.val (.ref x0), .val (.int (1 : Int32)), .unset] []))
  refine Goes.step (fun _ k => XS.iloadN X1.here hx rfl (hb hby d1_4) rfl  k) ?_
  show Goes _ _ _ _ _ _ _ (T1.setTop (mkF m 5 #[.val (.ref x0), .val (.int (1 : Int32)), .unset] [(.int (1 : Int32))]))
  refine Goes.step (fun _ k => XS.iconst X1.here hx rfl (hb hby d1_5) k) ?_
  show Goes _ _ _ _ _ _ _ (T1.setTop (mkF m 6 #[.val (.ref x0), .val (.int (1 : Int32)), .unset] [(.int (1 : Int32)), (.int (1 : Int32))]))
  refine Goes.step (fun _ k => XS.icmpNo X1.here hx rfl (hb hby d1_6) rfl (flt (by decide : ¬ ((1 : Int32) < (1 : Int32)))).1 k) ?_
  show Goes _ _ _ _ _ _ _ (T1.setTop (mkF m 9 #[.val (.ref x0), .val (.int (1 : Int32)), .unset] []))
  refine Goes.step (fun _ k => XS.iloadN X1.here hx rfl (hb hby d1_9) rfl  k) ?_
  show Goes _ _ _ _ _ _ _ (T1.setTop (mkF m 10 #[.val (.ref x0), .val (.int (1 : Int32)), .unset] [(.int (1 : Int32))]))
  refine Goes.step (fun _ k => X1.ldcInt hx hown (mvT hZ (hw _ (List.mem_of_getElem? (i := 10) rfl))) (g := (mkF m 10 #[.val (.ref x0), .val (.int (1 : Int32)), .unset] [(.int (1 : Int32))])) rfl (hb hby d1_10) _ k) ?_
  show Goes _ _ _ _ _ _ _ (T1.setTop (mkF m 12 #[.val (.ref x0), .val (.int (1 : Int32)), .unset] [(.int (536870912 : Int32)), (.int (1 : Int32))]))
  refine Goes.step (fun _ k => XS.icmpYes X1.here hx rfl (pc0 := 12) (pc' := 29) rfl (hb hby d1_12) rfl (flt (by decide : ¬ ((536870912 : Int32) < (1 : Int32)))).2.2.2 (by decide) (by decide) k) ?_
  show Goes _ _ _ _ _ _ _ (T1.setTop (mkF m 29 #[.val (.ref x0), .val (.int (1 : Int32)), .unset] []))
  refine Goes.step (fun _ k => XS.aloadN X1.here hx rfl (hb hby d1_29) rfl rfl k) ?_
  show Goes _ _ _ _ _ _ _ (T1.setTop (mkF m 30 #[.val (.ref x0), .val (.int (1 : Int32)), .unset] [(.ref x0)]))
  refine Goes.step (fun _ k => XS.iloadN X1.here hx rfl (hb hby d1_30) rfl  k) ?_
  show Goes _ _ _ _ _ _ _ (T1.setTop (mkF m 31 #[.val (.ref x0), .val (.int (1 : Int32)), .unset] [(.int (1 : Int32)), (.ref x0)]))
  obtain ⟨T2, h2, X2, e2, W2, st2⟩ := putF X1 hx hZ hown (host := "") (Or.inl (hw _ (List.mem_of_getElem? (i := 11) rfl))) Via.refl e1 F0_most E_x0 (Or.inr ⟨(hw _ (List.mem_of_getElem? (i := 12) rfl)), rfl, hnm⟩) (hw _ (List.mem_of_getElem? (i := 2) rfl)) (ty := .int) (by decide) rfl rfl (g := (mkF m 31 #[.val (.ref x0), .val (.int (1 : Int32)), .unset] [(.int (1 : Int32)), (.ref x0)])) rfl rfl (hb hby d1_31)
  refine Goes.step st2 ?_
  have f3 := F0_most.same W2
  have f4 := F0_keys.other W2 (Or.inr (slot_ne (Or.inr (hw _ (List.mem_of_getElem? (i := 25) rfl))) (Or.inr (hw _ (List.mem_of_getElem? (i := 12) rfl))) (by decide) (t := (.array (.object "java/lang/Object"))) (t' := .int) (by decide) (by decide)))
  have f5 := F0_hashes.other W2 (Or.inr (slot_ne (Or.inr (hw _ (List.mem_of_getElem? (i := 27) rfl))) (Or.inr (hw _ (List.mem_of_getElem? (i := 12) rfl))) (by decide) (t := (.array .int)) (t' := .int) (by decide) (by decide)))
  have f6 := F0_values.other W2 (Or.inr (slot_ne (Or.inr (hw _ (List.mem_of_getElem? (i := 29) rfl))) (Or.inr (hw _ (List.mem_of_getElem? (i := 12) rfl))) (by decide) (t := (.array (.object "java/lang/Object"))) (t' := .int) (by decide) (by decide)))
  have f7 := F0_shift.other W2 (Or.inr (slot_ne (Or.inr (hw _ (List.mem_of_getElem? (i := 32) rfl))) (Or.inr (hw _ (List.mem_of_getElem? (i := 12) rfl))) (by decide) (t := .int) (t' := .int) (by decide) (by decide)))
  have f8 := F0_size.other W2 (Or.inr (slot_ne (Or.inl (hw _ (List.mem_of_getElem? (i := 39) rfl))) (Or.inr (hw _ (List.mem_of_getElem? (i := 12) rfl))) (by decide) (t := .int) (t' := .int) (by decide) (by decide)))
  have f9 := E_x0.wr W2
  have K10 : Keep h0 h2 [x0] := K0.wr W2 (Or.inl (List.mem_of_getElem? (i := 0) rfl))
  have Z10 : n0 ≤ h2.size := by rw [Wr.size W2]; exact Z0
  have N10 := Fr.snoc X2 N0 g_x0
  show Goes _ _ _ _ _ _ _ (T2.setTop (mkF m 34 #[.val (.ref x0), .val (.int (1 : Int32)), .unset] []))
  refine Goes.step (fun _ k => XS.iconst X2.here hx rfl (hb hby d1_34) k) ?_
  show Goes _ _ _ _ _ _ _ (T2.setTop (mkF m 35 #[.val (.ref x0), .val (.int (1 : Int32)), .unset] [(.int (2 : Int32))]))
  refine Goes.step (fun _ k => XS.iloadN X2.here hx rfl (hb hby d1_35) rfl  k) ?_
  show Goes _ _ _ _ _ _ _ (T2.setTop (mkF m 36 #[.val (.ref x0), .val (.int (1 : Int32)), .unset] [(.int (1 : Int32)), (.int (2 : Int32))]))
  refine Goes.step (fun _ k => XS.imul X2.here hx rfl (hb hby d1_36) rfl k) ?_
  show Goes _ _ _ _ _ _ _ (T2.setTop (mkF m 37 #[.val (.ref x0), .val (.int (1 : Int32)), .unset] [(.int (2 : Int32))]))
  refine Goes.step (fun _ k => XS.iconst X2.here hx rfl (hb hby d1_37) k) ?_
  show Goes _ _ _ _ _ _ _ (T2.setTop (mkF m 38 #[.val (.ref x0), .val (.int (1 : Int32)), .unset] [(.int (1 : Int32)), (.int (2 : Int32))]))
  refine Goes.step (fun _ k => XS.isub X2.here hx rfl (hb hby d1_38) rfl k) ?_
  show Goes _ _ _ _ _ _ _ (T2.setTop (mkF m 39 #[.val (.ref x0), .val (.int (1 : Int32)), .unset] [(.int (1 : Int32))]))
  obtain ⟨_, _, ⟨T11, L11, k11, n11⟩, -, X11, ⟨Lc11, hQ11, l11, y11, z11⟩, st11⟩ := Jvm.LawKit.callS X2 hx (y := (⟨"java/lang/Integer", "highestOneBit", "(I)I"⟩ : MethodName)) hown (mvT hZ (hw _ (List.mem_of_getElem? (i := 13) rfl))) (mvT hZ (hw _ (List.mem_of_getElem? (i := 14) rfl))) (mvT hZ (hw _ (List.mem_of_getElem? (i := 15) rfl))) (mvT hZ (hw _ (List.mem_of_getElem? (i := 16) rfl))) (by decide) (backOf (W := 0) (rm3_1 l Z a0 hw []  h2 n0 Z10 ) hZ (hw _ (List.mem_of_getElem? (i := 16) rfl)) (hw _ (List.mem_of_getElem? (i := 15) rfl)) (by decide) (by decide)) (g := (mkF m 39 #[.val (.ref x0), .val (.int (1 : Int32)), .unset] [(.int (1 : Int32))])) rfl (by rw [hml]; rfl) (argsL := [(.int (1 : Int32))]) (rest := []) (lenOf pd_2 rfl) rfl (by show 2 * 0 + _ ≤ _; exact Nat.le_of_eq rfl) (hb hby d1_39) (fun _ _ => ⟨rfl, e2, (by decide : 0 + 0 ≤ _), (by decide : 0 + 0 ≤ _)⟩)
  dsimp only [Pt.U, Pt.locs, Pt.cells, Pt.slots] at X11 l11 y11 z11 st11 hQ11
  subst l11 y11 z11
  obtain ⟨N11, KK11, hR11⟩ := hQ11
  have NA11 := Fr.app N10 N11
  obtain rfl := hR11
  refine Goes.step st11 ?_
  show Goes _ _ _ _ _ _ _ (T11.setTop (mkF m 42 #[.val (.ref x0), .val (.int (1 : Int32)), .unset] [(.int (1 : Int32))]))
  refine Goes.step (fun _ k => XS.iconst X11.here hx rfl (hb hby d1_42) k) ?_
  show Goes _ _ _ _ _ _ _ (T11.setTop (mkF m 43 #[.val (.ref x0), .val (.int (1 : Int32)), .unset] [(.int (1 : Int32)), (.int (1 : Int32))]))
  refine Goes.step (fun _ k => XS.ishl X11.here hx rfl (hb hby d1_43) rfl k) ?_
  show Goes _ _ _ _ _ _ _ (T11.setTop (mkF m 44 #[.val (.ref x0), .val (.int (1 : Int32)), .unset] [(.int (2 : Int32))]))
  refine Goes.step (fun _ k => XS.istoreN X11.here hx rfl (hb hby d1_44) rfl (l' := #[.val (.ref x0), .val (.int (1 : Int32)), .val (.int (2 : Int32))]) rfl k) ?_
  show Goes _ _ _ _ _ _ _ (T11.setTop (mkF m 45 #[.val (.ref x0), .val (.int (1 : Int32)), .val (.int (2 : Int32))] []))
  refine Goes.step (fun _ k => XS.aloadN X11.here hx rfl (hb hby d1_45) rfl rfl k) ?_
  show Goes _ _ _ _ _ _ _ (T11.setTop (mkF m 46 #[.val (.ref x0), .val (.int (1 : Int32)), .val (.int (2 : Int32))] [(.ref x0)]))
  refine Goes.step (fun _ k => XS.iloadN X11.here hx rfl (hb hby d1_46) rfl  k) ?_
  show Goes _ _ _ _ _ _ _ (T11.setTop (mkF m 47 #[.val (.ref x0), .val (.int (1 : Int32)), .val (.int (2 : Int32))] [(.int (2 : Int32)), (.ref x0)]))
  obtain ⟨T12, h12, k12, X12, e12, E12, A12, O12, st12⟩ := newR X11 hx hZ hown (hw _ (List.mem_of_getElem? (i := 22) rfl)) (hw _ (List.mem_of_getElem? (i := 23) rfl)) KK11 (g := (mkF m 47 #[.val (.ref x0), .val (.int (1 : Int32)), .val (.int (2 : Int32))] [(.int (2 : Int32)), (.ref x0)])) rfl (hb hby d1_47) rfl (by decide) (cap := 2) (by decide) (by decide) (by decide) (by decide)
  obtain ⟨b12, g12⟩ : ∃ z, z = h2.size := ⟨_, rfl⟩
  rw [← g12] at A12 st12
  refine Goes.step st12 ?_
  have g_b12 : n0 ≤ b12 := Nat.le_trans Z10 (Nat.le_of_eq g12.symm)
  have sz_b12 : h0.size ≤ b12 := Nat.le_trans K10.1 (Nat.le_of_eq g12.symm)
  have ne13 : x0 ≠ b12 := Nat.ne_of_lt (Nat.lt_of_lt_of_le f3.lt (Nat.le_of_eq g12.symm))
  have f14 := f3.ext E12
  have f15 := f4.ext E12
  have f16 := f5.ext E12
  have f17 := f6.ext E12
  have f18 := f7.ext E12
  have f19 := f8.ext E12
  have f20 := f9.ext E12
  have K21 : Keep h0 h12 [x0] := K10.ext E12
  have Z21 : n0 ≤ h12.size := Nat.le_trans Z10 E12.1
  have V_b12 : ArF Z h12 b12 k12 (.object "java/lang/Object") 2 (fun _ => .null) := own_arf (Arv.new A12 (by decide))
  show Goes _ _ _ _ _ _ _ (T12.setTop (mkF m 50 #[.val (.ref x0), .val (.int (1 : Int32)), .val (.int (2 : Int32))] [(.ref b12), (.ref x0)]))
  obtain ⟨T22, h22, X22, e22, W22, st22⟩ := putF X12 hx hZ hown (host := "") (Or.inl (hw _ (List.mem_of_getElem? (i := 24) rfl))) Via.refl e12 f15 f20 (Or.inr ⟨(hw _ (List.mem_of_getElem? (i := 25) rfl)), rfl, hnm⟩) (hw _ (List.mem_of_getElem? (i := 2) rfl)) (ty := (.array (.object "java/lang/Object"))) (by decide) rfl rfl (g := (mkF m 50 #[.val (.ref x0), .val (.int (1 : Int32)), .val (.int (2 : Int32))] [(.ref b12), (.ref x0)])) rfl rfl (hb hby d1_50)
  refine Goes.step st22 ?_
  have f23 := f14.other W22 (Or.inr (slot_ne (Or.inr (hw _ (List.mem_of_getElem? (i := 12) rfl))) (Or.inr (hw _ (List.mem_of_getElem? (i := 25) rfl))) (by decide) (t := .int) (t' := (.array (.object "java/lang/Object"))) (by decide) (by decide)))
  have f24 := f15.same W22
  have f25 := f16.other W22 (Or.inr (slot_ne (Or.inr (hw _ (List.mem_of_getElem? (i := 27) rfl))) (Or.inr (hw _ (List.mem_of_getElem? (i := 25) rfl))) (by decide) (t := (.array .int)) (t' := (.array (.object "java/lang/Object"))) (by decide) (by decide)))
  have f26 := f17.other W22 (Or.inr (slot_ne (Or.inr (hw _ (List.mem_of_getElem? (i := 29) rfl))) (Or.inr (hw _ (List.mem_of_getElem? (i := 25) rfl))) (by decide) (t := (.array (.object "java/lang/Object"))) (t' := (.array (.object "java/lang/Object"))) (by decide) (by decide)))
  have f27 := f18.other W22 (Or.inr (slot_ne (Or.inr (hw _ (List.mem_of_getElem? (i := 32) rfl))) (Or.inr (hw _ (List.mem_of_getElem? (i := 25) rfl))) (by decide) (t := .int) (t' := (.array (.object "java/lang/Object"))) (by decide) (by decide)))
  have f28 := f19.other W22 (Or.inr (slot_ne (Or.inl (hw _ (List.mem_of_getElem? (i := 39) rfl))) (Or.inr (hw _ (List.mem_of_getElem? (i := 25) rfl))) (by decide) (t := .int) (t' := (.array (.object "java/lang/Object"))) (by decide) (by decide)))
  have f29 := f20.wr W22
  have f30 := V_b12.other W22 (Ne.symm ne13)
  have K31 : Keep h0 h22 [x0] := K21.wr W22 (Or.inl (List.mem_of_getElem? (i := 0) rfl))
  have Z31 : n0 ≤ h22.size := by rw [Wr.size W22]; exact Z21
  have N31 := Fr.snoc X22 NA11 g_x0
  show Goes _ _ _ _ _ _ _ (T22.setTop (mkF m 53 #[.val (.ref x0), .val (.int (1 : Int32)), .val (.int (2 : Int32))] []))
  refine Goes.step (fun _ k => XS.aloadN X22.here hx rfl (hb hby d1_53) rfl rfl k) ?_
  show Goes _ _ _ _ _ _ _ (T22.setTop (mkF m 54 #[.val (.ref x0), .val (.int (1 : Int32)), .val (.int (2 : Int32))] [(.ref x0)]))
  refine Goes.step (fun _ k => XS.iloadN X22.here hx rfl (hb hby d1_54) rfl  k) ?_
  show Goes _ _ _ _ _ _ _ (T22.setTop (mkF m 55 #[.val (.ref x0), .val (.int (1 : Int32)), .val (.int (2 : Int32))] [(.int (2 : Int32)), (.ref x0)]))
  obtain ⟨T32, h32, k32, X32, e32, E32, A32, st32⟩ := newP X22 hx hZ (hw _ (List.mem_of_getElem? (i := 0) rfl)) e22 (g := (mkF m 55 #[.val (.ref x0), .val (.int (1 : Int32)), .val (.int (2 : Int32))] [(.int (2 : Int32)), (.ref x0)])) rfl (hb hby d1_55) rfl (by decide) (cap := 2) (by decide) (by decide) (by decide) (by decide)
  obtain ⟨b32, g32⟩ : ∃ z, z = h22.size := ⟨_, rfl⟩
  rw [← g32] at A32 st32
  refine Goes.step st32 ?_
  have g_b32 : n0 ≤ b32 := Nat.le_trans Z31 (Nat.le_of_eq g32.symm)
  have sz_b32 : h0.size ≤ b32 := Nat.le_trans K31.1 (Nat.le_of_eq g32.symm)
  have ne33 : x0 ≠ b32 := Nat.ne_of_lt (Nat.lt_of_lt_of_le f23.lt (Nat.le_of_eq g32.symm))
  have ne34 : b12 ≠ b32 := Nat.ne_of_lt (Nat.lt_of_lt_of_le f30.lt (Nat.le_of_eq g32.symm))
  have f35 := f23.ext E32
  have f36 := f24.ext E32
  have f37 := f25.ext E32
  have f38 := f26.ext E32
  have f39 := f27.ext E32
  have f40 := f28.ext E32
  have f41 := f29.ext E32
  have f42 := f30.ext E32
  have K43 : Keep h0 h32 [x0] := K31.ext E32
  have Z43 : n0 ≤ h32.size := Nat.le_trans Z31 E32.1
  have V_b32 : ArF Z h32 b32 k32 .int 2 (fun _ => (.int (0 : Int32))) := own_arf (Arv.new A32 (by decide))
  show Goes _ _ _ _ _ _ _ (T32.setTop (mkF m 57 #[.val (.ref x0), .val (.int (1 : Int32)), .val (.int (2 : Int32))] [(.ref b32), (.ref x0)]))
  obtain ⟨T44, h44, X44, e44, W44, st44⟩ := putF X32 hx hZ hown (host := "") (Or.inl (hw _ (List.mem_of_getElem? (i := 26) rfl))) Via.refl e32 f37 f41 (Or.inr ⟨(hw _ (List.mem_of_getElem? (i := 27) rfl)), rfl, hnm⟩) (hw _ (List.mem_of_getElem? (i := 2) rfl)) (ty := (.array .int)) (by decide) rfl rfl (g := (mkF m 57 #[.val (.ref x0), .val (.int (1 : Int32)), .val (.int (2 : Int32))] [(.ref b32), (.ref x0)])) rfl rfl (hb hby d1_57)
  refine Goes.step st44 ?_
  have f45 := f35.other W44 (Or.inr (slot_ne (Or.inr (hw _ (List.mem_of_getElem? (i := 12) rfl))) (Or.inr (hw _ (List.mem_of_getElem? (i := 27) rfl))) (by decide) (t := .int) (t' := (.array .int)) (by decide) (by decide)))
  have f46 := f36.other W44 (Or.inr (slot_ne (Or.inr (hw _ (List.mem_of_getElem? (i := 25) rfl))) (Or.inr (hw _ (List.mem_of_getElem? (i := 27) rfl))) (by decide) (t := (.array (.object "java/lang/Object"))) (t' := (.array .int)) (by decide) (by decide)))
  have f47 := f37.same W44
  have f48 := f38.other W44 (Or.inr (slot_ne (Or.inr (hw _ (List.mem_of_getElem? (i := 29) rfl))) (Or.inr (hw _ (List.mem_of_getElem? (i := 27) rfl))) (by decide) (t := (.array (.object "java/lang/Object"))) (t' := (.array .int)) (by decide) (by decide)))
  have f49 := f39.other W44 (Or.inr (slot_ne (Or.inr (hw _ (List.mem_of_getElem? (i := 32) rfl))) (Or.inr (hw _ (List.mem_of_getElem? (i := 27) rfl))) (by decide) (t := .int) (t' := (.array .int)) (by decide) (by decide)))
  have f50 := f40.other W44 (Or.inr (slot_ne (Or.inl (hw _ (List.mem_of_getElem? (i := 39) rfl))) (Or.inr (hw _ (List.mem_of_getElem? (i := 27) rfl))) (by decide) (t := .int) (t' := (.array .int)) (by decide) (by decide)))
  have f51 := f41.wr W44
  have f52 := f42.other W44 (Ne.symm ne13)
  have f53 := V_b32.other W44 (Ne.symm ne33)
  have K54 : Keep h0 h44 [x0] := K43.wr W44 (Or.inl (List.mem_of_getElem? (i := 0) rfl))
  have Z54 : n0 ≤ h44.size := by rw [Wr.size W44]; exact Z43
  have N54 := Fr.snoc X44 N31 g_x0
  show Goes _ _ _ _ _ _ _ (T44.setTop (mkF m 60 #[.val (.ref x0), .val (.int (1 : Int32)), .val (.int (2 : Int32))] []))
  refine Goes.step (fun _ k => XS.aloadN X44.here hx rfl (hb hby d1_60) rfl rfl k) ?_
  show Goes _ _ _ _ _ _ _ (T44.setTop (mkF m 61 #[.val (.ref x0), .val (.int (1 : Int32)), .val (.int (2 : Int32))] [(.ref x0)]))
  refine Goes.step (fun _ k => XS.iloadN X44.here hx rfl (hb hby d1_61) rfl  k) ?_
  show Goes _ _ _ _ _ _ _ (T44.setTop (mkF m 62 #[.val (.ref x0), .val (.int (1 : Int32)), .val (.int (2 : Int32))] [(.int (2 : Int32)), (.ref x0)]))
  obtain ⟨T55, h55, k55, X55, e55, E55, A55, O55, st55⟩ := newR X44 hx hZ hown (hw _ (List.mem_of_getElem? (i := 22) rfl)) (hw _ (List.mem_of_getElem? (i := 23) rfl)) e44 (g := (mkF m 62 #[.val (.ref x0), .val (.int (1 : Int32)), .val (.int (2 : Int32))] [(.int (2 : Int32)), (.ref x0)])) rfl (hb hby d1_62) rfl (by decide) (cap := 2) (by decide) (by decide) (by decide) (by decide)
  obtain ⟨b55, g55⟩ : ∃ z, z = h44.size := ⟨_, rfl⟩
  rw [← g55] at A55 st55
  refine Goes.step st55 ?_
  have g_b55 : n0 ≤ b55 := Nat.le_trans Z54 (Nat.le_of_eq g55.symm)
  have sz_b55 : h0.size ≤ b55 := Nat.le_trans K54.1 (Nat.le_of_eq g55.symm)
  have ne56 : x0 ≠ b55 := Nat.ne_of_lt (Nat.lt_of_lt_of_le f45.lt (Nat.le_of_eq g55.symm))
  have ne57 : b12 ≠ b55 := Nat.ne_of_lt (Nat.lt_of_lt_of_le f52.lt (Nat.le_of_eq g55.symm))
  have ne58 : b32 ≠ b55 := Nat.ne_of_lt (Nat.lt_of_lt_of_le f53.lt (Nat.le_of_eq g55.symm))
  have f59 := f45.ext E55
  have f60 := f46.ext E55
  have f61 := f47.ext E55
  have f62 := f48.ext E55
  have f63 := f49.ext E55
  have f64 := f50.ext E55
  have f65 := f51.ext E55
  have f66 := f52.ext E55
  have f67 := f53.ext E55
  have K68 : Keep h0 h55 [x0] := K54.ext E55
  have Z68 : n0 ≤ h55.size := Nat.le_trans Z54 E55.1
  have V_b55 : ArF Z h55 b55 k55 (.object "java/lang/Object") 2 (fun _ => .null) := own_arf (Arv.new A55 (by decide))
  show Goes _ _ _ _ _ _ _ (T55.setTop (mkF m 65 #[.val (.ref x0), .val (.int (1 : Int32)), .val (.int (2 : Int32))] [(.ref b55), (.ref x0)]))
  obtain ⟨T69, h69, X69, e69, W69, st69⟩ := putF X55 hx hZ hown (host := "") (Or.inl (hw _ (List.mem_of_getElem? (i := 28) rfl))) Via.refl e55 f62 f65 (Or.inr ⟨(hw _ (List.mem_of_getElem? (i := 29) rfl)), rfl, hnm⟩) (hw _ (List.mem_of_getElem? (i := 2) rfl)) (ty := (.array (.object "java/lang/Object"))) (by decide) rfl rfl (g := (mkF m 65 #[.val (.ref x0), .val (.int (1 : Int32)), .val (.int (2 : Int32))] [(.ref b55), (.ref x0)])) rfl rfl (hb hby d1_65)
  refine Goes.step st69 ?_
  have f70 := f59.other W69 (Or.inr (slot_ne (Or.inr (hw _ (List.mem_of_getElem? (i := 12) rfl))) (Or.inr (hw _ (List.mem_of_getElem? (i := 29) rfl))) (by decide) (t := .int) (t' := (.array (.object "java/lang/Object"))) (by decide) (by decide)))
  have f71 := f60.other W69 (Or.inr (slot_ne (Or.inr (hw _ (List.mem_of_getElem? (i := 25) rfl))) (Or.inr (hw _ (List.mem_of_getElem? (i := 29) rfl))) (by decide) (t := (.array (.object "java/lang/Object"))) (t' := (.array (.object "java/lang/Object"))) (by decide) (by decide)))
  have f72 := f61.other W69 (Or.inr (slot_ne (Or.inr (hw _ (List.mem_of_getElem? (i := 27) rfl))) (Or.inr (hw _ (List.mem_of_getElem? (i := 29) rfl))) (by decide) (t := (.array .int)) (t' := (.array (.object "java/lang/Object"))) (by decide) (by decide)))
  have f73 := f62.same W69
  have f74 := f63.other W69 (Or.inr (slot_ne (Or.inr (hw _ (List.mem_of_getElem? (i := 32) rfl))) (Or.inr (hw _ (List.mem_of_getElem? (i := 29) rfl))) (by decide) (t := .int) (t' := (.array (.object "java/lang/Object"))) (by decide) (by decide)))
  have f75 := f64.other W69 (Or.inr (slot_ne (Or.inl (hw _ (List.mem_of_getElem? (i := 39) rfl))) (Or.inr (hw _ (List.mem_of_getElem? (i := 29) rfl))) (by decide) (t := .int) (t' := (.array (.object "java/lang/Object"))) (by decide) (by decide)))
  have f76 := f65.wr W69
  have f77 := f66.other W69 (Ne.symm ne13)
  have f78 := f67.other W69 (Ne.symm ne33)
  have f79 := V_b55.other W69 (Ne.symm ne56)
  have K80 : Keep h0 h69 [x0] := K68.wr W69 (Or.inl (List.mem_of_getElem? (i := 0) rfl))
  have Z80 : n0 ≤ h69.size := by rw [Wr.size W69]; exact Z68
  have N80 := Fr.snoc X69 N54 g_x0
  show Goes _ _ _ _ _ _ _ (T69.setTop (mkF m 68 #[.val (.ref x0), .val (.int (1 : Int32)), .val (.int (2 : Int32))] []))
  refine Goes.step (fun _ k => XS.aloadN X69.here hx rfl (hb hby d1_68) rfl rfl k) ?_
  show Goes _ _ _ _ _ _ _ (T69.setTop (mkF m 69 #[.val (.ref x0), .val (.int (1 : Int32)), .val (.int (2 : Int32))] [(.ref x0)]))
  refine Goes.step (fun _ k => XS.iloadN X69.here hx rfl (hb hby d1_69) rfl  k) ?_
  show Goes _ _ _ _ _ _ _ (T69.setTop (mkF m 70 #[.val (.ref x0), .val (.int (1 : Int32)), .val (.int (2 : Int32))] [(.int (2 : Int32)), (.ref x0)]))
  obtain ⟨_, _, ⟨T81, L81, k81, n81⟩, -, X81, ⟨Lc81, hQ81, l81, y81, z81⟩, st81⟩ := Jvm.LawKit.callS X69 hx (y := (⟨"java/lang/Integer", "numberOfLeadingZeros", "(I)I"⟩ : MethodName)) hown (mvT hZ (hw _ (List.mem_of_getElem? (i := 30) rfl))) (mvT hZ (hw _ (List.mem_of_getElem? (i := 19) rfl))) (mvT hZ (hw _ (List.mem_of_getElem? (i := 15) rfl))) (mvT hZ (hw _ (List.mem_of_getElem? (i := 20) rfl))) (by decide) (backOf (W := 1) (rm4_2 l Z a0 hw []  h69 n0 Z80 ) hZ (hw _ (List.mem_of_getElem? (i := 20) rfl)) (hw _ (List.mem_of_getElem? (i := 15) rfl)) (by decide) (by decide)) (g := (mkF m 70 #[.val (.ref x0), .val (.int (1 : Int32)), .val (.int (2 : Int32))] [(.int (2 : Int32)), (.ref x0)])) rfl (by rw [hml]; rfl) (argsL := [(.int (2 : Int32))]) (rest := [(.ref x0)]) (lenOf pd_2 rfl) rfl (by show 2 * 0 + _ ≤ _; exact Nat.le_of_eq rfl) (hb hby d1_70) (fun _ _ => ⟨rfl, e69, (by decide : 3 + 0 ≤ _), (by decide : 6 + 0 ≤ _)⟩)
  dsimp only [Pt.U, Pt.locs, Pt.cells, Pt.slots] at X81 l81 y81 z81 st81 hQ81
  subst l81 y81 z81
  obtain ⟨N81, KK81, hR81⟩ := hQ81
  have NA81 := Fr.app N80 N81
  obtain rfl := hR81
  refine Goes.step st81 ?_
  show Goes _ _ _ _ _ _ _ (T81.setTop (mkF m 73 #[.val (.ref x0), .val (.int (1 : Int32)), .val (.int (2 : Int32))] [(.int (30 : Int32)), (.ref x0)]))
  refine Goes.step (fun _ k => XS.iconst X81.here hx rfl (hb hby d1_73) k) ?_
  show Goes _ _ _ _ _ _ _ (T81.setTop (mkF m 74 #[.val (.ref x0), .val (.int (1 : Int32)), .val (.int (2 : Int32))] [(.int (1 : Int32)), (.int (30 : Int32)), (.ref x0)]))
  refine Goes.step (fun _ k => XS.iadd X81.here hx rfl (hb hby d1_74) rfl k) ?_
  show Goes _ _ _ _ _ _ _ (T81.setTop (mkF m 75 #[.val (.ref x0), .val (.int (1 : Int32)), .val (.int (2 : Int32))] [(.int (31 : Int32)), (.ref x0)]))
  obtain ⟨T82, h82, X82, e82, W82, st82⟩ := putF X81 hx hZ hown (host := "") (Or.inl (hw _ (List.mem_of_getElem? (i := 31) rfl))) Via.refl KK81 f74 f76 (Or.inr ⟨(hw _ (List.mem_of_getElem? (i := 32) rfl)), rfl, hnm⟩) (hw _ (List.mem_of_getElem? (i := 2) rfl)) (ty := .int) (by decide) rfl rfl (g := (mkF m 75 #[.val (.ref x0), .val (.int (1 : Int32)), .val (.int (2 : Int32))] [(.int (31 : Int32)), (.ref x0)])) rfl rfl (hb hby d1_75)
  refine Goes.step st82 ?_
  have f83 := f70.other W82 (Or.inr (slot_ne (Or.inr (hw _ (List.mem_of_getElem? (i := 12) rfl))) (Or.inr (hw _ (List.mem_of_getElem? (i := 32) rfl))) (by decide) (t := .int) (t' := .int) (by decide) (by decide)))
  have f84 := f71.other W82 (Or.inr (slot_ne (Or.inr (hw _ (List.mem_of_getElem? (i := 25) rfl))) (Or.inr (hw _ (List.mem_of_getElem? (i := 32) rfl))) (by decide) (t := (.array (.object "java/lang/Object"))) (t' := .int) (by decide) (by decide)))
  have f85 := f72.other W82 (Or.inr (slot_ne (Or.inr (hw _ (List.mem_of_getElem? (i := 27) rfl))) (Or.inr (hw _ (List.mem_of_getElem? (i := 32) rfl))) (by decide) (t := (.array .int)) (t' := .int) (by decide) (by decide)))
  have f86 := f73.other W82 (Or.inr (slot_ne (Or.inr (hw _ (List.mem_of_getElem? (i := 29) rfl))) (Or.inr (hw _ (List.mem_of_getElem? (i := 32) rfl))) (by decide) (t := (.array (.object "java/lang/Object"))) (t' := .int) (by decide) (by decide)))
  have f87 := f74.same W82
  have f88 := f75.other W82 (Or.inr (slot_ne (Or.inl (hw _ (List.mem_of_getElem? (i := 39) rfl))) (Or.inr (hw _ (List.mem_of_getElem? (i := 32) rfl))) (by decide) (t := .int) (t' := .int) (by decide) (by decide)))
  have f89 := f76.wr W82
  have f90 := f77.other W82 (Ne.symm ne13)
  have f91 := f78.other W82 (Ne.symm ne33)
  have f92 := f79.other W82 (Ne.symm ne56)
  have K93 : Keep h0 h82 [x0] := K80.wr W82 (Or.inl (List.mem_of_getElem? (i := 0) rfl))
  have Z93 : n0 ≤ h82.size := by rw [Wr.size W82]; exact Z80
  have N93 := Fr.snoc X82 NA81 g_x0
  show Goes _ _ _ _ _ _ _ (T82.setTop (mkF m 78 #[.val (.ref x0), .val (.int (1 : Int32)), .val (.int (2 : Int32))] []))
  exact Goes.retV X82 hx (BodyLoose.notSynchronized Bd) Bd.returns (hb hby d1_78) (by show Q1_1 Z x0 h0 n0 none T82.heap _; rw [e82]; exact ⟨N93, K93, ⟨b12, b32, b55, k12, k32, k55, rfl, g_b12, sz_b12, g_b32, sz_b32, g_b55, sz_b55, (Ne.symm ne34), (Ne.symm ne57), (Ne.symm ne58), f83, f84, f85, f86, f87, f88, f89, f90, f91, f92, O12, O55⟩⟩) (by decide) (by decide)
theorem ef_1_2 (m : MethodId) (x0 : Addr)  : entryFrame m #[(.ref x0), (.int (2 : Int32))] 3 = mkF m 0 #[.val (.ref x0), .val (.int (2 : Int32)), .unset] [] := by first | (simp [entryFrame, mkF, argsToLocals, Value.category]; done) | rfl
def Q1_2 (Z : State) (x0 : Addr) (h0 : Heap) (n0 : Nat) (v : Option Value) (h : Heap) (L : List Loc) : Prop := Fr n0 L ∧ Keep h0 h [x0] ∧ ((∃ (r_0 : Addr) (r_1 : Addr) (r_2 : Addr) (k_0 : ClassId) (k_1 : ClassId) (k_2 : ClassId), v = none ∧ n0 ≤ r_0 ∧ h0.size ≤ r_0 ∧ n0 ≤ r_1 ∧ h0.size ≤ r_1 ∧ n0 ≤ r_2 ∧ h0.size ≤ r_2 ∧ r_1 ≠ r_0 ∧ r_2 ≠ r_0 ∧ r_2 ≠ r_1 ∧ Fld Z h x0 "com/example/nehaba/nehaba/input/KeptValues" "most" "I" (.int (2 : Int32)) ∧ Fld Z h x0 "com/example/nehaba/nehaba/input/KeptValues" "keys" "[Ljava/lang/Object;" (.ref r_0) ∧ Fld Z h x0 "com/example/nehaba/nehaba/input/KeptValues" "hashes" "[I" (.ref r_1) ∧ Fld Z h x0 "com/example/nehaba/nehaba/input/KeptValues" "values" "[Ljava/lang/Object;" (.ref r_2) ∧ Fld Z h x0 "com/example/nehaba/nehaba/input/KeptValues" "shift" "I" (.int (30 : Int32)) ∧ Fld Z h x0 "com/example/nehaba/nehaba/input/KeptValues" "size" "I" (.int (0 : Int32)) ∧ Exa Z h x0 "com/example/nehaba/nehaba/input/KeptValues" ∧ ArF Z h r_0 k_0 (.object "java/lang/Object") 4 (fun _ => .null) ∧ ArF Z h r_1 k_1 .int 4 (fun _ => (.int (0 : Int32))) ∧ ArF Z h r_2 k_2 (.object "java/lang/Object") 4 (fun _ => .null) ∧ Ovr Z k_0 "java/lang/Object" ∧ Ovr Z k_2 "java/lang/Object"))
set_option maxRecDepth 65536 in
set_option maxHeartbeats 40000000 in
theorem rm1_2 (l : Launch) (Z : State) (a0 : Array Value) (hw : ∀ d ∈ tables_1, d.before a0 Z = true) (ws : List Jvm.Cond) (x0 : Addr) (h0 : Heap) (n0 : Nat) (Z0 : n0 ≤ h0.size) (F0_most : Fld Z h0 x0 "com/example/nehaba/nehaba/input/KeptValues" "most" "I" (.int (0 : Int32))) (F0_keys : Fld Z h0 x0 "com/example/nehaba/nehaba/input/KeptValues" "keys" "[Ljava/lang/Object;" .null) (F0_hashes : Fld Z h0 x0 "com/example/nehaba/nehaba/input/KeptValues" "hashes" "[I" .null) (F0_values : Fld Z h0 x0 "com/example/nehaba/nehaba/input/KeptValues" "values" "[Ljava/lang/Object;" .null) (F0_shift : Fld Z h0 x0 "com/example/nehaba/nehaba/input/KeptValues" "shift" "I" (.int (0 : Int32))) (F0_size : Fld Z h0 x0 "com/example/nehaba/nehaba/input/KeptValues" "size" "I" (.int (0 : Int32))) (E_x0 : Exa Z h0 x0 "com/example/nehaba/nehaba/input/KeptValues") (g_x0 : n0 ≤ x0) :
    MetFree l (⟨"com/example/nehaba/nehaba/input/KeptValues", "<init>", "(I)V"⟩ : MethodName) (head1 (Jvm.Cond.code (⟨"com/example/nehaba/nehaba/input/KeptValues", "<init>", "(I)V"⟩ : MethodName) prog_31_method_1_code 3 none :: ws) ({ frames := 2, cells := 3, slots := 12, locals := 27 } : Room)) (fun a U => a = #[(.ref x0), (.int (2 : Int32))] ∧ Z.Warmed39 U.vm ∧ U.heap = h0) (fun _ _ _ _ _ => True) (fun _ U o U' => ∃ v L, o = .returned v ∧ Q1_2 Z x0 h0 n0 v U'.heap L ∧ FrameEnd U o U' L ({ frames := 2, cells := 3, slots := 12, locals := 27 } : Room).cells ({ frames := 2, cells := 3, slots := 12, locals := 27 } : Room).slots) := by
  refine MetFree.of_bodySF (plainFor_of_name pn_1) hisR ?_
  intro p e s m args below meth c s₁ Bd hml0 hP hK
  obtain ⟨rfl, hZ, hh⟩ := hP
  have hx := Bd.exec
  have hby := Bd.bytes
  have hml : c.maxLocals = 3 := hml0
  have hown : s.vm.findClass "com/example/nehaba/nehaba/input/KeptValues" = some m.cls := findClass_of_methodNamed Bd.named
  have hnm := (name_of_methodNamed Bd.named Bd.method).1
  have X0 : Stand p l e ({ frames := 2, cells := 3, slots := 12, locals := 27 } : Room) s m #[(.ref x0), (.int (2 : Int32))] below meth c s₁ [] 0 0 := Stand.of_body Bd
  have e0 : s₁.heap = h0 := by rw [← hh, Bd.state]; rfl
  have N0 := Fr.nil n0
  have K0 : Keep h0 h0 [x0] := Keep.refl h0 _
  refine (?_ : Goes p e below s ({ frames := 2, cells := 3, slots := 12, locals := 27 } : Room).cells ({ frames := 2, cells := 3, slots := 12, locals := 27 } : Room).slots (fun v h L => Q1_2 Z x0 h0 n0 v h L) (s₁.setTop (entryFrame m #[(.ref x0), (.int (2 : Int32))] 3)))
  rw [ef_1_2 m x0 ]
  show Goes _ _ _ _ _ _ _ (s₁.setTop (mkF m 0 #[.val (.ref x0), .val (.int (2 : Int32)), .unset] []))
  refine Goes.step (fun _ k => XS.aloadN X0.here hx rfl (hb hby d1_0) rfl rfl k) ?_
  show Goes _ _ _ _ _ _ _ (s₁.setTop (mkF m 1 #[.val (.ref x0), .val (.int (2 : Int32)), .unset] [(.ref x0)]))
  obtain ⟨T1, X1, e1, st1⟩ := initO X0 hx hZ hown (hw _ (List.mem_of_getElem? (i := 7) rfl)) (hw _ (List.mem_of_getElem? (i := 8) rfl)) (hw _ (List.mem_of_getElem? (i := 9) rfl)) e0 (g := (mkF m 1 #[.val (.ref x0), .val (.int (2 : Int32)), .unset] [(.ref x0)])) rfl (by rw [hml]; rfl) rfl (hb hby d1_1) (by decide) (W := 0) (by show 2 * 0 + _ ≤ _; exact Nat.le_of_eq rfl) (by decide)
  refine Goes.step st1 ?_
  show Goes _ _ _ _ _ _ _ (T1.setTop (mkF m 4 #[.val (.ref x0), .val (.int (2 : Int32)), .unset] []))
  refine Goes.step (fun _ k => XS.iloadN X1.here hx rfl (hb hby d1_4) rfl  k) ?_
  show Goes _ _ _ _ _ _ _ (T1.setTop (mkF m 5 #[.val (.ref x0), .val (.int (2 : Int32)), .unset] [(.int (2 : Int32))]))
  refine Goes.step (fun _ k => XS.iconst X1.here hx rfl (hb hby d1_5) k) ?_
  show Goes _ _ _ _ _ _ _ (T1.setTop (mkF m 6 #[.val (.ref x0), .val (.int (2 : Int32)), .unset] [(.int (1 : Int32)), (.int (2 : Int32))]))
  refine Goes.step (fun _ k => XS.icmpNo X1.here hx rfl (hb hby d1_6) rfl (flt (by decide : ¬ ((2 : Int32) < (1 : Int32)))).1 k) ?_
  show Goes _ _ _ _ _ _ _ (T1.setTop (mkF m 9 #[.val (.ref x0), .val (.int (2 : Int32)), .unset] []))
  refine Goes.step (fun _ k => XS.iloadN X1.here hx rfl (hb hby d1_9) rfl  k) ?_
  show Goes _ _ _ _ _ _ _ (T1.setTop (mkF m 10 #[.val (.ref x0), .val (.int (2 : Int32)), .unset] [(.int (2 : Int32))]))
  refine Goes.step (fun _ k => X1.ldcInt hx hown (mvT hZ (hw _ (List.mem_of_getElem? (i := 10) rfl))) (g := (mkF m 10 #[.val (.ref x0), .val (.int (2 : Int32)), .unset] [(.int (2 : Int32))])) rfl (hb hby d1_10) _ k) ?_
  show Goes _ _ _ _ _ _ _ (T1.setTop (mkF m 12 #[.val (.ref x0), .val (.int (2 : Int32)), .unset] [(.int (536870912 : Int32)), (.int (2 : Int32))]))
  refine Goes.step (fun _ k => XS.icmpYes X1.here hx rfl (pc0 := 12) (pc' := 29) rfl (hb hby d1_12) rfl (flt (by decide : ¬ ((536870912 : Int32) < (2 : Int32)))).2.2.2 (by decide) (by decide) k) ?_
  show Goes _ _ _ _ _ _ _ (T1.setTop (mkF m 29 #[.val (.ref x0), .val (.int (2 : Int32)), .unset] []))
  refine Goes.step (fun _ k => XS.aloadN X1.here hx rfl (hb hby d1_29) rfl rfl k) ?_
  show Goes _ _ _ _ _ _ _ (T1.setTop (mkF m 30 #[.val (.ref x0), .val (.int (2 : Int32)), .unset] [(.ref x0)]))
  refine Goes.step (fun _ k => XS.iloadN X1.here hx rfl (hb hby d1_30) rfl  k) ?_
  show Goes _ _ _ _ _ _ _ (T1.setTop (mkF m 31 #[.val (.ref x0), .val (.int (2 : Int32)), .unset] [(.int (2 : Int32)), (.ref x0)]))
  obtain ⟨T2, h2, X2, e2, W2, st2⟩ := putF X1 hx hZ hown (host := "") (Or.inl (hw _ (List.mem_of_getElem? (i := 11) rfl))) Via.refl e1 F0_most E_x0 (Or.inr ⟨(hw _ (List.mem_of_getElem? (i := 12) rfl)), rfl, hnm⟩) (hw _ (List.mem_of_getElem? (i := 2) rfl)) (ty := .int) (by decide) rfl rfl (g := (mkF m 31 #[.val (.ref x0), .val (.int (2 : Int32)), .unset] [(.int (2 : Int32)), (.ref x0)])) rfl rfl (hb hby d1_31)
  refine Goes.step st2 ?_
  have f3 := F0_most.same W2
  have f4 := F0_keys.other W2 (Or.inr (slot_ne (Or.inr (hw _ (List.mem_of_getElem? (i := 25) rfl))) (Or.inr (hw _ (List.mem_of_getElem? (i := 12) rfl))) (by decide) (t := (.array (.object "java/lang/Object"))) (t' := .int) (by decide) (by decide)))
  have f5 := F0_hashes.other W2 (Or.inr (slot_ne (Or.inr (hw _ (List.mem_of_getElem? (i := 27) rfl))) (Or.inr (hw _ (List.mem_of_getElem? (i := 12) rfl))) (by decide) (t := (.array .int)) (t' := .int) (by decide) (by decide)))
  have f6 := F0_values.other W2 (Or.inr (slot_ne (Or.inr (hw _ (List.mem_of_getElem? (i := 29) rfl))) (Or.inr (hw _ (List.mem_of_getElem? (i := 12) rfl))) (by decide) (t := (.array (.object "java/lang/Object"))) (t' := .int) (by decide) (by decide)))
  have f7 := F0_shift.other W2 (Or.inr (slot_ne (Or.inr (hw _ (List.mem_of_getElem? (i := 32) rfl))) (Or.inr (hw _ (List.mem_of_getElem? (i := 12) rfl))) (by decide) (t := .int) (t' := .int) (by decide) (by decide)))
  have f8 := F0_size.other W2 (Or.inr (slot_ne (Or.inl (hw _ (List.mem_of_getElem? (i := 39) rfl))) (Or.inr (hw _ (List.mem_of_getElem? (i := 12) rfl))) (by decide) (t := .int) (t' := .int) (by decide) (by decide)))
  have f9 := E_x0.wr W2
  have K10 : Keep h0 h2 [x0] := K0.wr W2 (Or.inl (List.mem_of_getElem? (i := 0) rfl))
  have Z10 : n0 ≤ h2.size := by rw [Wr.size W2]; exact Z0
  have N10 := Fr.snoc X2 N0 g_x0
  show Goes _ _ _ _ _ _ _ (T2.setTop (mkF m 34 #[.val (.ref x0), .val (.int (2 : Int32)), .unset] []))
  refine Goes.step (fun _ k => XS.iconst X2.here hx rfl (hb hby d1_34) k) ?_
  show Goes _ _ _ _ _ _ _ (T2.setTop (mkF m 35 #[.val (.ref x0), .val (.int (2 : Int32)), .unset] [(.int (2 : Int32))]))
  refine Goes.step (fun _ k => XS.iloadN X2.here hx rfl (hb hby d1_35) rfl  k) ?_
  show Goes _ _ _ _ _ _ _ (T2.setTop (mkF m 36 #[.val (.ref x0), .val (.int (2 : Int32)), .unset] [(.int (2 : Int32)), (.int (2 : Int32))]))
  refine Goes.step (fun _ k => XS.imul X2.here hx rfl (hb hby d1_36) rfl k) ?_
  show Goes _ _ _ _ _ _ _ (T2.setTop (mkF m 37 #[.val (.ref x0), .val (.int (2 : Int32)), .unset] [(.int (4 : Int32))]))
  refine Goes.step (fun _ k => XS.iconst X2.here hx rfl (hb hby d1_37) k) ?_
  show Goes _ _ _ _ _ _ _ (T2.setTop (mkF m 38 #[.val (.ref x0), .val (.int (2 : Int32)), .unset] [(.int (1 : Int32)), (.int (4 : Int32))]))
  refine Goes.step (fun _ k => XS.isub X2.here hx rfl (hb hby d1_38) rfl k) ?_
  show Goes _ _ _ _ _ _ _ (T2.setTop (mkF m 39 #[.val (.ref x0), .val (.int (2 : Int32)), .unset] [(.int (3 : Int32))]))
  obtain ⟨_, _, ⟨T11, L11, k11, n11⟩, -, X11, ⟨Lc11, hQ11, l11, y11, z11⟩, st11⟩ := Jvm.LawKit.callS X2 hx (y := (⟨"java/lang/Integer", "highestOneBit", "(I)I"⟩ : MethodName)) hown (mvT hZ (hw _ (List.mem_of_getElem? (i := 13) rfl))) (mvT hZ (hw _ (List.mem_of_getElem? (i := 14) rfl))) (mvT hZ (hw _ (List.mem_of_getElem? (i := 15) rfl))) (mvT hZ (hw _ (List.mem_of_getElem? (i := 16) rfl))) (by decide) (backOf (W := 0) (rm3_3 l Z a0 hw []  h2 n0 Z10 ) hZ (hw _ (List.mem_of_getElem? (i := 16) rfl)) (hw _ (List.mem_of_getElem? (i := 15) rfl)) (by decide) (by decide)) (g := (mkF m 39 #[.val (.ref x0), .val (.int (2 : Int32)), .unset] [(.int (3 : Int32))])) rfl (by rw [hml]; rfl) (argsL := [(.int (3 : Int32))]) (rest := []) (lenOf pd_2 rfl) rfl (by show 2 * 0 + _ ≤ _; exact Nat.le_of_eq rfl) (hb hby d1_39) (fun _ _ => ⟨rfl, e2, (by decide : 0 + 0 ≤ _), (by decide : 0 + 0 ≤ _)⟩)
  dsimp only [Pt.U, Pt.locs, Pt.cells, Pt.slots] at X11 l11 y11 z11 st11 hQ11
  subst l11 y11 z11
  obtain ⟨N11, KK11, hR11⟩ := hQ11
  have NA11 := Fr.app N10 N11
  obtain rfl := hR11
  refine Goes.step st11 ?_
  show Goes _ _ _ _ _ _ _ (T11.setTop (mkF m 42 #[.val (.ref x0), .val (.int (2 : Int32)), .unset] [(.int (2 : Int32))]))
  refine Goes.step (fun _ k => XS.iconst X11.here hx rfl (hb hby d1_42) k) ?_
  show Goes _ _ _ _ _ _ _ (T11.setTop (mkF m 43 #[.val (.ref x0), .val (.int (2 : Int32)), .unset] [(.int (1 : Int32)), (.int (2 : Int32))]))
  refine Goes.step (fun _ k => XS.ishl X11.here hx rfl (hb hby d1_43) rfl k) ?_
  show Goes _ _ _ _ _ _ _ (T11.setTop (mkF m 44 #[.val (.ref x0), .val (.int (2 : Int32)), .unset] [(.int (4 : Int32))]))
  refine Goes.step (fun _ k => XS.istoreN X11.here hx rfl (hb hby d1_44) rfl (l' := #[.val (.ref x0), .val (.int (2 : Int32)), .val (.int (4 : Int32))]) rfl k) ?_
  show Goes _ _ _ _ _ _ _ (T11.setTop (mkF m 45 #[.val (.ref x0), .val (.int (2 : Int32)), .val (.int (4 : Int32))] []))
  refine Goes.step (fun _ k => XS.aloadN X11.here hx rfl (hb hby d1_45) rfl rfl k) ?_
  show Goes _ _ _ _ _ _ _ (T11.setTop (mkF m 46 #[.val (.ref x0), .val (.int (2 : Int32)), .val (.int (4 : Int32))] [(.ref x0)]))
  refine Goes.step (fun _ k => XS.iloadN X11.here hx rfl (hb hby d1_46) rfl  k) ?_
  show Goes _ _ _ _ _ _ _ (T11.setTop (mkF m 47 #[.val (.ref x0), .val (.int (2 : Int32)), .val (.int (4 : Int32))] [(.int (4 : Int32)), (.ref x0)]))
  obtain ⟨T12, h12, k12, X12, e12, E12, A12, O12, st12⟩ := newR X11 hx hZ hown (hw _ (List.mem_of_getElem? (i := 22) rfl)) (hw _ (List.mem_of_getElem? (i := 23) rfl)) KK11 (g := (mkF m 47 #[.val (.ref x0), .val (.int (2 : Int32)), .val (.int (4 : Int32))] [(.int (4 : Int32)), (.ref x0)])) rfl (hb hby d1_47) rfl (by decide) (cap := 4) (by decide) (by decide) (by decide) (by decide)
  obtain ⟨b12, g12⟩ : ∃ z, z = h2.size := ⟨_, rfl⟩
  rw [← g12] at A12 st12
  refine Goes.step st12 ?_
  have g_b12 : n0 ≤ b12 := Nat.le_trans Z10 (Nat.le_of_eq g12.symm)
  have sz_b12 : h0.size ≤ b12 := Nat.le_trans K10.1 (Nat.le_of_eq g12.symm)
  have ne13 : x0 ≠ b12 := Nat.ne_of_lt (Nat.lt_of_lt_of_le f3.lt (Nat.le_of_eq g12.symm))
  have f14 := f3.ext E12
  have f15 := f4.ext E12
  have f16 := f5.ext E12
  have f17 := f6.ext E12
  have f18 := f7.ext E12
  have f19 := f8.ext E12
  have f20 := f9.ext E12
  have K21 : Keep h0 h12 [x0] := K10.ext E12
  have Z21 : n0 ≤ h12.size := Nat.le_trans Z10 E12.1
  have V_b12 : ArF Z h12 b12 k12 (.object "java/lang/Object") 4 (fun _ => .null) := own_arf (Arv.new A12 (by decide))
  show Goes _ _ _ _ _ _ _ (T12.setTop (mkF m 50 #[.val (.ref x0), .val (.int (2 : Int32)), .val (.int (4 : Int32))] [(.ref b12), (.ref x0)]))
  obtain ⟨T22, h22, X22, e22, W22, st22⟩ := putF X12 hx hZ hown (host := "") (Or.inl (hw _ (List.mem_of_getElem? (i := 24) rfl))) Via.refl e12 f15 f20 (Or.inr ⟨(hw _ (List.mem_of_getElem? (i := 25) rfl)), rfl, hnm⟩) (hw _ (List.mem_of_getElem? (i := 2) rfl)) (ty := (.array (.object "java/lang/Object"))) (by decide) rfl rfl (g := (mkF m 50 #[.val (.ref x0), .val (.int (2 : Int32)), .val (.int (4 : Int32))] [(.ref b12), (.ref x0)])) rfl rfl (hb hby d1_50)
  refine Goes.step st22 ?_
  have f23 := f14.other W22 (Or.inr (slot_ne (Or.inr (hw _ (List.mem_of_getElem? (i := 12) rfl))) (Or.inr (hw _ (List.mem_of_getElem? (i := 25) rfl))) (by decide) (t := .int) (t' := (.array (.object "java/lang/Object"))) (by decide) (by decide)))
  have f24 := f15.same W22
  have f25 := f16.other W22 (Or.inr (slot_ne (Or.inr (hw _ (List.mem_of_getElem? (i := 27) rfl))) (Or.inr (hw _ (List.mem_of_getElem? (i := 25) rfl))) (by decide) (t := (.array .int)) (t' := (.array (.object "java/lang/Object"))) (by decide) (by decide)))
  have f26 := f17.other W22 (Or.inr (slot_ne (Or.inr (hw _ (List.mem_of_getElem? (i := 29) rfl))) (Or.inr (hw _ (List.mem_of_getElem? (i := 25) rfl))) (by decide) (t := (.array (.object "java/lang/Object"))) (t' := (.array (.object "java/lang/Object"))) (by decide) (by decide)))
  have f27 := f18.other W22 (Or.inr (slot_ne (Or.inr (hw _ (List.mem_of_getElem? (i := 32) rfl))) (Or.inr (hw _ (List.mem_of_getElem? (i := 25) rfl))) (by decide) (t := .int) (t' := (.array (.object "java/lang/Object"))) (by decide) (by decide)))
  have f28 := f19.other W22 (Or.inr (slot_ne (Or.inl (hw _ (List.mem_of_getElem? (i := 39) rfl))) (Or.inr (hw _ (List.mem_of_getElem? (i := 25) rfl))) (by decide) (t := .int) (t' := (.array (.object "java/lang/Object"))) (by decide) (by decide)))
  have f29 := f20.wr W22
  have f30 := V_b12.other W22 (Ne.symm ne13)
  have K31 : Keep h0 h22 [x0] := K21.wr W22 (Or.inl (List.mem_of_getElem? (i := 0) rfl))
  have Z31 : n0 ≤ h22.size := by rw [Wr.size W22]; exact Z21
  have N31 := Fr.snoc X22 NA11 g_x0
  show Goes _ _ _ _ _ _ _ (T22.setTop (mkF m 53 #[.val (.ref x0), .val (.int (2 : Int32)), .val (.int (4 : Int32))] []))
  refine Goes.step (fun _ k => XS.aloadN X22.here hx rfl (hb hby d1_53) rfl rfl k) ?_
  show Goes _ _ _ _ _ _ _ (T22.setTop (mkF m 54 #[.val (.ref x0), .val (.int (2 : Int32)), .val (.int (4 : Int32))] [(.ref x0)]))
  refine Goes.step (fun _ k => XS.iloadN X22.here hx rfl (hb hby d1_54) rfl  k) ?_
  show Goes _ _ _ _ _ _ _ (T22.setTop (mkF m 55 #[.val (.ref x0), .val (.int (2 : Int32)), .val (.int (4 : Int32))] [(.int (4 : Int32)), (.ref x0)]))
  obtain ⟨T32, h32, k32, X32, e32, E32, A32, st32⟩ := newP X22 hx hZ (hw _ (List.mem_of_getElem? (i := 0) rfl)) e22 (g := (mkF m 55 #[.val (.ref x0), .val (.int (2 : Int32)), .val (.int (4 : Int32))] [(.int (4 : Int32)), (.ref x0)])) rfl (hb hby d1_55) rfl (by decide) (cap := 4) (by decide) (by decide) (by decide) (by decide)
  obtain ⟨b32, g32⟩ : ∃ z, z = h22.size := ⟨_, rfl⟩
  rw [← g32] at A32 st32
  refine Goes.step st32 ?_
  have g_b32 : n0 ≤ b32 := Nat.le_trans Z31 (Nat.le_of_eq g32.symm)
  have sz_b32 : h0.size ≤ b32 := Nat.le_trans K31.1 (Nat.le_of_eq g32.symm)
  have ne33 : x0 ≠ b32 := Nat.ne_of_lt (Nat.lt_of_lt_of_le f23.lt (Nat.le_of_eq g32.symm))
  have ne34 : b12 ≠ b32 := Nat.ne_of_lt (Nat.lt_of_lt_of_le f30.lt (Nat.le_of_eq g32.symm))
  have f35 := f23.ext E32
  have f36 := f24.ext E32
  have f37 := f25.ext E32
  have f38 := f26.ext E32
  have f39 := f27.ext E32
  have f40 := f28.ext E32
  have f41 := f29.ext E32
  have f42 := f30.ext E32
  have K43 : Keep h0 h32 [x0] := K31.ext E32
  have Z43 : n0 ≤ h32.size := Nat.le_trans Z31 E32.1
  have V_b32 : ArF Z h32 b32 k32 .int 4 (fun _ => (.int (0 : Int32))) := own_arf (Arv.new A32 (by decide))
  show Goes _ _ _ _ _ _ _ (T32.setTop (mkF m 57 #[.val (.ref x0), .val (.int (2 : Int32)), .val (.int (4 : Int32))] [(.ref b32), (.ref x0)]))
  obtain ⟨T44, h44, X44, e44, W44, st44⟩ := putF X32 hx hZ hown (host := "") (Or.inl (hw _ (List.mem_of_getElem? (i := 26) rfl))) Via.refl e32 f37 f41 (Or.inr ⟨(hw _ (List.mem_of_getElem? (i := 27) rfl)), rfl, hnm⟩) (hw _ (List.mem_of_getElem? (i := 2) rfl)) (ty := (.array .int)) (by decide) rfl rfl (g := (mkF m 57 #[.val (.ref x0), .val (.int (2 : Int32)), .val (.int (4 : Int32))] [(.ref b32), (.ref x0)])) rfl rfl (hb hby d1_57)
  refine Goes.step st44 ?_
  have f45 := f35.other W44 (Or.inr (slot_ne (Or.inr (hw _ (List.mem_of_getElem? (i := 12) rfl))) (Or.inr (hw _ (List.mem_of_getElem? (i := 27) rfl))) (by decide) (t := .int) (t' := (.array .int)) (by decide) (by decide)))
  have f46 := f36.other W44 (Or.inr (slot_ne (Or.inr (hw _ (List.mem_of_getElem? (i := 25) rfl))) (Or.inr (hw _ (List.mem_of_getElem? (i := 27) rfl))) (by decide) (t := (.array (.object "java/lang/Object"))) (t' := (.array .int)) (by decide) (by decide)))
  have f47 := f37.same W44
  have f48 := f38.other W44 (Or.inr (slot_ne (Or.inr (hw _ (List.mem_of_getElem? (i := 29) rfl))) (Or.inr (hw _ (List.mem_of_getElem? (i := 27) rfl))) (by decide) (t := (.array (.object "java/lang/Object"))) (t' := (.array .int)) (by decide) (by decide)))
  have f49 := f39.other W44 (Or.inr (slot_ne (Or.inr (hw _ (List.mem_of_getElem? (i := 32) rfl))) (Or.inr (hw _ (List.mem_of_getElem? (i := 27) rfl))) (by decide) (t := .int) (t' := (.array .int)) (by decide) (by decide)))
  have f50 := f40.other W44 (Or.inr (slot_ne (Or.inl (hw _ (List.mem_of_getElem? (i := 39) rfl))) (Or.inr (hw _ (List.mem_of_getElem? (i := 27) rfl))) (by decide) (t := .int) (t' := (.array .int)) (by decide) (by decide)))
  have f51 := f41.wr W44
  have f52 := f42.other W44 (Ne.symm ne13)
  have f53 := V_b32.other W44 (Ne.symm ne33)
  have K54 : Keep h0 h44 [x0] := K43.wr W44 (Or.inl (List.mem_of_getElem? (i := 0) rfl))
  have Z54 : n0 ≤ h44.size := by rw [Wr.size W44]; exact Z43
  have N54 := Fr.snoc X44 N31 g_x0
  show Goes _ _ _ _ _ _ _ (T44.setTop (mkF m 60 #[.val (.ref x0), .val (.int (2 : Int32)), .val (.int (4 : Int32))] []))
  refine Goes.step (fun _ k => XS.aloadN X44.here hx rfl (hb hby d1_60) rfl rfl k) ?_
  show Goes _ _ _ _ _ _ _ (T44.setTop (mkF m 61 #[.val (.ref x0), .val (.int (2 : Int32)), .val (.int (4 : Int32))] [(.ref x0)]))
  refine Goes.step (fun _ k => XS.iloadN X44.here hx rfl (hb hby d1_61) rfl  k) ?_
  show Goes _ _ _ _ _ _ _ (T44.setTop (mkF m 62 #[.val (.ref x0), .val (.int (2 : Int32)), .val (.int (4 : Int32))] [(.int (4 : Int32)), (.ref x0)]))
  obtain ⟨T55, h55, k55, X55, e55, E55, A55, O55, st55⟩ := newR X44 hx hZ hown (hw _ (List.mem_of_getElem? (i := 22) rfl)) (hw _ (List.mem_of_getElem? (i := 23) rfl)) e44 (g := (mkF m 62 #[.val (.ref x0), .val (.int (2 : Int32)), .val (.int (4 : Int32))] [(.int (4 : Int32)), (.ref x0)])) rfl (hb hby d1_62) rfl (by decide) (cap := 4) (by decide) (by decide) (by decide) (by decide)
  obtain ⟨b55, g55⟩ : ∃ z, z = h44.size := ⟨_, rfl⟩
  rw [← g55] at A55 st55
  refine Goes.step st55 ?_
  have g_b55 : n0 ≤ b55 := Nat.le_trans Z54 (Nat.le_of_eq g55.symm)
  have sz_b55 : h0.size ≤ b55 := Nat.le_trans K54.1 (Nat.le_of_eq g55.symm)
  have ne56 : x0 ≠ b55 := Nat.ne_of_lt (Nat.lt_of_lt_of_le f45.lt (Nat.le_of_eq g55.symm))
  have ne57 : b12 ≠ b55 := Nat.ne_of_lt (Nat.lt_of_lt_of_le f52.lt (Nat.le_of_eq g55.symm))
  have ne58 : b32 ≠ b55 := Nat.ne_of_lt (Nat.lt_of_lt_of_le f53.lt (Nat.le_of_eq g55.symm))
  have f59 := f45.ext E55
  have f60 := f46.ext E55
  have f61 := f47.ext E55
  have f62 := f48.ext E55
  have f63 := f49.ext E55
  have f64 := f50.ext E55
  have f65 := f51.ext E55
  have f66 := f52.ext E55
  have f67 := f53.ext E55
  have K68 : Keep h0 h55 [x0] := K54.ext E55
  have Z68 : n0 ≤ h55.size := Nat.le_trans Z54 E55.1
  have V_b55 : ArF Z h55 b55 k55 (.object "java/lang/Object") 4 (fun _ => .null) := own_arf (Arv.new A55 (by decide))
  show Goes _ _ _ _ _ _ _ (T55.setTop (mkF m 65 #[.val (.ref x0), .val (.int (2 : Int32)), .val (.int (4 : Int32))] [(.ref b55), (.ref x0)]))
  obtain ⟨T69, h69, X69, e69, W69, st69⟩ := putF X55 hx hZ hown (host := "") (Or.inl (hw _ (List.mem_of_getElem? (i := 28) rfl))) Via.refl e55 f62 f65 (Or.inr ⟨(hw _ (List.mem_of_getElem? (i := 29) rfl)), rfl, hnm⟩) (hw _ (List.mem_of_getElem? (i := 2) rfl)) (ty := (.array (.object "java/lang/Object"))) (by decide) rfl rfl (g := (mkF m 65 #[.val (.ref x0), .val (.int (2 : Int32)), .val (.int (4 : Int32))] [(.ref b55), (.ref x0)])) rfl rfl (hb hby d1_65)
  refine Goes.step st69 ?_
  have f70 := f59.other W69 (Or.inr (slot_ne (Or.inr (hw _ (List.mem_of_getElem? (i := 12) rfl))) (Or.inr (hw _ (List.mem_of_getElem? (i := 29) rfl))) (by decide) (t := .int) (t' := (.array (.object "java/lang/Object"))) (by decide) (by decide)))
  have f71 := f60.other W69 (Or.inr (slot_ne (Or.inr (hw _ (List.mem_of_getElem? (i := 25) rfl))) (Or.inr (hw _ (List.mem_of_getElem? (i := 29) rfl))) (by decide) (t := (.array (.object "java/lang/Object"))) (t' := (.array (.object "java/lang/Object"))) (by decide) (by decide)))
  have f72 := f61.other W69 (Or.inr (slot_ne (Or.inr (hw _ (List.mem_of_getElem? (i := 27) rfl))) (Or.inr (hw _ (List.mem_of_getElem? (i := 29) rfl))) (by decide) (t := (.array .int)) (t' := (.array (.object "java/lang/Object"))) (by decide) (by decide)))
  have f73 := f62.same W69
  have f74 := f63.other W69 (Or.inr (slot_ne (Or.inr (hw _ (List.mem_of_getElem? (i := 32) rfl))) (Or.inr (hw _ (List.mem_of_getElem? (i := 29) rfl))) (by decide) (t := .int) (t' := (.array (.object "java/lang/Object"))) (by decide) (by decide)))
  have f75 := f64.other W69 (Or.inr (slot_ne (Or.inl (hw _ (List.mem_of_getElem? (i := 39) rfl))) (Or.inr (hw _ (List.mem_of_getElem? (i := 29) rfl))) (by decide) (t := .int) (t' := (.array (.object "java/lang/Object"))) (by decide) (by decide)))
  have f76 := f65.wr W69
  have f77 := f66.other W69 (Ne.symm ne13)
  have f78 := f67.other W69 (Ne.symm ne33)
  have f79 := V_b55.other W69 (Ne.symm ne56)
  have K80 : Keep h0 h69 [x0] := K68.wr W69 (Or.inl (List.mem_of_getElem? (i := 0) rfl))
  have Z80 : n0 ≤ h69.size := by rw [Wr.size W69]; exact Z68
  have N80 := Fr.snoc X69 N54 g_x0
  show Goes _ _ _ _ _ _ _ (T69.setTop (mkF m 68 #[.val (.ref x0), .val (.int (2 : Int32)), .val (.int (4 : Int32))] []))
  refine Goes.step (fun _ k => XS.aloadN X69.here hx rfl (hb hby d1_68) rfl rfl k) ?_
  show Goes _ _ _ _ _ _ _ (T69.setTop (mkF m 69 #[.val (.ref x0), .val (.int (2 : Int32)), .val (.int (4 : Int32))] [(.ref x0)]))
  refine Goes.step (fun _ k => XS.iloadN X69.here hx rfl (hb hby d1_69) rfl  k) ?_
  show Goes _ _ _ _ _ _ _ (T69.setTop (mkF m 70 #[.val (.ref x0), .val (.int (2 : Int32)), .val (.int (4 : Int32))] [(.int (4 : Int32)), (.ref x0)]))
  obtain ⟨_, _, ⟨T81, L81, k81, n81⟩, -, X81, ⟨Lc81, hQ81, l81, y81, z81⟩, st81⟩ := Jvm.LawKit.callS X69 hx (y := (⟨"java/lang/Integer", "numberOfLeadingZeros", "(I)I"⟩ : MethodName)) hown (mvT hZ (hw _ (List.mem_of_getElem? (i := 30) rfl))) (mvT hZ (hw _ (List.mem_of_getElem? (i := 19) rfl))) (mvT hZ (hw _ (List.mem_of_getElem? (i := 15) rfl))) (mvT hZ (hw _ (List.mem_of_getElem? (i := 20) rfl))) (by decide) (backOf (W := 1) (rm4_4 l Z a0 hw []  h69 n0 Z80 ) hZ (hw _ (List.mem_of_getElem? (i := 20) rfl)) (hw _ (List.mem_of_getElem? (i := 15) rfl)) (by decide) (by decide)) (g := (mkF m 70 #[.val (.ref x0), .val (.int (2 : Int32)), .val (.int (4 : Int32))] [(.int (4 : Int32)), (.ref x0)])) rfl (by rw [hml]; rfl) (argsL := [(.int (4 : Int32))]) (rest := [(.ref x0)]) (lenOf pd_2 rfl) rfl (by show 2 * 0 + _ ≤ _; exact Nat.le_of_eq rfl) (hb hby d1_70) (fun _ _ => ⟨rfl, e69, (by decide : 3 + 0 ≤ _), (by decide : 12 + 0 ≤ _)⟩)
  dsimp only [Pt.U, Pt.locs, Pt.cells, Pt.slots] at X81 l81 y81 z81 st81 hQ81
  subst l81 y81 z81
  obtain ⟨N81, KK81, hR81⟩ := hQ81
  have NA81 := Fr.app N80 N81
  obtain rfl := hR81
  refine Goes.step st81 ?_
  show Goes _ _ _ _ _ _ _ (T81.setTop (mkF m 73 #[.val (.ref x0), .val (.int (2 : Int32)), .val (.int (4 : Int32))] [(.int (29 : Int32)), (.ref x0)]))
  refine Goes.step (fun _ k => XS.iconst X81.here hx rfl (hb hby d1_73) k) ?_
  show Goes _ _ _ _ _ _ _ (T81.setTop (mkF m 74 #[.val (.ref x0), .val (.int (2 : Int32)), .val (.int (4 : Int32))] [(.int (1 : Int32)), (.int (29 : Int32)), (.ref x0)]))
  refine Goes.step (fun _ k => XS.iadd X81.here hx rfl (hb hby d1_74) rfl k) ?_
  show Goes _ _ _ _ _ _ _ (T81.setTop (mkF m 75 #[.val (.ref x0), .val (.int (2 : Int32)), .val (.int (4 : Int32))] [(.int (30 : Int32)), (.ref x0)]))
  obtain ⟨T82, h82, X82, e82, W82, st82⟩ := putF X81 hx hZ hown (host := "") (Or.inl (hw _ (List.mem_of_getElem? (i := 31) rfl))) Via.refl KK81 f74 f76 (Or.inr ⟨(hw _ (List.mem_of_getElem? (i := 32) rfl)), rfl, hnm⟩) (hw _ (List.mem_of_getElem? (i := 2) rfl)) (ty := .int) (by decide) rfl rfl (g := (mkF m 75 #[.val (.ref x0), .val (.int (2 : Int32)), .val (.int (4 : Int32))] [(.int (30 : Int32)), (.ref x0)])) rfl rfl (hb hby d1_75)
  refine Goes.step st82 ?_
  have f83 := f70.other W82 (Or.inr (slot_ne (Or.inr (hw _ (List.mem_of_getElem? (i := 12) rfl))) (Or.inr (hw _ (List.mem_of_getElem? (i := 32) rfl))) (by decide) (t := .int) (t' := .int) (by decide) (by decide)))
  have f84 := f71.other W82 (Or.inr (slot_ne (Or.inr (hw _ (List.mem_of_getElem? (i := 25) rfl))) (Or.inr (hw _ (List.mem_of_getElem? (i := 32) rfl))) (by decide) (t := (.array (.object "java/lang/Object"))) (t' := .int) (by decide) (by decide)))
  have f85 := f72.other W82 (Or.inr (slot_ne (Or.inr (hw _ (List.mem_of_getElem? (i := 27) rfl))) (Or.inr (hw _ (List.mem_of_getElem? (i := 32) rfl))) (by decide) (t := (.array .int)) (t' := .int) (by decide) (by decide)))
  have f86 := f73.other W82 (Or.inr (slot_ne (Or.inr (hw _ (List.mem_of_getElem? (i := 29) rfl))) (Or.inr (hw _ (List.mem_of_getElem? (i := 32) rfl))) (by decide) (t := (.array (.object "java/lang/Object"))) (t' := .int) (by decide) (by decide)))
  have f87 := f74.same W82
  have f88 := f75.other W82 (Or.inr (slot_ne (Or.inl (hw _ (List.mem_of_getElem? (i := 39) rfl))) (Or.inr (hw _ (List.mem_of_getElem? (i := 32) rfl))) (by decide) (t := .int) (t' := .int) (by decide) (by decide)))
  have f89 := f76.wr W82
  have f90 := f77.other W82 (Ne.symm ne13)
  have f91 := f78.other W82 (Ne.symm ne33)
  have f92 := f79.other W82 (Ne.symm ne56)
  have K93 : Keep h0 h82 [x0] := K80.wr W82 (Or.inl (List.mem_of_getElem? (i := 0) rfl))
  have Z93 : n0 ≤ h82.size := by rw [Wr.size W82]; exact Z80
  have N93 := Fr.snoc X82 NA81 g_x0
  show Goes _ _ _ _ _ _ _ (T82.setTop (mkF m 78 #[.val (.ref x0), .val (.int (2 : Int32)), .val (.int (4 : Int32))] []))
  exact Goes.retV X82 hx (BodyLoose.notSynchronized Bd) Bd.returns (hb hby d1_78) (by show Q1_2 Z x0 h0 n0 none T82.heap _; rw [e82]; exact ⟨N93, K93, ⟨b12, b32, b55, k12, k32, k55, rfl, g_b12, sz_b12, g_b32, sz_b32, g_b55, sz_b55, (Ne.symm ne34), (Ne.symm ne57), (Ne.symm ne58), f83, f84, f85, f86, f87, f88, f89, f90, f91, f92, O12, O55⟩⟩) (by decide) (by decide)
theorem ef_1_3 (m : MethodId) (x0 : Addr)  : entryFrame m #[(.ref x0), (.int (3 : Int32))] 3 = mkF m 0 #[.val (.ref x0), .val (.int (3 : Int32)), .unset] [] := by first | (simp [entryFrame, mkF, argsToLocals, Value.category]; done) | rfl
def Q1_3 (Z : State) (x0 : Addr) (h0 : Heap) (n0 : Nat) (v : Option Value) (h : Heap) (L : List Loc) : Prop := Fr n0 L ∧ Keep h0 h [x0] ∧ ((∃ (r_0 : Addr) (r_1 : Addr) (r_2 : Addr) (k_0 : ClassId) (k_1 : ClassId) (k_2 : ClassId), v = none ∧ n0 ≤ r_0 ∧ h0.size ≤ r_0 ∧ n0 ≤ r_1 ∧ h0.size ≤ r_1 ∧ n0 ≤ r_2 ∧ h0.size ≤ r_2 ∧ r_1 ≠ r_0 ∧ r_2 ≠ r_0 ∧ r_2 ≠ r_1 ∧ Fld Z h x0 "com/example/nehaba/nehaba/input/KeptValues" "most" "I" (.int (3 : Int32)) ∧ Fld Z h x0 "com/example/nehaba/nehaba/input/KeptValues" "keys" "[Ljava/lang/Object;" (.ref r_0) ∧ Fld Z h x0 "com/example/nehaba/nehaba/input/KeptValues" "hashes" "[I" (.ref r_1) ∧ Fld Z h x0 "com/example/nehaba/nehaba/input/KeptValues" "values" "[Ljava/lang/Object;" (.ref r_2) ∧ Fld Z h x0 "com/example/nehaba/nehaba/input/KeptValues" "shift" "I" (.int (29 : Int32)) ∧ Fld Z h x0 "com/example/nehaba/nehaba/input/KeptValues" "size" "I" (.int (0 : Int32)) ∧ Exa Z h x0 "com/example/nehaba/nehaba/input/KeptValues" ∧ ArF Z h r_0 k_0 (.object "java/lang/Object") 8 (fun _ => .null) ∧ ArF Z h r_1 k_1 .int 8 (fun _ => (.int (0 : Int32))) ∧ ArF Z h r_2 k_2 (.object "java/lang/Object") 8 (fun _ => .null) ∧ Ovr Z k_0 "java/lang/Object" ∧ Ovr Z k_2 "java/lang/Object"))
set_option maxRecDepth 65536 in
set_option maxHeartbeats 40000000 in
theorem rm1_3 (l : Launch) (Z : State) (a0 : Array Value) (hw : ∀ d ∈ tables_1, d.before a0 Z = true) (ws : List Jvm.Cond) (x0 : Addr) (h0 : Heap) (n0 : Nat) (Z0 : n0 ≤ h0.size) (F0_most : Fld Z h0 x0 "com/example/nehaba/nehaba/input/KeptValues" "most" "I" (.int (0 : Int32))) (F0_keys : Fld Z h0 x0 "com/example/nehaba/nehaba/input/KeptValues" "keys" "[Ljava/lang/Object;" .null) (F0_hashes : Fld Z h0 x0 "com/example/nehaba/nehaba/input/KeptValues" "hashes" "[I" .null) (F0_values : Fld Z h0 x0 "com/example/nehaba/nehaba/input/KeptValues" "values" "[Ljava/lang/Object;" .null) (F0_shift : Fld Z h0 x0 "com/example/nehaba/nehaba/input/KeptValues" "shift" "I" (.int (0 : Int32))) (F0_size : Fld Z h0 x0 "com/example/nehaba/nehaba/input/KeptValues" "size" "I" (.int (0 : Int32))) (E_x0 : Exa Z h0 x0 "com/example/nehaba/nehaba/input/KeptValues") (g_x0 : n0 ≤ x0) :
    MetFree l (⟨"com/example/nehaba/nehaba/input/KeptValues", "<init>", "(I)V"⟩ : MethodName) (head1 (Jvm.Cond.code (⟨"com/example/nehaba/nehaba/input/KeptValues", "<init>", "(I)V"⟩ : MethodName) prog_31_method_1_code 3 none :: ws) ({ frames := 2, cells := 3, slots := 24, locals := 27 } : Room)) (fun a U => a = #[(.ref x0), (.int (3 : Int32))] ∧ Z.Warmed39 U.vm ∧ U.heap = h0) (fun _ _ _ _ _ => True) (fun _ U o U' => ∃ v L, o = .returned v ∧ Q1_3 Z x0 h0 n0 v U'.heap L ∧ FrameEnd U o U' L ({ frames := 2, cells := 3, slots := 24, locals := 27 } : Room).cells ({ frames := 2, cells := 3, slots := 24, locals := 27 } : Room).slots) := by
  refine MetFree.of_bodySF (plainFor_of_name pn_1) hisR ?_
  intro p e s m args below meth c s₁ Bd hml0 hP hK
  obtain ⟨rfl, hZ, hh⟩ := hP
  have hx := Bd.exec
  have hby := Bd.bytes
  have hml : c.maxLocals = 3 := hml0
  have hown : s.vm.findClass "com/example/nehaba/nehaba/input/KeptValues" = some m.cls := findClass_of_methodNamed Bd.named
  have hnm := (name_of_methodNamed Bd.named Bd.method).1
  have X0 : Stand p l e ({ frames := 2, cells := 3, slots := 24, locals := 27 } : Room) s m #[(.ref x0), (.int (3 : Int32))] below meth c s₁ [] 0 0 := Stand.of_body Bd
  have e0 : s₁.heap = h0 := by rw [← hh, Bd.state]; rfl
  have N0 := Fr.nil n0
  have K0 : Keep h0 h0 [x0] := Keep.refl h0 _
  refine (?_ : Goes p e below s ({ frames := 2, cells := 3, slots := 24, locals := 27 } : Room).cells ({ frames := 2, cells := 3, slots := 24, locals := 27 } : Room).slots (fun v h L => Q1_3 Z x0 h0 n0 v h L) (s₁.setTop (entryFrame m #[(.ref x0), (.int (3 : Int32))] 3)))
  rw [ef_1_3 m x0 ]
  show Goes _ _ _ _ _ _ _ (s₁.setTop (mkF m 0 #[.val (.ref x0), .val (.int (3 : Int32)), .unset] []))
  refine Goes.step (fun _ k => XS.aloadN X0.here hx rfl (hb hby d1_0) rfl rfl k) ?_
  show Goes _ _ _ _ _ _ _ (s₁.setTop (mkF m 1 #[.val (.ref x0), .val (.int (3 : Int32)), .unset] [(.ref x0)]))
  obtain ⟨T1, X1, e1, st1⟩ := initO X0 hx hZ hown (hw _ (List.mem_of_getElem? (i := 7) rfl)) (hw _ (List.mem_of_getElem? (i := 8) rfl)) (hw _ (List.mem_of_getElem? (i := 9) rfl)) e0 (g := (mkF m 1 #[.val (.ref x0), .val (.int (3 : Int32)), .unset] [(.ref x0)])) rfl (by rw [hml]; rfl) rfl (hb hby d1_1) (by decide) (W := 0) (by show 2 * 0 + _ ≤ _; exact Nat.le_of_eq rfl) (by decide)
  refine Goes.step st1 ?_
  show Goes _ _ _ _ _ _ _ (T1.setTop (mkF m 4 #[.val (.ref x0), .val (.int (3 : Int32)), .unset] []))
  refine Goes.step (fun _ k => XS.iloadN X1.here hx rfl (hb hby d1_4) rfl  k) ?_
  show Goes _ _ _ _ _ _ _ (T1.setTop (mkF m 5 #[.val (.ref x0), .val (.int (3 : Int32)), .unset] [(.int (3 : Int32))]))
  refine Goes.step (fun _ k => XS.iconst X1.here hx rfl (hb hby d1_5) k) ?_
  show Goes _ _ _ _ _ _ _ (T1.setTop (mkF m 6 #[.val (.ref x0), .val (.int (3 : Int32)), .unset] [(.int (1 : Int32)), (.int (3 : Int32))]))
  refine Goes.step (fun _ k => XS.icmpNo X1.here hx rfl (hb hby d1_6) rfl (flt (by decide : ¬ ((3 : Int32) < (1 : Int32)))).1 k) ?_
  show Goes _ _ _ _ _ _ _ (T1.setTop (mkF m 9 #[.val (.ref x0), .val (.int (3 : Int32)), .unset] []))
  refine Goes.step (fun _ k => XS.iloadN X1.here hx rfl (hb hby d1_9) rfl  k) ?_
  show Goes _ _ _ _ _ _ _ (T1.setTop (mkF m 10 #[.val (.ref x0), .val (.int (3 : Int32)), .unset] [(.int (3 : Int32))]))
  refine Goes.step (fun _ k => X1.ldcInt hx hown (mvT hZ (hw _ (List.mem_of_getElem? (i := 10) rfl))) (g := (mkF m 10 #[.val (.ref x0), .val (.int (3 : Int32)), .unset] [(.int (3 : Int32))])) rfl (hb hby d1_10) _ k) ?_
  show Goes _ _ _ _ _ _ _ (T1.setTop (mkF m 12 #[.val (.ref x0), .val (.int (3 : Int32)), .unset] [(.int (536870912 : Int32)), (.int (3 : Int32))]))
  refine Goes.step (fun _ k => XS.icmpYes X1.here hx rfl (pc0 := 12) (pc' := 29) rfl (hb hby d1_12) rfl (flt (by decide : ¬ ((536870912 : Int32) < (3 : Int32)))).2.2.2 (by decide) (by decide) k) ?_
  show Goes _ _ _ _ _ _ _ (T1.setTop (mkF m 29 #[.val (.ref x0), .val (.int (3 : Int32)), .unset] []))
  refine Goes.step (fun _ k => XS.aloadN X1.here hx rfl (hb hby d1_29) rfl rfl k) ?_
  show Goes _ _ _ _ _ _ _ (T1.setTop (mkF m 30 #[.val (.ref x0), .val (.int (3 : Int32)), .unset] [(.ref x0)]))
  refine Goes.step (fun _ k => XS.iloadN X1.here hx rfl (hb hby d1_30) rfl  k) ?_
  show Goes _ _ _ _ _ _ _ (T1.setTop (mkF m 31 #[.val (.ref x0), .val (.int (3 : Int32)), .unset] [(.int (3 : Int32)), (.ref x0)]))
  obtain ⟨T2, h2, X2, e2, W2, st2⟩ := putF X1 hx hZ hown (host := "") (Or.inl (hw _ (List.mem_of_getElem? (i := 11) rfl))) Via.refl e1 F0_most E_x0 (Or.inr ⟨(hw _ (List.mem_of_getElem? (i := 12) rfl)), rfl, hnm⟩) (hw _ (List.mem_of_getElem? (i := 2) rfl)) (ty := .int) (by decide) rfl rfl (g := (mkF m 31 #[.val (.ref x0), .val (.int (3 : Int32)), .unset] [(.int (3 : Int32)), (.ref x0)])) rfl rfl (hb hby d1_31)
  refine Goes.step st2 ?_
  have f3 := F0_most.same W2
  have f4 := F0_keys.other W2 (Or.inr (slot_ne (Or.inr (hw _ (List.mem_of_getElem? (i := 25) rfl))) (Or.inr (hw _ (List.mem_of_getElem? (i := 12) rfl))) (by decide) (t := (.array (.object "java/lang/Object"))) (t' := .int) (by decide) (by decide)))
  have f5 := F0_hashes.other W2 (Or.inr (slot_ne (Or.inr (hw _ (List.mem_of_getElem? (i := 27) rfl))) (Or.inr (hw _ (List.mem_of_getElem? (i := 12) rfl))) (by decide) (t := (.array .int)) (t' := .int) (by decide) (by decide)))
  have f6 := F0_values.other W2 (Or.inr (slot_ne (Or.inr (hw _ (List.mem_of_getElem? (i := 29) rfl))) (Or.inr (hw _ (List.mem_of_getElem? (i := 12) rfl))) (by decide) (t := (.array (.object "java/lang/Object"))) (t' := .int) (by decide) (by decide)))
  have f7 := F0_shift.other W2 (Or.inr (slot_ne (Or.inr (hw _ (List.mem_of_getElem? (i := 32) rfl))) (Or.inr (hw _ (List.mem_of_getElem? (i := 12) rfl))) (by decide) (t := .int) (t' := .int) (by decide) (by decide)))
  have f8 := F0_size.other W2 (Or.inr (slot_ne (Or.inl (hw _ (List.mem_of_getElem? (i := 39) rfl))) (Or.inr (hw _ (List.mem_of_getElem? (i := 12) rfl))) (by decide) (t := .int) (t' := .int) (by decide) (by decide)))
  have f9 := E_x0.wr W2
  have K10 : Keep h0 h2 [x0] := K0.wr W2 (Or.inl (List.mem_of_getElem? (i := 0) rfl))
  have Z10 : n0 ≤ h2.size := by rw [Wr.size W2]; exact Z0
  have N10 := Fr.snoc X2 N0 g_x0
  show Goes _ _ _ _ _ _ _ (T2.setTop (mkF m 34 #[.val (.ref x0), .val (.int (3 : Int32)), .unset] []))
  refine Goes.step (fun _ k => XS.iconst X2.here hx rfl (hb hby d1_34) k) ?_
  show Goes _ _ _ _ _ _ _ (T2.setTop (mkF m 35 #[.val (.ref x0), .val (.int (3 : Int32)), .unset] [(.int (2 : Int32))]))
  refine Goes.step (fun _ k => XS.iloadN X2.here hx rfl (hb hby d1_35) rfl  k) ?_
  show Goes _ _ _ _ _ _ _ (T2.setTop (mkF m 36 #[.val (.ref x0), .val (.int (3 : Int32)), .unset] [(.int (3 : Int32)), (.int (2 : Int32))]))
  refine Goes.step (fun _ k => XS.imul X2.here hx rfl (hb hby d1_36) rfl k) ?_
  show Goes _ _ _ _ _ _ _ (T2.setTop (mkF m 37 #[.val (.ref x0), .val (.int (3 : Int32)), .unset] [(.int (6 : Int32))]))
  refine Goes.step (fun _ k => XS.iconst X2.here hx rfl (hb hby d1_37) k) ?_
  show Goes _ _ _ _ _ _ _ (T2.setTop (mkF m 38 #[.val (.ref x0), .val (.int (3 : Int32)), .unset] [(.int (1 : Int32)), (.int (6 : Int32))]))
  refine Goes.step (fun _ k => XS.isub X2.here hx rfl (hb hby d1_38) rfl k) ?_
  show Goes _ _ _ _ _ _ _ (T2.setTop (mkF m 39 #[.val (.ref x0), .val (.int (3 : Int32)), .unset] [(.int (5 : Int32))]))
  obtain ⟨_, _, ⟨T11, L11, k11, n11⟩, -, X11, ⟨Lc11, hQ11, l11, y11, z11⟩, st11⟩ := Jvm.LawKit.callS X2 hx (y := (⟨"java/lang/Integer", "highestOneBit", "(I)I"⟩ : MethodName)) hown (mvT hZ (hw _ (List.mem_of_getElem? (i := 13) rfl))) (mvT hZ (hw _ (List.mem_of_getElem? (i := 14) rfl))) (mvT hZ (hw _ (List.mem_of_getElem? (i := 15) rfl))) (mvT hZ (hw _ (List.mem_of_getElem? (i := 16) rfl))) (by decide) (backOf (W := 0) (rm3_5 l Z a0 hw []  h2 n0 Z10 ) hZ (hw _ (List.mem_of_getElem? (i := 16) rfl)) (hw _ (List.mem_of_getElem? (i := 15) rfl)) (by decide) (by decide)) (g := (mkF m 39 #[.val (.ref x0), .val (.int (3 : Int32)), .unset] [(.int (5 : Int32))])) rfl (by rw [hml]; rfl) (argsL := [(.int (5 : Int32))]) (rest := []) (lenOf pd_2 rfl) rfl (by show 2 * 0 + _ ≤ _; exact Nat.le_of_eq rfl) (hb hby d1_39) (fun _ _ => ⟨rfl, e2, (by decide : 0 + 0 ≤ _), (by decide : 0 + 0 ≤ _)⟩)
  dsimp only [Pt.U, Pt.locs, Pt.cells, Pt.slots] at X11 l11 y11 z11 st11 hQ11
  subst l11 y11 z11
  obtain ⟨N11, KK11, hR11⟩ := hQ11
  have NA11 := Fr.app N10 N11
  obtain rfl := hR11
  refine Goes.step st11 ?_
  show Goes _ _ _ _ _ _ _ (T11.setTop (mkF m 42 #[.val (.ref x0), .val (.int (3 : Int32)), .unset] [(.int (4 : Int32))]))
  refine Goes.step (fun _ k => XS.iconst X11.here hx rfl (hb hby d1_42) k) ?_
  show Goes _ _ _ _ _ _ _ (T11.setTop (mkF m 43 #[.val (.ref x0), .val (.int (3 : Int32)), .unset] [(.int (1 : Int32)), (.int (4 : Int32))]))
  refine Goes.step (fun _ k => XS.ishl X11.here hx rfl (hb hby d1_43) rfl k) ?_
  show Goes _ _ _ _ _ _ _ (T11.setTop (mkF m 44 #[.val (.ref x0), .val (.int (3 : Int32)), .unset] [(.int (8 : Int32))]))
  refine Goes.step (fun _ k => XS.istoreN X11.here hx rfl (hb hby d1_44) rfl (l' := #[.val (.ref x0), .val (.int (3 : Int32)), .val (.int (8 : Int32))]) rfl k) ?_
  show Goes _ _ _ _ _ _ _ (T11.setTop (mkF m 45 #[.val (.ref x0), .val (.int (3 : Int32)), .val (.int (8 : Int32))] []))
  refine Goes.step (fun _ k => XS.aloadN X11.here hx rfl (hb hby d1_45) rfl rfl k) ?_
  show Goes _ _ _ _ _ _ _ (T11.setTop (mkF m 46 #[.val (.ref x0), .val (.int (3 : Int32)), .val (.int (8 : Int32))] [(.ref x0)]))
  refine Goes.step (fun _ k => XS.iloadN X11.here hx rfl (hb hby d1_46) rfl  k) ?_
  show Goes _ _ _ _ _ _ _ (T11.setTop (mkF m 47 #[.val (.ref x0), .val (.int (3 : Int32)), .val (.int (8 : Int32))] [(.int (8 : Int32)), (.ref x0)]))
  obtain ⟨T12, h12, k12, X12, e12, E12, A12, O12, st12⟩ := newR X11 hx hZ hown (hw _ (List.mem_of_getElem? (i := 22) rfl)) (hw _ (List.mem_of_getElem? (i := 23) rfl)) KK11 (g := (mkF m 47 #[.val (.ref x0), .val (.int (3 : Int32)), .val (.int (8 : Int32))] [(.int (8 : Int32)), (.ref x0)])) rfl (hb hby d1_47) rfl (by decide) (cap := 8) (by decide) (by decide) (by decide) (by decide)
  obtain ⟨b12, g12⟩ : ∃ z, z = h2.size := ⟨_, rfl⟩
  rw [← g12] at A12 st12
  refine Goes.step st12 ?_
  have g_b12 : n0 ≤ b12 := Nat.le_trans Z10 (Nat.le_of_eq g12.symm)
  have sz_b12 : h0.size ≤ b12 := Nat.le_trans K10.1 (Nat.le_of_eq g12.symm)
  have ne13 : x0 ≠ b12 := Nat.ne_of_lt (Nat.lt_of_lt_of_le f3.lt (Nat.le_of_eq g12.symm))
  have f14 := f3.ext E12
  have f15 := f4.ext E12
  have f16 := f5.ext E12
  have f17 := f6.ext E12
  have f18 := f7.ext E12
  have f19 := f8.ext E12
  have f20 := f9.ext E12
  have K21 : Keep h0 h12 [x0] := K10.ext E12
  have Z21 : n0 ≤ h12.size := Nat.le_trans Z10 E12.1
  have V_b12 : ArF Z h12 b12 k12 (.object "java/lang/Object") 8 (fun _ => .null) := own_arf (Arv.new A12 (by decide))
  show Goes _ _ _ _ _ _ _ (T12.setTop (mkF m 50 #[.val (.ref x0), .val (.int (3 : Int32)), .val (.int (8 : Int32))] [(.ref b12), (.ref x0)]))
  obtain ⟨T22, h22, X22, e22, W22, st22⟩ := putF X12 hx hZ hown (host := "") (Or.inl (hw _ (List.mem_of_getElem? (i := 24) rfl))) Via.refl e12 f15 f20 (Or.inr ⟨(hw _ (List.mem_of_getElem? (i := 25) rfl)), rfl, hnm⟩) (hw _ (List.mem_of_getElem? (i := 2) rfl)) (ty := (.array (.object "java/lang/Object"))) (by decide) rfl rfl (g := (mkF m 50 #[.val (.ref x0), .val (.int (3 : Int32)), .val (.int (8 : Int32))] [(.ref b12), (.ref x0)])) rfl rfl (hb hby d1_50)
  refine Goes.step st22 ?_
  have f23 := f14.other W22 (Or.inr (slot_ne (Or.inr (hw _ (List.mem_of_getElem? (i := 12) rfl))) (Or.inr (hw _ (List.mem_of_getElem? (i := 25) rfl))) (by decide) (t := .int) (t' := (.array (.object "java/lang/Object"))) (by decide) (by decide)))
  have f24 := f15.same W22
  have f25 := f16.other W22 (Or.inr (slot_ne (Or.inr (hw _ (List.mem_of_getElem? (i := 27) rfl))) (Or.inr (hw _ (List.mem_of_getElem? (i := 25) rfl))) (by decide) (t := (.array .int)) (t' := (.array (.object "java/lang/Object"))) (by decide) (by decide)))
  have f26 := f17.other W22 (Or.inr (slot_ne (Or.inr (hw _ (List.mem_of_getElem? (i := 29) rfl))) (Or.inr (hw _ (List.mem_of_getElem? (i := 25) rfl))) (by decide) (t := (.array (.object "java/lang/Object"))) (t' := (.array (.object "java/lang/Object"))) (by decide) (by decide)))
  have f27 := f18.other W22 (Or.inr (slot_ne (Or.inr (hw _ (List.mem_of_getElem? (i := 32) rfl))) (Or.inr (hw _ (List.mem_of_getElem? (i := 25) rfl))) (by decide) (t := .int) (t' := (.array (.object "java/lang/Object"))) (by decide) (by decide)))
  have f28 := f19.other W22 (Or.inr (slot_ne (Or.inl (hw _ (List.mem_of_getElem? (i := 39) rfl))) (Or.inr (hw _ (List.mem_of_getElem? (i := 25) rfl))) (by decide) (t := .int) (t' := (.array (.object "java/lang/Object"))) (by decide) (by decide)))
  have f29 := f20.wr W22
  have f30 := V_b12.other W22 (Ne.symm ne13)
  have K31 : Keep h0 h22 [x0] := K21.wr W22 (Or.inl (List.mem_of_getElem? (i := 0) rfl))
  have Z31 : n0 ≤ h22.size := by rw [Wr.size W22]; exact Z21
  have N31 := Fr.snoc X22 NA11 g_x0
  show Goes _ _ _ _ _ _ _ (T22.setTop (mkF m 53 #[.val (.ref x0), .val (.int (3 : Int32)), .val (.int (8 : Int32))] []))
  refine Goes.step (fun _ k => XS.aloadN X22.here hx rfl (hb hby d1_53) rfl rfl k) ?_
  show Goes _ _ _ _ _ _ _ (T22.setTop (mkF m 54 #[.val (.ref x0), .val (.int (3 : Int32)), .val (.int (8 : Int32))] [(.ref x0)]))
  refine Goes.step (fun _ k => XS.iloadN X22.here hx rfl (hb hby d1_54) rfl  k) ?_
  show Goes _ _ _ _ _ _ _ (T22.setTop (mkF m 55 #[.val (.ref x0), .val (.int (3 : Int32)), .val (.int (8 : Int32))] [(.int (8 : Int32)), (.ref x0)]))
  obtain ⟨T32, h32, k32, X32, e32, E32, A32, st32⟩ := newP X22 hx hZ (hw _ (List.mem_of_getElem? (i := 0) rfl)) e22 (g := (mkF m 55 #[.val (.ref x0), .val (.int (3 : Int32)), .val (.int (8 : Int32))] [(.int (8 : Int32)), (.ref x0)])) rfl (hb hby d1_55) rfl (by decide) (cap := 8) (by decide) (by decide) (by decide) (by decide)
  obtain ⟨b32, g32⟩ : ∃ z, z = h22.size := ⟨_, rfl⟩
  rw [← g32] at A32 st32
  refine Goes.step st32 ?_
  have g_b32 : n0 ≤ b32 := Nat.le_trans Z31 (Nat.le_of_eq g32.symm)
  have sz_b32 : h0.size ≤ b32 := Nat.le_trans K31.1 (Nat.le_of_eq g32.symm)
  have ne33 : x0 ≠ b32 := Nat.ne_of_lt (Nat.lt_of_lt_of_le f23.lt (Nat.le_of_eq g32.symm))
  have ne34 : b12 ≠ b32 := Nat.ne_of_lt (Nat.lt_of_lt_of_le f30.lt (Nat.le_of_eq g32.symm))
  have f35 := f23.ext E32
  have f36 := f24.ext E32
  have f37 := f25.ext E32
  have f38 := f26.ext E32
  have f39 := f27.ext E32
  have f40 := f28.ext E32
  have f41 := f29.ext E32
  have f42 := f30.ext E32
  have K43 : Keep h0 h32 [x0] := K31.ext E32
  have Z43 : n0 ≤ h32.size := Nat.le_trans Z31 E32.1
  have V_b32 : ArF Z h32 b32 k32 .int 8 (fun _ => (.int (0 : Int32))) := own_arf (Arv.new A32 (by decide))
  show Goes _ _ _ _ _ _ _ (T32.setTop (mkF m 57 #[.val (.ref x0), .val (.int (3 : Int32)), .val (.int (8 : Int32))] [(.ref b32), (.ref x0)]))
  obtain ⟨T44, h44, X44, e44, W44, st44⟩ := putF X32 hx hZ hown (host := "") (Or.inl (hw _ (List.mem_of_getElem? (i := 26) rfl))) Via.refl e32 f37 f41 (Or.inr ⟨(hw _ (List.mem_of_getElem? (i := 27) rfl)), rfl, hnm⟩) (hw _ (List.mem_of_getElem? (i := 2) rfl)) (ty := (.array .int)) (by decide) rfl rfl (g := (mkF m 57 #[.val (.ref x0), .val (.int (3 : Int32)), .val (.int (8 : Int32))] [(.ref b32), (.ref x0)])) rfl rfl (hb hby d1_57)
  refine Goes.step st44 ?_
  have f45 := f35.other W44 (Or.inr (slot_ne (Or.inr (hw _ (List.mem_of_getElem? (i := 12) rfl))) (Or.inr (hw _ (List.mem_of_getElem? (i := 27) rfl))) (by decide) (t := .int) (t' := (.array .int)) (by decide) (by decide)))
  have f46 := f36.other W44 (Or.inr (slot_ne (Or.inr (hw _ (List.mem_of_getElem? (i := 25) rfl))) (Or.inr (hw _ (List.mem_of_getElem? (i := 27) rfl))) (by decide) (t := (.array (.object "java/lang/Object"))) (t' := (.array .int)) (by decide) (by decide)))
  have f47 := f37.same W44
  have f48 := f38.other W44 (Or.inr (slot_ne (Or.inr (hw _ (List.mem_of_getElem? (i := 29) rfl))) (Or.inr (hw _ (List.mem_of_getElem? (i := 27) rfl))) (by decide) (t := (.array (.object "java/lang/Object"))) (t' := (.array .int)) (by decide) (by decide)))
  have f49 := f39.other W44 (Or.inr (slot_ne (Or.inr (hw _ (List.mem_of_getElem? (i := 32) rfl))) (Or.inr (hw _ (List.mem_of_getElem? (i := 27) rfl))) (by decide) (t := .int) (t' := (.array .int)) (by decide) (by decide)))
  have f50 := f40.other W44 (Or.inr (slot_ne (Or.inl (hw _ (List.mem_of_getElem? (i := 39) rfl))) (Or.inr (hw _ (List.mem_of_getElem? (i := 27) rfl))) (by decide) (t := .int) (t' := (.array .int)) (by decide) (by decide)))
  have f51 := f41.wr W44
  have f52 := f42.other W44 (Ne.symm ne13)
  have f53 := V_b32.other W44 (Ne.symm ne33)
  have K54 : Keep h0 h44 [x0] := K43.wr W44 (Or.inl (List.mem_of_getElem? (i := 0) rfl))
  have Z54 : n0 ≤ h44.size := by rw [Wr.size W44]; exact Z43
  have N54 := Fr.snoc X44 N31 g_x0
  show Goes _ _ _ _ _ _ _ (T44.setTop (mkF m 60 #[.val (.ref x0), .val (.int (3 : Int32)), .val (.int (8 : Int32))] []))
  refine Goes.step (fun _ k => XS.aloadN X44.here hx rfl (hb hby d1_60) rfl rfl k) ?_
  show Goes _ _ _ _ _ _ _ (T44.setTop (mkF m 61 #[.val (.ref x0), .val (.int (3 : Int32)), .val (.int (8 : Int32))] [(.ref x0)]))
  refine Goes.step (fun _ k => XS.iloadN X44.here hx rfl (hb hby d1_61) rfl  k) ?_
  show Goes _ _ _ _ _ _ _ (T44.setTop (mkF m 62 #[.val (.ref x0), .val (.int (3 : Int32)), .val (.int (8 : Int32))] [(.int (8 : Int32)), (.ref x0)]))
  obtain ⟨T55, h55, k55, X55, e55, E55, A55, O55, st55⟩ := newR X44 hx hZ hown (hw _ (List.mem_of_getElem? (i := 22) rfl)) (hw _ (List.mem_of_getElem? (i := 23) rfl)) e44 (g := (mkF m 62 #[.val (.ref x0), .val (.int (3 : Int32)), .val (.int (8 : Int32))] [(.int (8 : Int32)), (.ref x0)])) rfl (hb hby d1_62) rfl (by decide) (cap := 8) (by decide) (by decide) (by decide) (by decide)
  obtain ⟨b55, g55⟩ : ∃ z, z = h44.size := ⟨_, rfl⟩
  rw [← g55] at A55 st55
  refine Goes.step st55 ?_
  have g_b55 : n0 ≤ b55 := Nat.le_trans Z54 (Nat.le_of_eq g55.symm)
  have sz_b55 : h0.size ≤ b55 := Nat.le_trans K54.1 (Nat.le_of_eq g55.symm)
  have ne56 : x0 ≠ b55 := Nat.ne_of_lt (Nat.lt_of_lt_of_le f45.lt (Nat.le_of_eq g55.symm))
  have ne57 : b12 ≠ b55 := Nat.ne_of_lt (Nat.lt_of_lt_of_le f52.lt (Nat.le_of_eq g55.symm))
  have ne58 : b32 ≠ b55 := Nat.ne_of_lt (Nat.lt_of_lt_of_le f53.lt (Nat.le_of_eq g55.symm))
  have f59 := f45.ext E55
  have f60 := f46.ext E55
  have f61 := f47.ext E55
  have f62 := f48.ext E55
  have f63 := f49.ext E55
  have f64 := f50.ext E55
  have f65 := f51.ext E55
  have f66 := f52.ext E55
  have f67 := f53.ext E55
  have K68 : Keep h0 h55 [x0] := K54.ext E55
  have Z68 : n0 ≤ h55.size := Nat.le_trans Z54 E55.1
  have V_b55 : ArF Z h55 b55 k55 (.object "java/lang/Object") 8 (fun _ => .null) := own_arf (Arv.new A55 (by decide))
  show Goes _ _ _ _ _ _ _ (T55.setTop (mkF m 65 #[.val (.ref x0), .val (.int (3 : Int32)), .val (.int (8 : Int32))] [(.ref b55), (.ref x0)]))
  obtain ⟨T69, h69, X69, e69, W69, st69⟩ := putF X55 hx hZ hown (host := "") (Or.inl (hw _ (List.mem_of_getElem? (i := 28) rfl))) Via.refl e55 f62 f65 (Or.inr ⟨(hw _ (List.mem_of_getElem? (i := 29) rfl)), rfl, hnm⟩) (hw _ (List.mem_of_getElem? (i := 2) rfl)) (ty := (.array (.object "java/lang/Object"))) (by decide) rfl rfl (g := (mkF m 65 #[.val (.ref x0), .val (.int (3 : Int32)), .val (.int (8 : Int32))] [(.ref b55), (.ref x0)])) rfl rfl (hb hby d1_65)
  refine Goes.step st69 ?_
  have f70 := f59.other W69 (Or.inr (slot_ne (Or.inr (hw _ (List.mem_of_getElem? (i := 12) rfl))) (Or.inr (hw _ (List.mem_of_getElem? (i := 29) rfl))) (by decide) (t := .int) (t' := (.array (.object "java/lang/Object"))) (by decide) (by decide)))
  have f71 := f60.other W69 (Or.inr (slot_ne (Or.inr (hw _ (List.mem_of_getElem? (i := 25) rfl))) (Or.inr (hw _ (List.mem_of_getElem? (i := 29) rfl))) (by decide) (t := (.array (.object "java/lang/Object"))) (t' := (.array (.object "java/lang/Object"))) (by decide) (by decide)))
  have f72 := f61.other W69 (Or.inr (slot_ne (Or.inr (hw _ (List.mem_of_getElem? (i := 27) rfl))) (Or.inr (hw _ (List.mem_of_getElem? (i := 29) rfl))) (by decide) (t := (.array .int)) (t' := (.array (.object "java/lang/Object"))) (by decide) (by decide)))
  have f73 := f62.same W69
  have f74 := f63.other W69 (Or.inr (slot_ne (Or.inr (hw _ (List.mem_of_getElem? (i := 32) rfl))) (Or.inr (hw _ (List.mem_of_getElem? (i := 29) rfl))) (by decide) (t := .int) (t' := (.array (.object "java/lang/Object"))) (by decide) (by decide)))
  have f75 := f64.other W69 (Or.inr (slot_ne (Or.inl (hw _ (List.mem_of_getElem? (i := 39) rfl))) (Or.inr (hw _ (List.mem_of_getElem? (i := 29) rfl))) (by decide) (t := .int) (t' := (.array (.object "java/lang/Object"))) (by decide) (by decide)))
  have f76 := f65.wr W69
  have f77 := f66.other W69 (Ne.symm ne13)
  have f78 := f67.other W69 (Ne.symm ne33)
  have f79 := V_b55.other W69 (Ne.symm ne56)
  have K80 : Keep h0 h69 [x0] := K68.wr W69 (Or.inl (List.mem_of_getElem? (i := 0) rfl))
  have Z80 : n0 ≤ h69.size := by rw [Wr.size W69]; exact Z68
  have N80 := Fr.snoc X69 N54 g_x0
  show Goes _ _ _ _ _ _ _ (T69.setTop (mkF m 68 #[.val (.ref x0), .val (.int (3 : Int32)), .val (.int (8 : Int32))] []))
  refine Goes.step (fun _ k => XS.aloadN X69.here hx rfl (hb hby d1_68) rfl rfl k) ?_
  show Goes _ _ _ _ _ _ _ (T69.setTop (mkF m 69 #[.val (.ref x0), .val (.int (3 : Int32)), .val (.int (8 : Int32))] [(.ref x0)]))
  refine Goes.step (fun _ k => XS.iloadN X69.here hx rfl (hb hby d1_69) rfl  k) ?_
  show Goes _ _ _ _ _ _ _ (T69.setTop (mkF m 70 #[.val (.ref x0), .val (.int (3 : Int32)), .val (.int (8 : Int32))] [(.int (8 : Int32)), (.ref x0)]))
  obtain ⟨_, _, ⟨T81, L81, k81, n81⟩, -, X81, ⟨Lc81, hQ81, l81, y81, z81⟩, st81⟩ := Jvm.LawKit.callS X69 hx (y := (⟨"java/lang/Integer", "numberOfLeadingZeros", "(I)I"⟩ : MethodName)) hown (mvT hZ (hw _ (List.mem_of_getElem? (i := 30) rfl))) (mvT hZ (hw _ (List.mem_of_getElem? (i := 19) rfl))) (mvT hZ (hw _ (List.mem_of_getElem? (i := 15) rfl))) (mvT hZ (hw _ (List.mem_of_getElem? (i := 20) rfl))) (by decide) (backOf (W := 1) (rm4_8 l Z a0 hw []  h69 n0 Z80 ) hZ (hw _ (List.mem_of_getElem? (i := 20) rfl)) (hw _ (List.mem_of_getElem? (i := 15) rfl)) (by decide) (by decide)) (g := (mkF m 70 #[.val (.ref x0), .val (.int (3 : Int32)), .val (.int (8 : Int32))] [(.int (8 : Int32)), (.ref x0)])) rfl (by rw [hml]; rfl) (argsL := [(.int (8 : Int32))]) (rest := [(.ref x0)]) (lenOf pd_2 rfl) rfl (by show 2 * 0 + _ ≤ _; exact Nat.le_of_eq rfl) (hb hby d1_70) (fun _ _ => ⟨rfl, e69, (by decide : 3 + 0 ≤ _), (by decide : 24 + 0 ≤ _)⟩)
  dsimp only [Pt.U, Pt.locs, Pt.cells, Pt.slots] at X81 l81 y81 z81 st81 hQ81
  subst l81 y81 z81
  obtain ⟨N81, KK81, hR81⟩ := hQ81
  have NA81 := Fr.app N80 N81
  obtain rfl := hR81
  refine Goes.step st81 ?_
  show Goes _ _ _ _ _ _ _ (T81.setTop (mkF m 73 #[.val (.ref x0), .val (.int (3 : Int32)), .val (.int (8 : Int32))] [(.int (28 : Int32)), (.ref x0)]))
  refine Goes.step (fun _ k => XS.iconst X81.here hx rfl (hb hby d1_73) k) ?_
  show Goes _ _ _ _ _ _ _ (T81.setTop (mkF m 74 #[.val (.ref x0), .val (.int (3 : Int32)), .val (.int (8 : Int32))] [(.int (1 : Int32)), (.int (28 : Int32)), (.ref x0)]))
  refine Goes.step (fun _ k => XS.iadd X81.here hx rfl (hb hby d1_74) rfl k) ?_
  show Goes _ _ _ _ _ _ _ (T81.setTop (mkF m 75 #[.val (.ref x0), .val (.int (3 : Int32)), .val (.int (8 : Int32))] [(.int (29 : Int32)), (.ref x0)]))
  obtain ⟨T82, h82, X82, e82, W82, st82⟩ := putF X81 hx hZ hown (host := "") (Or.inl (hw _ (List.mem_of_getElem? (i := 31) rfl))) Via.refl KK81 f74 f76 (Or.inr ⟨(hw _ (List.mem_of_getElem? (i := 32) rfl)), rfl, hnm⟩) (hw _ (List.mem_of_getElem? (i := 2) rfl)) (ty := .int) (by decide) rfl rfl (g := (mkF m 75 #[.val (.ref x0), .val (.int (3 : Int32)), .val (.int (8 : Int32))] [(.int (29 : Int32)), (.ref x0)])) rfl rfl (hb hby d1_75)
  refine Goes.step st82 ?_
  have f83 := f70.other W82 (Or.inr (slot_ne (Or.inr (hw _ (List.mem_of_getElem? (i := 12) rfl))) (Or.inr (hw _ (List.mem_of_getElem? (i := 32) rfl))) (by decide) (t := .int) (t' := .int) (by decide) (by decide)))
  have f84 := f71.other W82 (Or.inr (slot_ne (Or.inr (hw _ (List.mem_of_getElem? (i := 25) rfl))) (Or.inr (hw _ (List.mem_of_getElem? (i := 32) rfl))) (by decide) (t := (.array (.object "java/lang/Object"))) (t' := .int) (by decide) (by decide)))
  have f85 := f72.other W82 (Or.inr (slot_ne (Or.inr (hw _ (List.mem_of_getElem? (i := 27) rfl))) (Or.inr (hw _ (List.mem_of_getElem? (i := 32) rfl))) (by decide) (t := (.array .int)) (t' := .int) (by decide) (by decide)))
  have f86 := f73.other W82 (Or.inr (slot_ne (Or.inr (hw _ (List.mem_of_getElem? (i := 29) rfl))) (Or.inr (hw _ (List.mem_of_getElem? (i := 32) rfl))) (by decide) (t := (.array (.object "java/lang/Object"))) (t' := .int) (by decide) (by decide)))
  have f87 := f74.same W82
  have f88 := f75.other W82 (Or.inr (slot_ne (Or.inl (hw _ (List.mem_of_getElem? (i := 39) rfl))) (Or.inr (hw _ (List.mem_of_getElem? (i := 32) rfl))) (by decide) (t := .int) (t' := .int) (by decide) (by decide)))
  have f89 := f76.wr W82
  have f90 := f77.other W82 (Ne.symm ne13)
  have f91 := f78.other W82 (Ne.symm ne33)
  have f92 := f79.other W82 (Ne.symm ne56)
  have K93 : Keep h0 h82 [x0] := K80.wr W82 (Or.inl (List.mem_of_getElem? (i := 0) rfl))
  have Z93 : n0 ≤ h82.size := by rw [Wr.size W82]; exact Z80
  have N93 := Fr.snoc X82 NA81 g_x0
  show Goes _ _ _ _ _ _ _ (T82.setTop (mkF m 78 #[.val (.ref x0), .val (.int (3 : Int32)), .val (.int (8 : Int32))] []))
  exact Goes.retV X82 hx (BodyLoose.notSynchronized Bd) Bd.returns (hb hby d1_78) (by show Q1_3 Z x0 h0 n0 none T82.heap _; rw [e82]; exact ⟨N93, K93, ⟨b12, b32, b55, k12, k32, k55, rfl, g_b12, sz_b12, g_b32, sz_b32, g_b55, sz_b55, (Ne.symm ne34), (Ne.symm ne57), (Ne.symm ne58), f83, f84, f85, f86, f87, f88, f89, f90, f91, f92, O12, O55⟩⟩) (by decide) (by decide)
theorem ef_1_4 (m : MethodId) (x0 : Addr)  : entryFrame m #[(.ref x0), (.int (4 : Int32))] 3 = mkF m 0 #[.val (.ref x0), .val (.int (4 : Int32)), .unset] [] := by first | (simp [entryFrame, mkF, argsToLocals, Value.category]; done) | rfl
def Q1_4 (Z : State) (x0 : Addr) (h0 : Heap) (n0 : Nat) (v : Option Value) (h : Heap) (L : List Loc) : Prop := Fr n0 L ∧ Keep h0 h [x0] ∧ ((∃ (r_0 : Addr) (r_1 : Addr) (r_2 : Addr) (k_0 : ClassId) (k_1 : ClassId) (k_2 : ClassId), v = none ∧ n0 ≤ r_0 ∧ h0.size ≤ r_0 ∧ n0 ≤ r_1 ∧ h0.size ≤ r_1 ∧ n0 ≤ r_2 ∧ h0.size ≤ r_2 ∧ r_1 ≠ r_0 ∧ r_2 ≠ r_0 ∧ r_2 ≠ r_1 ∧ Fld Z h x0 "com/example/nehaba/nehaba/input/KeptValues" "most" "I" (.int (4 : Int32)) ∧ Fld Z h x0 "com/example/nehaba/nehaba/input/KeptValues" "keys" "[Ljava/lang/Object;" (.ref r_0) ∧ Fld Z h x0 "com/example/nehaba/nehaba/input/KeptValues" "hashes" "[I" (.ref r_1) ∧ Fld Z h x0 "com/example/nehaba/nehaba/input/KeptValues" "values" "[Ljava/lang/Object;" (.ref r_2) ∧ Fld Z h x0 "com/example/nehaba/nehaba/input/KeptValues" "shift" "I" (.int (29 : Int32)) ∧ Fld Z h x0 "com/example/nehaba/nehaba/input/KeptValues" "size" "I" (.int (0 : Int32)) ∧ Exa Z h x0 "com/example/nehaba/nehaba/input/KeptValues" ∧ ArF Z h r_0 k_0 (.object "java/lang/Object") 8 (fun _ => .null) ∧ ArF Z h r_1 k_1 .int 8 (fun _ => (.int (0 : Int32))) ∧ ArF Z h r_2 k_2 (.object "java/lang/Object") 8 (fun _ => .null) ∧ Ovr Z k_0 "java/lang/Object" ∧ Ovr Z k_2 "java/lang/Object"))
set_option maxRecDepth 65536 in
set_option maxHeartbeats 40000000 in
theorem rm1_4 (l : Launch) (Z : State) (a0 : Array Value) (hw : ∀ d ∈ tables_1, d.before a0 Z = true) (ws : List Jvm.Cond) (x0 : Addr) (h0 : Heap) (n0 : Nat) (Z0 : n0 ≤ h0.size) (F0_most : Fld Z h0 x0 "com/example/nehaba/nehaba/input/KeptValues" "most" "I" (.int (0 : Int32))) (F0_keys : Fld Z h0 x0 "com/example/nehaba/nehaba/input/KeptValues" "keys" "[Ljava/lang/Object;" .null) (F0_hashes : Fld Z h0 x0 "com/example/nehaba/nehaba/input/KeptValues" "hashes" "[I" .null) (F0_values : Fld Z h0 x0 "com/example/nehaba/nehaba/input/KeptValues" "values" "[Ljava/lang/Object;" .null) (F0_shift : Fld Z h0 x0 "com/example/nehaba/nehaba/input/KeptValues" "shift" "I" (.int (0 : Int32))) (F0_size : Fld Z h0 x0 "com/example/nehaba/nehaba/input/KeptValues" "size" "I" (.int (0 : Int32))) (E_x0 : Exa Z h0 x0 "com/example/nehaba/nehaba/input/KeptValues") (g_x0 : n0 ≤ x0) :
    MetFree l (⟨"com/example/nehaba/nehaba/input/KeptValues", "<init>", "(I)V"⟩ : MethodName) (head1 (Jvm.Cond.code (⟨"com/example/nehaba/nehaba/input/KeptValues", "<init>", "(I)V"⟩ : MethodName) prog_31_method_1_code 3 none :: ws) ({ frames := 2, cells := 3, slots := 24, locals := 27 } : Room)) (fun a U => a = #[(.ref x0), (.int (4 : Int32))] ∧ Z.Warmed39 U.vm ∧ U.heap = h0) (fun _ _ _ _ _ => True) (fun _ U o U' => ∃ v L, o = .returned v ∧ Q1_4 Z x0 h0 n0 v U'.heap L ∧ FrameEnd U o U' L ({ frames := 2, cells := 3, slots := 24, locals := 27 } : Room).cells ({ frames := 2, cells := 3, slots := 24, locals := 27 } : Room).slots) := by
  refine MetFree.of_bodySF (plainFor_of_name pn_1) hisR ?_
  intro p e s m args below meth c s₁ Bd hml0 hP hK
  obtain ⟨rfl, hZ, hh⟩ := hP
  have hx := Bd.exec
  have hby := Bd.bytes
  have hml : c.maxLocals = 3 := hml0
  have hown : s.vm.findClass "com/example/nehaba/nehaba/input/KeptValues" = some m.cls := findClass_of_methodNamed Bd.named
  have hnm := (name_of_methodNamed Bd.named Bd.method).1
  have X0 : Stand p l e ({ frames := 2, cells := 3, slots := 24, locals := 27 } : Room) s m #[(.ref x0), (.int (4 : Int32))] below meth c s₁ [] 0 0 := Stand.of_body Bd
  have e0 : s₁.heap = h0 := by rw [← hh, Bd.state]; rfl
  have N0 := Fr.nil n0
  have K0 : Keep h0 h0 [x0] := Keep.refl h0 _
  refine (?_ : Goes p e below s ({ frames := 2, cells := 3, slots := 24, locals := 27 } : Room).cells ({ frames := 2, cells := 3, slots := 24, locals := 27 } : Room).slots (fun v h L => Q1_4 Z x0 h0 n0 v h L) (s₁.setTop (entryFrame m #[(.ref x0), (.int (4 : Int32))] 3)))
  rw [ef_1_4 m x0 ]
  show Goes _ _ _ _ _ _ _ (s₁.setTop (mkF m 0 #[.val (.ref x0), .val (.int (4 : Int32)), .unset] []))
  refine Goes.step (fun _ k => XS.aloadN X0.here hx rfl (hb hby d1_0) rfl rfl k) ?_
  show Goes _ _ _ _ _ _ _ (s₁.setTop (mkF m 1 #[.val (.ref x0), .val (.int (4 : Int32)), .unset] [(.ref x0)]))
  obtain ⟨T1, X1, e1, st1⟩ := initO X0 hx hZ hown (hw _ (List.mem_of_getElem? (i := 7) rfl)) (hw _ (List.mem_of_getElem? (i := 8) rfl)) (hw _ (List.mem_of_getElem? (i := 9) rfl)) e0 (g := (mkF m 1 #[.val (.ref x0), .val (.int (4 : Int32)), .unset] [(.ref x0)])) rfl (by rw [hml]; rfl) rfl (hb hby d1_1) (by decide) (W := 0) (by show 2 * 0 + _ ≤ _; exact Nat.le_of_eq rfl) (by decide)
  refine Goes.step st1 ?_
  show Goes _ _ _ _ _ _ _ (T1.setTop (mkF m 4 #[.val (.ref x0), .val (.int (4 : Int32)), .unset] []))
  refine Goes.step (fun _ k => XS.iloadN X1.here hx rfl (hb hby d1_4) rfl  k) ?_
  show Goes _ _ _ _ _ _ _ (T1.setTop (mkF m 5 #[.val (.ref x0), .val (.int (4 : Int32)), .unset] [(.int (4 : Int32))]))
  refine Goes.step (fun _ k => XS.iconst X1.here hx rfl (hb hby d1_5) k) ?_
  show Goes _ _ _ _ _ _ _ (T1.setTop (mkF m 6 #[.val (.ref x0), .val (.int (4 : Int32)), .unset] [(.int (1 : Int32)), (.int (4 : Int32))]))
  refine Goes.step (fun _ k => XS.icmpNo X1.here hx rfl (hb hby d1_6) rfl (flt (by decide : ¬ ((4 : Int32) < (1 : Int32)))).1 k) ?_
  show Goes _ _ _ _ _ _ _ (T1.setTop (mkF m 9 #[.val (.ref x0), .val (.int (4 : Int32)), .unset] []))
  refine Goes.step (fun _ k => XS.iloadN X1.here hx rfl (hb hby d1_9) rfl  k) ?_
  show Goes _ _ _ _ _ _ _ (T1.setTop (mkF m 10 #[.val (.ref x0), .val (.int (4 : Int32)), .unset] [(.int (4 : Int32))]))
  refine Goes.step (fun _ k => X1.ldcInt hx hown (mvT hZ (hw _ (List.mem_of_getElem? (i := 10) rfl))) (g := (mkF m 10 #[.val (.ref x0), .val (.int (4 : Int32)), .unset] [(.int (4 : Int32))])) rfl (hb hby d1_10) _ k) ?_
  show Goes _ _ _ _ _ _ _ (T1.setTop (mkF m 12 #[.val (.ref x0), .val (.int (4 : Int32)), .unset] [(.int (536870912 : Int32)), (.int (4 : Int32))]))
  refine Goes.step (fun _ k => XS.icmpYes X1.here hx rfl (pc0 := 12) (pc' := 29) rfl (hb hby d1_12) rfl (flt (by decide : ¬ ((536870912 : Int32) < (4 : Int32)))).2.2.2 (by decide) (by decide) k) ?_
  show Goes _ _ _ _ _ _ _ (T1.setTop (mkF m 29 #[.val (.ref x0), .val (.int (4 : Int32)), .unset] []))
  refine Goes.step (fun _ k => XS.aloadN X1.here hx rfl (hb hby d1_29) rfl rfl k) ?_
  show Goes _ _ _ _ _ _ _ (T1.setTop (mkF m 30 #[.val (.ref x0), .val (.int (4 : Int32)), .unset] [(.ref x0)]))
  refine Goes.step (fun _ k => XS.iloadN X1.here hx rfl (hb hby d1_30) rfl  k) ?_
  show Goes _ _ _ _ _ _ _ (T1.setTop (mkF m 31 #[.val (.ref x0), .val (.int (4 : Int32)), .unset] [(.int (4 : Int32)), (.ref x0)]))
  obtain ⟨T2, h2, X2, e2, W2, st2⟩ := putF X1 hx hZ hown (host := "") (Or.inl (hw _ (List.mem_of_getElem? (i := 11) rfl))) Via.refl e1 F0_most E_x0 (Or.inr ⟨(hw _ (List.mem_of_getElem? (i := 12) rfl)), rfl, hnm⟩) (hw _ (List.mem_of_getElem? (i := 2) rfl)) (ty := .int) (by decide) rfl rfl (g := (mkF m 31 #[.val (.ref x0), .val (.int (4 : Int32)), .unset] [(.int (4 : Int32)), (.ref x0)])) rfl rfl (hb hby d1_31)
  refine Goes.step st2 ?_
  have f3 := F0_most.same W2
  have f4 := F0_keys.other W2 (Or.inr (slot_ne (Or.inr (hw _ (List.mem_of_getElem? (i := 25) rfl))) (Or.inr (hw _ (List.mem_of_getElem? (i := 12) rfl))) (by decide) (t := (.array (.object "java/lang/Object"))) (t' := .int) (by decide) (by decide)))
  have f5 := F0_hashes.other W2 (Or.inr (slot_ne (Or.inr (hw _ (List.mem_of_getElem? (i := 27) rfl))) (Or.inr (hw _ (List.mem_of_getElem? (i := 12) rfl))) (by decide) (t := (.array .int)) (t' := .int) (by decide) (by decide)))
  have f6 := F0_values.other W2 (Or.inr (slot_ne (Or.inr (hw _ (List.mem_of_getElem? (i := 29) rfl))) (Or.inr (hw _ (List.mem_of_getElem? (i := 12) rfl))) (by decide) (t := (.array (.object "java/lang/Object"))) (t' := .int) (by decide) (by decide)))
  have f7 := F0_shift.other W2 (Or.inr (slot_ne (Or.inr (hw _ (List.mem_of_getElem? (i := 32) rfl))) (Or.inr (hw _ (List.mem_of_getElem? (i := 12) rfl))) (by decide) (t := .int) (t' := .int) (by decide) (by decide)))
  have f8 := F0_size.other W2 (Or.inr (slot_ne (Or.inl (hw _ (List.mem_of_getElem? (i := 39) rfl))) (Or.inr (hw _ (List.mem_of_getElem? (i := 12) rfl))) (by decide) (t := .int) (t' := .int) (by decide) (by decide)))
  have f9 := E_x0.wr W2
  have K10 : Keep h0 h2 [x0] := K0.wr W2 (Or.inl (List.mem_of_getElem? (i := 0) rfl))
  have Z10 : n0 ≤ h2.size := by rw [Wr.size W2]; exact Z0
  have N10 := Fr.snoc X2 N0 g_x0
  show Goes _ _ _ _ _ _ _ (T2.setTop (mkF m 34 #[.val (.ref x0), .val (.int (4 : Int32)), .unset] []))
  refine Goes.step (fun _ k => XS.iconst X2.here hx rfl (hb hby d1_34) k) ?_
  show Goes _ _ _ _ _ _ _ (T2.setTop (mkF m 35 #[.val (.ref x0), .val (.int (4 : Int32)), .unset] [(.int (2 : Int32))]))
  refine Goes.step (fun _ k => XS.iloadN X2.here hx rfl (hb hby d1_35) rfl  k) ?_
  show Goes _ _ _ _ _ _ _ (T2.setTop (mkF m 36 #[.val (.ref x0), .val (.int (4 : Int32)), .unset] [(.int (4 : Int32)), (.int (2 : Int32))]))
  refine Goes.step (fun _ k => XS.imul X2.here hx rfl (hb hby d1_36) rfl k) ?_
  show Goes _ _ _ _ _ _ _ (T2.setTop (mkF m 37 #[.val (.ref x0), .val (.int (4 : Int32)), .unset] [(.int (8 : Int32))]))
  refine Goes.step (fun _ k => XS.iconst X2.here hx rfl (hb hby d1_37) k) ?_
  show Goes _ _ _ _ _ _ _ (T2.setTop (mkF m 38 #[.val (.ref x0), .val (.int (4 : Int32)), .unset] [(.int (1 : Int32)), (.int (8 : Int32))]))
  refine Goes.step (fun _ k => XS.isub X2.here hx rfl (hb hby d1_38) rfl k) ?_
  show Goes _ _ _ _ _ _ _ (T2.setTop (mkF m 39 #[.val (.ref x0), .val (.int (4 : Int32)), .unset] [(.int (7 : Int32))]))
  obtain ⟨_, _, ⟨T11, L11, k11, n11⟩, -, X11, ⟨Lc11, hQ11, l11, y11, z11⟩, st11⟩ := Jvm.LawKit.callS X2 hx (y := (⟨"java/lang/Integer", "highestOneBit", "(I)I"⟩ : MethodName)) hown (mvT hZ (hw _ (List.mem_of_getElem? (i := 13) rfl))) (mvT hZ (hw _ (List.mem_of_getElem? (i := 14) rfl))) (mvT hZ (hw _ (List.mem_of_getElem? (i := 15) rfl))) (mvT hZ (hw _ (List.mem_of_getElem? (i := 16) rfl))) (by decide) (backOf (W := 0) (rm3_7 l Z a0 hw []  h2 n0 Z10 ) hZ (hw _ (List.mem_of_getElem? (i := 16) rfl)) (hw _ (List.mem_of_getElem? (i := 15) rfl)) (by decide) (by decide)) (g := (mkF m 39 #[.val (.ref x0), .val (.int (4 : Int32)), .unset] [(.int (7 : Int32))])) rfl (by rw [hml]; rfl) (argsL := [(.int (7 : Int32))]) (rest := []) (lenOf pd_2 rfl) rfl (by show 2 * 0 + _ ≤ _; exact Nat.le_of_eq rfl) (hb hby d1_39) (fun _ _ => ⟨rfl, e2, (by decide : 0 + 0 ≤ _), (by decide : 0 + 0 ≤ _)⟩)
  dsimp only [Pt.U, Pt.locs, Pt.cells, Pt.slots] at X11 l11 y11 z11 st11 hQ11
  subst l11 y11 z11
  obtain ⟨N11, KK11, hR11⟩ := hQ11
  have NA11 := Fr.app N10 N11
  obtain rfl := hR11
  refine Goes.step st11 ?_
  show Goes _ _ _ _ _ _ _ (T11.setTop (mkF m 42 #[.val (.ref x0), .val (.int (4 : Int32)), .unset] [(.int (4 : Int32))]))
  refine Goes.step (fun _ k => XS.iconst X11.here hx rfl (hb hby d1_42) k) ?_
  show Goes _ _ _ _ _ _ _ (T11.setTop (mkF m 43 #[.val (.ref x0), .val (.int (4 : Int32)), .unset] [(.int (1 : Int32)), (.int (4 : Int32))]))
  refine Goes.step (fun _ k => XS.ishl X11.here hx rfl (hb hby d1_43) rfl k) ?_
  show Goes _ _ _ _ _ _ _ (T11.setTop (mkF m 44 #[.val (.ref x0), .val (.int (4 : Int32)), .unset] [(.int (8 : Int32))]))
  refine Goes.step (fun _ k => XS.istoreN X11.here hx rfl (hb hby d1_44) rfl (l' := #[.val (.ref x0), .val (.int (4 : Int32)), .val (.int (8 : Int32))]) rfl k) ?_
  show Goes _ _ _ _ _ _ _ (T11.setTop (mkF m 45 #[.val (.ref x0), .val (.int (4 : Int32)), .val (.int (8 : Int32))] []))
  refine Goes.step (fun _ k => XS.aloadN X11.here hx rfl (hb hby d1_45) rfl rfl k) ?_
  show Goes _ _ _ _ _ _ _ (T11.setTop (mkF m 46 #[.val (.ref x0), .val (.int (4 : Int32)), .val (.int (8 : Int32))] [(.ref x0)]))
  refine Goes.step (fun _ k => XS.iloadN X11.here hx rfl (hb hby d1_46) rfl  k) ?_
  show Goes _ _ _ _ _ _ _ (T11.setTop (mkF m 47 #[.val (.ref x0), .val (.int (4 : Int32)), .val (.int (8 : Int32))] [(.int (8 : Int32)), (.ref x0)]))
  obtain ⟨T12, h12, k12, X12, e12, E12, A12, O12, st12⟩ := newR X11 hx hZ hown (hw _ (List.mem_of_getElem? (i := 22) rfl)) (hw _ (List.mem_of_getElem? (i := 23) rfl)) KK11 (g := (mkF m 47 #[.val (.ref x0), .val (.int (4 : Int32)), .val (.int (8 : Int32))] [(.int (8 : Int32)), (.ref x0)])) rfl (hb hby d1_47) rfl (by decide) (cap := 8) (by decide) (by decide) (by decide) (by decide)
  obtain ⟨b12, g12⟩ : ∃ z, z = h2.size := ⟨_, rfl⟩
  rw [← g12] at A12 st12
  refine Goes.step st12 ?_
  have g_b12 : n0 ≤ b12 := Nat.le_trans Z10 (Nat.le_of_eq g12.symm)
  have sz_b12 : h0.size ≤ b12 := Nat.le_trans K10.1 (Nat.le_of_eq g12.symm)
  have ne13 : x0 ≠ b12 := Nat.ne_of_lt (Nat.lt_of_lt_of_le f3.lt (Nat.le_of_eq g12.symm))
  have f14 := f3.ext E12
  have f15 := f4.ext E12
  have f16 := f5.ext E12
  have f17 := f6.ext E12
  have f18 := f7.ext E12
  have f19 := f8.ext E12
  have f20 := f9.ext E12
  have K21 : Keep h0 h12 [x0] := K10.ext E12
  have Z21 : n0 ≤ h12.size := Nat.le_trans Z10 E12.1
  have V_b12 : ArF Z h12 b12 k12 (.object "java/lang/Object") 8 (fun _ => .null) := own_arf (Arv.new A12 (by decide))
  show Goes _ _ _ _ _ _ _ (T12.setTop (mkF m 50 #[.val (.ref x0), .val (.int (4 : Int32)), .val (.int (8 : Int32))] [(.ref b12), (.ref x0)]))
  obtain ⟨T22, h22, X22, e22, W22, st22⟩ := putF X12 hx hZ hown (host := "") (Or.inl (hw _ (List.mem_of_getElem? (i := 24) rfl))) Via.refl e12 f15 f20 (Or.inr ⟨(hw _ (List.mem_of_getElem? (i := 25) rfl)), rfl, hnm⟩) (hw _ (List.mem_of_getElem? (i := 2) rfl)) (ty := (.array (.object "java/lang/Object"))) (by decide) rfl rfl (g := (mkF m 50 #[.val (.ref x0), .val (.int (4 : Int32)), .val (.int (8 : Int32))] [(.ref b12), (.ref x0)])) rfl rfl (hb hby d1_50)
  refine Goes.step st22 ?_
  have f23 := f14.other W22 (Or.inr (slot_ne (Or.inr (hw _ (List.mem_of_getElem? (i := 12) rfl))) (Or.inr (hw _ (List.mem_of_getElem? (i := 25) rfl))) (by decide) (t := .int) (t' := (.array (.object "java/lang/Object"))) (by decide) (by decide)))
  have f24 := f15.same W22
  have f25 := f16.other W22 (Or.inr (slot_ne (Or.inr (hw _ (List.mem_of_getElem? (i := 27) rfl))) (Or.inr (hw _ (List.mem_of_getElem? (i := 25) rfl))) (by decide) (t := (.array .int)) (t' := (.array (.object "java/lang/Object"))) (by decide) (by decide)))
  have f26 := f17.other W22 (Or.inr (slot_ne (Or.inr (hw _ (List.mem_of_getElem? (i := 29) rfl))) (Or.inr (hw _ (List.mem_of_getElem? (i := 25) rfl))) (by decide) (t := (.array (.object "java/lang/Object"))) (t' := (.array (.object "java/lang/Object"))) (by decide) (by decide)))
  have f27 := f18.other W22 (Or.inr (slot_ne (Or.inr (hw _ (List.mem_of_getElem? (i := 32) rfl))) (Or.inr (hw _ (List.mem_of_getElem? (i := 25) rfl))) (by decide) (t := .int) (t' := (.array (.object "java/lang/Object"))) (by decide) (by decide)))
  have f28 := f19.other W22 (Or.inr (slot_ne (Or.inl (hw _ (List.mem_of_getElem? (i := 39) rfl))) (Or.inr (hw _ (List.mem_of_getElem? (i := 25) rfl))) (by decide) (t := .int) (t' := (.array (.object "java/lang/Object"))) (by decide) (by decide)))
  have f29 := f20.wr W22
  have f30 := V_b12.other W22 (Ne.symm ne13)
  have K31 : Keep h0 h22 [x0] := K21.wr W22 (Or.inl (List.mem_of_getElem? (i := 0) rfl))
  have Z31 : n0 ≤ h22.size := by rw [Wr.size W22]; exact Z21
  have N31 := Fr.snoc X22 NA11 g_x0
  show Goes _ _ _ _ _ _ _ (T22.setTop (mkF m 53 #[.val (.ref x0), .val (.int (4 : Int32)), .val (.int (8 : Int32))] []))
  refine Goes.step (fun _ k => XS.aloadN X22.here hx rfl (hb hby d1_53) rfl rfl k) ?_
  show Goes _ _ _ _ _ _ _ (T22.setTop (mkF m 54 #[.val (.ref x0), .val (.int (4 : Int32)), .val (.int (8 : Int32))] [(.ref x0)]))
  refine Goes.step (fun _ k => XS.iloadN X22.here hx rfl (hb hby d1_54) rfl  k) ?_
  show Goes _ _ _ _ _ _ _ (T22.setTop (mkF m 55 #[.val (.ref x0), .val (.int (4 : Int32)), .val (.int (8 : Int32))] [(.int (8 : Int32)), (.ref x0)]))
  obtain ⟨T32, h32, k32, X32, e32, E32, A32, st32⟩ := newP X22 hx hZ (hw _ (List.mem_of_getElem? (i := 0) rfl)) e22 (g := (mkF m 55 #[.val (.ref x0), .val (.int (4 : Int32)), .val (.int (8 : Int32))] [(.int (8 : Int32)), (.ref x0)])) rfl (hb hby d1_55) rfl (by decide) (cap := 8) (by decide) (by decide) (by decide) (by decide)
  obtain ⟨b32, g32⟩ : ∃ z, z = h22.size := ⟨_, rfl⟩
  rw [← g32] at A32 st32
  refine Goes.step st32 ?_
  have g_b32 : n0 ≤ b32 := Nat.le_trans Z31 (Nat.le_of_eq g32.symm)
  have sz_b32 : h0.size ≤ b32 := Nat.le_trans K31.1 (Nat.le_of_eq g32.symm)
  have ne33 : x0 ≠ b32 := Nat.ne_of_lt (Nat.lt_of_lt_of_le f23.lt (Nat.le_of_eq g32.symm))
  have ne34 : b12 ≠ b32 := Nat.ne_of_lt (Nat.lt_of_lt_of_le f30.lt (Nat.le_of_eq g32.symm))
  have f35 := f23.ext E32
  have f36 := f24.ext E32
  have f37 := f25.ext E32
  have f38 := f26.ext E32
  have f39 := f27.ext E32
  have f40 := f28.ext E32
  have f41 := f29.ext E32
  have f42 := f30.ext E32
  have K43 : Keep h0 h32 [x0] := K31.ext E32
  have Z43 : n0 ≤ h32.size := Nat.le_trans Z31 E32.1
  have V_b32 : ArF Z h32 b32 k32 .int 8 (fun _ => (.int (0 : Int32))) := own_arf (Arv.new A32 (by decide))
  show Goes _ _ _ _ _ _ _ (T32.setTop (mkF m 57 #[.val (.ref x0), .val (.int (4 : Int32)), .val (.int (8 : Int32))] [(.ref b32), (.ref x0)]))
  obtain ⟨T44, h44, X44, e44, W44, st44⟩ := putF X32 hx hZ hown (host := "") (Or.inl (hw _ (List.mem_of_getElem? (i := 26) rfl))) Via.refl e32 f37 f41 (Or.inr ⟨(hw _ (List.mem_of_getElem? (i := 27) rfl)), rfl, hnm⟩) (hw _ (List.mem_of_getElem? (i := 2) rfl)) (ty := (.array .int)) (by decide) rfl rfl (g := (mkF m 57 #[.val (.ref x0), .val (.int (4 : Int32)), .val (.int (8 : Int32))] [(.ref b32), (.ref x0)])) rfl rfl (hb hby d1_57)
  refine Goes.step st44 ?_
  have f45 := f35.other W44 (Or.inr (slot_ne (Or.inr (hw _ (List.mem_of_getElem? (i := 12) rfl))) (Or.inr (hw _ (List.mem_of_getElem? (i := 27) rfl))) (by decide) (t := .int) (t' := (.array .int)) (by decide) (by decide)))
  have f46 := f36.other W44 (Or.inr (slot_ne (Or.inr (hw _ (List.mem_of_getElem? (i := 25) rfl))) (Or.inr (hw _ (List.mem_of_getElem? (i := 27) rfl))) (by decide) (t := (.array (.object "java/lang/Object"))) (t' := (.array .int)) (by decide) (by decide)))
  have f47 := f37.same W44
  have f48 := f38.other W44 (Or.inr (slot_ne (Or.inr (hw _ (List.mem_of_getElem? (i := 29) rfl))) (Or.inr (hw _ (List.mem_of_getElem? (i := 27) rfl))) (by decide) (t := (.array (.object "java/lang/Object"))) (t' := (.array .int)) (by decide) (by decide)))
  have f49 := f39.other W44 (Or.inr (slot_ne (Or.inr (hw _ (List.mem_of_getElem? (i := 32) rfl))) (Or.inr (hw _ (List.mem_of_getElem? (i := 27) rfl))) (by decide) (t := .int) (t' := (.array .int)) (by decide) (by decide)))
  have f50 := f40.other W44 (Or.inr (slot_ne (Or.inl (hw _ (List.mem_of_getElem? (i := 39) rfl))) (Or.inr (hw _ (List.mem_of_getElem? (i := 27) rfl))) (by decide) (t := .int) (t' := (.array .int)) (by decide) (by decide)))
  have f51 := f41.wr W44
  have f52 := f42.other W44 (Ne.symm ne13)
  have f53 := V_b32.other W44 (Ne.symm ne33)
  have K54 : Keep h0 h44 [x0] := K43.wr W44 (Or.inl (List.mem_of_getElem? (i := 0) rfl))
  have Z54 : n0 ≤ h44.size := by rw [Wr.size W44]; exact Z43
  have N54 := Fr.snoc X44 N31 g_x0
  show Goes _ _ _ _ _ _ _ (T44.setTop (mkF m 60 #[.val (.ref x0), .val (.int (4 : Int32)), .val (.int (8 : Int32))] []))
  refine Goes.step (fun _ k => XS.aloadN X44.here hx rfl (hb hby d1_60) rfl rfl k) ?_
  show Goes _ _ _ _ _ _ _ (T44.setTop (mkF m 61 #[.val (.ref x0), .val (.int (4 : Int32)), .val (.int (8 : Int32))] [(.ref x0)]))
  refine Goes.step (fun _ k => XS.iloadN X44.here hx rfl (hb hby d1_61) rfl  k) ?_
  show Goes _ _ _ _ _ _ _ (T44.setTop (mkF m 62 #[.val (.ref x0), .val (.int (4 : Int32)), .val (.int (8 : Int32))] [(.int (8 : Int32)), (.ref x0)]))
  obtain ⟨T55, h55, k55, X55, e55, E55, A55, O55, st55⟩ := newR X44 hx hZ hown (hw _ (List.mem_of_getElem? (i := 22) rfl)) (hw _ (List.mem_of_getElem? (i := 23) rfl)) e44 (g := (mkF m 62 #[.val (.ref x0), .val (.int (4 : Int32)), .val (.int (8 : Int32))] [(.int (8 : Int32)), (.ref x0)])) rfl (hb hby d1_62) rfl (by decide) (cap := 8) (by decide) (by decide) (by decide) (by decide)
  obtain ⟨b55, g55⟩ : ∃ z, z = h44.size := ⟨_, rfl⟩
  rw [← g55] at A55 st55
  refine Goes.step st55 ?_
  have g_b55 : n0 ≤ b55 := Nat.le_trans Z54 (Nat.le_of_eq g55.symm)
  have sz_b55 : h0.size ≤ b55 := Nat.le_trans K54.1 (Nat.le_of_eq g55.symm)
  have ne56 : x0 ≠ b55 := Nat.ne_of_lt (Nat.lt_of_lt_of_le f45.lt (Nat.le_of_eq g55.symm))
  have ne57 : b12 ≠ b55 := Nat.ne_of_lt (Nat.lt_of_lt_of_le f52.lt (Nat.le_of_eq g55.symm))
  have ne58 : b32 ≠ b55 := Nat.ne_of_lt (Nat.lt_of_lt_of_le f53.lt (Nat.le_of_eq g55.symm))
  have f59 := f45.ext E55
  have f60 := f46.ext E55
  have f61 := f47.ext E55
  have f62 := f48.ext E55
  have f63 := f49.ext E55
  have f64 := f50.ext E55
  have f65 := f51.ext E55
  have f66 := f52.ext E55
  have f67 := f53.ext E55
  have K68 : Keep h0 h55 [x0] := K54.ext E55
  have Z68 : n0 ≤ h55.size := Nat.le_trans Z54 E55.1
  have V_b55 : ArF Z h55 b55 k55 (.object "java/lang/Object") 8 (fun _ => .null) := own_arf (Arv.new A55 (by decide))
  show Goes _ _ _ _ _ _ _ (T55.setTop (mkF m 65 #[.val (.ref x0), .val (.int (4 : Int32)), .val (.int (8 : Int32))] [(.ref b55), (.ref x0)]))
  obtain ⟨T69, h69, X69, e69, W69, st69⟩ := putF X55 hx hZ hown (host := "") (Or.inl (hw _ (List.mem_of_getElem? (i := 28) rfl))) Via.refl e55 f62 f65 (Or.inr ⟨(hw _ (List.mem_of_getElem? (i := 29) rfl)), rfl, hnm⟩) (hw _ (List.mem_of_getElem? (i := 2) rfl)) (ty := (.array (.object "java/lang/Object"))) (by decide) rfl rfl (g := (mkF m 65 #[.val (.ref x0), .val (.int (4 : Int32)), .val (.int (8 : Int32))] [(.ref b55), (.ref x0)])) rfl rfl (hb hby d1_65)
  refine Goes.step st69 ?_
  have f70 := f59.other W69 (Or.inr (slot_ne (Or.inr (hw _ (List.mem_of_getElem? (i := 12) rfl))) (Or.inr (hw _ (List.mem_of_getElem? (i := 29) rfl))) (by decide) (t := .int) (t' := (.array (.object "java/lang/Object"))) (by decide) (by decide)))
  have f71 := f60.other W69 (Or.inr (slot_ne (Or.inr (hw _ (List.mem_of_getElem? (i := 25) rfl))) (Or.inr (hw _ (List.mem_of_getElem? (i := 29) rfl))) (by decide) (t := (.array (.object "java/lang/Object"))) (t' := (.array (.object "java/lang/Object"))) (by decide) (by decide)))
  have f72 := f61.other W69 (Or.inr (slot_ne (Or.inr (hw _ (List.mem_of_getElem? (i := 27) rfl))) (Or.inr (hw _ (List.mem_of_getElem? (i := 29) rfl))) (by decide) (t := (.array .int)) (t' := (.array (.object "java/lang/Object"))) (by decide) (by decide)))
  have f73 := f62.same W69
  have f74 := f63.other W69 (Or.inr (slot_ne (Or.inr (hw _ (List.mem_of_getElem? (i := 32) rfl))) (Or.inr (hw _ (List.mem_of_getElem? (i := 29) rfl))) (by decide) (t := .int) (t' := (.array (.object "java/lang/Object"))) (by decide) (by decide)))
  have f75 := f64.other W69 (Or.inr (slot_ne (Or.inl (hw _ (List.mem_of_getElem? (i := 39) rfl))) (Or.inr (hw _ (List.mem_of_getElem? (i := 29) rfl))) (by decide) (t := .int) (t' := (.array (.object "java/lang/Object"))) (by decide) (by decide)))
  have f76 := f65.wr W69
  have f77 := f66.other W69 (Ne.symm ne13)
  have f78 := f67.other W69 (Ne.symm ne33)
  have f79 := V_b55.other W69 (Ne.symm ne56)
  have K80 : Keep h0 h69 [x0] := K68.wr W69 (Or.inl (List.mem_of_getElem? (i := 0) rfl))
  have Z80 : n0 ≤ h69.size := by rw [Wr.size W69]; exact Z68
  have N80 := Fr.snoc X69 N54 g_x0
  show Goes _ _ _ _ _ _ _ (T69.setTop (mkF m 68 #[.val (.ref x0), .val (.int (4 : Int32)), .val (.int (8 : Int32))] []))
  refine Goes.step (fun _ k => XS.aloadN X69.here hx rfl (hb hby d1_68) rfl rfl k) ?_
  show Goes _ _ _ _ _ _ _ (T69.setTop (mkF m 69 #[.val (.ref x0), .val (.int (4 : Int32)), .val (.int (8 : Int32))] [(.ref x0)]))
  refine Goes.step (fun _ k => XS.iloadN X69.here hx rfl (hb hby d1_69) rfl  k) ?_
  show Goes _ _ _ _ _ _ _ (T69.setTop (mkF m 70 #[.val (.ref x0), .val (.int (4 : Int32)), .val (.int (8 : Int32))] [(.int (8 : Int32)), (.ref x0)]))
  obtain ⟨_, _, ⟨T81, L81, k81, n81⟩, -, X81, ⟨Lc81, hQ81, l81, y81, z81⟩, st81⟩ := Jvm.LawKit.callS X69 hx (y := (⟨"java/lang/Integer", "numberOfLeadingZeros", "(I)I"⟩ : MethodName)) hown (mvT hZ (hw _ (List.mem_of_getElem? (i := 30) rfl))) (mvT hZ (hw _ (List.mem_of_getElem? (i := 19) rfl))) (mvT hZ (hw _ (List.mem_of_getElem? (i := 15) rfl))) (mvT hZ (hw _ (List.mem_of_getElem? (i := 20) rfl))) (by decide) (backOf (W := 1) (rm4_8 l Z a0 hw []  h69 n0 Z80 ) hZ (hw _ (List.mem_of_getElem? (i := 20) rfl)) (hw _ (List.mem_of_getElem? (i := 15) rfl)) (by decide) (by decide)) (g := (mkF m 70 #[.val (.ref x0), .val (.int (4 : Int32)), .val (.int (8 : Int32))] [(.int (8 : Int32)), (.ref x0)])) rfl (by rw [hml]; rfl) (argsL := [(.int (8 : Int32))]) (rest := [(.ref x0)]) (lenOf pd_2 rfl) rfl (by show 2 * 0 + _ ≤ _; exact Nat.le_of_eq rfl) (hb hby d1_70) (fun _ _ => ⟨rfl, e69, (by decide : 3 + 0 ≤ _), (by decide : 24 + 0 ≤ _)⟩)
  dsimp only [Pt.U, Pt.locs, Pt.cells, Pt.slots] at X81 l81 y81 z81 st81 hQ81
  subst l81 y81 z81
  obtain ⟨N81, KK81, hR81⟩ := hQ81
  have NA81 := Fr.app N80 N81
  obtain rfl := hR81
  refine Goes.step st81 ?_
  show Goes _ _ _ _ _ _ _ (T81.setTop (mkF m 73 #[.val (.ref x0), .val (.int (4 : Int32)), .val (.int (8 : Int32))] [(.int (28 : Int32)), (.ref x0)]))
  refine Goes.step (fun _ k => XS.iconst X81.here hx rfl (hb hby d1_73) k) ?_
  show Goes _ _ _ _ _ _ _ (T81.setTop (mkF m 74 #[.val (.ref x0), .val (.int (4 : Int32)), .val (.int (8 : Int32))] [(.int (1 : Int32)), (.int (28 : Int32)), (.ref x0)]))
  refine Goes.step (fun _ k => XS.iadd X81.here hx rfl (hb hby d1_74) rfl k) ?_
  show Goes _ _ _ _ _ _ _ (T81.setTop (mkF m 75 #[.val (.ref x0), .val (.int (4 : Int32)), .val (.int (8 : Int32))] [(.int (29 : Int32)), (.ref x0)]))
  obtain ⟨T82, h82, X82, e82, W82, st82⟩ := putF X81 hx hZ hown (host := "") (Or.inl (hw _ (List.mem_of_getElem? (i := 31) rfl))) Via.refl KK81 f74 f76 (Or.inr ⟨(hw _ (List.mem_of_getElem? (i := 32) rfl)), rfl, hnm⟩) (hw _ (List.mem_of_getElem? (i := 2) rfl)) (ty := .int) (by decide) rfl rfl (g := (mkF m 75 #[.val (.ref x0), .val (.int (4 : Int32)), .val (.int (8 : Int32))] [(.int (29 : Int32)), (.ref x0)])) rfl rfl (hb hby d1_75)
  refine Goes.step st82 ?_
  have f83 := f70.other W82 (Or.inr (slot_ne (Or.inr (hw _ (List.mem_of_getElem? (i := 12) rfl))) (Or.inr (hw _ (List.mem_of_getElem? (i := 32) rfl))) (by decide) (t := .int) (t' := .int) (by decide) (by decide)))
  have f84 := f71.other W82 (Or.inr (slot_ne (Or.inr (hw _ (List.mem_of_getElem? (i := 25) rfl))) (Or.inr (hw _ (List.mem_of_getElem? (i := 32) rfl))) (by decide) (t := (.array (.object "java/lang/Object"))) (t' := .int) (by decide) (by decide)))
  have f85 := f72.other W82 (Or.inr (slot_ne (Or.inr (hw _ (List.mem_of_getElem? (i := 27) rfl))) (Or.inr (hw _ (List.mem_of_getElem? (i := 32) rfl))) (by decide) (t := (.array .int)) (t' := .int) (by decide) (by decide)))
  have f86 := f73.other W82 (Or.inr (slot_ne (Or.inr (hw _ (List.mem_of_getElem? (i := 29) rfl))) (Or.inr (hw _ (List.mem_of_getElem? (i := 32) rfl))) (by decide) (t := (.array (.object "java/lang/Object"))) (t' := .int) (by decide) (by decide)))
  have f87 := f74.same W82
  have f88 := f75.other W82 (Or.inr (slot_ne (Or.inl (hw _ (List.mem_of_getElem? (i := 39) rfl))) (Or.inr (hw _ (List.mem_of_getElem? (i := 32) rfl))) (by decide) (t := .int) (t' := .int) (by decide) (by decide)))
  have f89 := f76.wr W82
  have f90 := f77.other W82 (Ne.symm ne13)
  have f91 := f78.other W82 (Ne.symm ne33)
  have f92 := f79.other W82 (Ne.symm ne56)
  have K93 : Keep h0 h82 [x0] := K80.wr W82 (Or.inl (List.mem_of_getElem? (i := 0) rfl))
  have Z93 : n0 ≤ h82.size := by rw [Wr.size W82]; exact Z80
  have N93 := Fr.snoc X82 NA81 g_x0
  show Goes _ _ _ _ _ _ _ (T82.setTop (mkF m 78 #[.val (.ref x0), .val (.int (4 : Int32)), .val (.int (8 : Int32))] []))
  exact Goes.retV X82 hx (BodyLoose.notSynchronized Bd) Bd.returns (hb hby d1_78) (by show Q1_4 Z x0 h0 n0 none T82.heap _; rw [e82]; exact ⟨N93, K93, ⟨b12, b32, b55, k12, k32, k55, rfl, g_b12, sz_b12, g_b32, sz_b32, g_b55, sz_b55, (Ne.symm ne34), (Ne.symm ne57), (Ne.symm ne58), f83, f84, f85, f86, f87, f88, f89, f90, f91, f92, O12, O55⟩⟩) (by decide) (by decide)
theorem own_most {x i : Int32} (h : ((1 : Int32) + (x &&& (3 : Int32))) = i) : i = 1 ∨ i = 2 ∨ i = 3 ∨ i = 4 := by
  have b : (x &&& (3 : Int32)).toInt = x.toInt % 2 ^ 2 := Jvm.Kit.i32_mask x 3 (k := 2) (by decide) (by decide)
  have e1 : (1 : Int32).toInt = 1 := rfl
  have s : ((1 : Int32) + (x &&& (3 : Int32))).toInt = (1 : Int32).toInt + (x &&& (3 : Int32)).toInt := Jvm.Kit.i32_add (by omega) (by omega)
  rw [h, e1] at s
  have q : i.toInt = 1 ∨ i.toInt = 2 ∨ i.toInt = 3 ∨ i.toInt = 4 := by omega
  rcases q with q | q | q | q
  · exact Or.inl (own_eqOf 1 q)
  · exact Or.inr (Or.inl (own_eqOf 2 q))
  · exact Or.inr (Or.inr (Or.inl (own_eqOf 3 q)))
  · exact Or.inr (Or.inr (Or.inr (own_eqOf 4 q)))
theorem pn_0 : plainName "com/example/nehaba/nehaba/input/KeptValuesPutPinLaw" = true := by first | (simp [plainName, overriddenIn]; done) | decide +kernel
theorem ef_0 (m : MethodId) (p0 : Int32) (p1 : Int32) (p2 : Int32) (p3 : Int32) (p4 : Int32)  : entryFrame m #[(.int p0), (.int p1), (.int p2), (.int p3), (.int p4)] maxLocals = mkF m 0 #[.val (.int p0), .val (.int p1), .val (.int p2), .val (.int p3), .val (.int p4), .unset, .unset, .unset, .unset, .unset, .unset, .unset, .unset, .unset, .unset, .unset, .unset, .unset, .unset, .unset, .unset] [] := by first | (simp [entryFrame, mkF, argsToLocals, Value.category, maxLocals]; done) | rfl
theorem pd_0 : parseMethodDescriptor "(I)V" = some ⟨[.int], none⟩ := by decide +kernel
theorem pd_3 : parseMethodDescriptor "(ILjava/lang/Object;Ljava/lang/Object;)Ljava/lang/Object;" = some ⟨[.int, (.object "java/lang/Object"), (.object "java/lang/Object")], some (.object "java/lang/Object")⟩ := by decide +kernel
theorem pd_5 : parseMethodDescriptor "(Lcom/example/nehaba/nehaba/input/KeptValues;ILjava/lang/Object;)Ljava/lang/Object;" = some ⟨[(.object "com/example/nehaba/nehaba/input/KeptValues"), .int, (.object "java/lang/Object")], some (.object "java/lang/Object")⟩ := by decide +kernel
def Q0 (Z : State) (p0 : Int32) (p1 : Int32) (p2 : Int32) (p3 : Int32) (p4 : Int32) (h0 : Heap) (n0 : Nat) (v : Option Value) (h : Heap) (L : List Loc) : Prop := v = some (.int 1) ∧ Fr n0 L
set_option maxRecDepth 65536 in
set_option maxHeartbeats 40000000 in
theorem rm0 (l : Launch) (Z : State) (a0 : Array Value) (hw : ∀ d ∈ tables_1, d.before a0 Z = true) (ws : List Jvm.Cond) (p0 : Int32) (p1 : Int32) (p2 : Int32) (p3 : Int32) (p4 : Int32) (h0 : Heap) (n0 : Nat) (Z0 : n0 ≤ h0.size) :
    MetFree l x (head1 (Jvm.Cond.code x code maxLocals ret :: ws) room_1) (fun a U => a = #[(.int p0), (.int p1), (.int p2), (.int p3), (.int p4)] ∧ Z.Warmed39 U.vm ∧ U.heap = h0) (fun _ _ _ _ _ => True) (fun _ U o U' => ∃ v L, o = .returned v ∧ Q0 Z p0 p1 p2 p3 p4 h0 n0 v U'.heap L ∧ FrameEnd U o U' L room_1.cells room_1.slots) := by
  refine MetFree.of_bodySF (plainFor_of_name pn_0) hisR ?_
  intro p e s m args below meth c s₁ Bd hml0 hP hK
  obtain ⟨rfl, hZ, hh⟩ := hP
  have hx := Bd.exec
  have hby := Bd.bytes
  have hml : c.maxLocals = 21 := hml0
  have hown : s.vm.findClass "com/example/nehaba/nehaba/input/KeptValuesPutPinLaw" = some m.cls := findClass_of_methodNamed Bd.named
  have hnm := (name_of_methodNamed Bd.named Bd.method).1
  have X0 : Stand p l e room_1 s m #[(.int p0), (.int p1), (.int p2), (.int p3), (.int p4)] below meth c s₁ [] 0 0 := Stand.of_body Bd
  have e0 : s₁.heap = h0 := by rw [← hh, Bd.state]; rfl
  have N0 := Fr.nil n0
  have K0 : Keep h0 h0 [] := Keep.refl h0 _
  refine (?_ : Goes p e below s room_1.cells room_1.slots (fun v h L => Q0 Z p0 p1 p2 p3 p4 h0 n0 v h L) (s₁.setTop (entryFrame m #[(.int p0), (.int p1), (.int p2), (.int p3), (.int p4)] maxLocals)))
  rw [ef_0 m p0 p1 p2 p3 p4 ]
  have J47 : ∀ (mo5 g2 g3 : Int32), (mo5 = 1 ∨ mo5 = 2 ∨ mo5 = 3 ∨ mo5 = 4) → Goes p e below s room_1.cells room_1.slots (fun v h L => Q0 Z p0 p1 p2 p3 p4 h0 n0 v h L) (s₁.setTop (mkF m 47 #[.val (.int p0), .val (.int p1), .val (.int p2), .val (.int p3), .val (.int p4), .val (.int mo5), .val (.int g2), .val (.int g3), .unset, .unset, .unset, .unset, .unset, .unset, .unset, .unset, .unset, .unset, .unset, .unset, .unset] [])) := by
    intro mo5 g2 g3 hmo
    rcases hmo with rfl | rfl | rfl | rfl
    · show Goes _ _ _ _ _ _ _ (s₁.setTop (mkF m 47 #[.val (.int p0), .val (.int p1), .val (.int p2), .val (.int p3), .val (.int p4), .val (.int (1 : Int32)), .val (.int g2), .val (.int g3), .unset, .unset, .unset, .unset, .unset, .unset, .unset, .unset, .unset, .unset, .unset, .unset, .unset] []))
      refine Goes.step (fun _ k => XS.iconst X0.here hx rfl (hb hby at_47) k) ?_
      show Goes _ _ _ _ _ _ _ (s₁.setTop (mkF m 48 #[.val (.int p0), .val (.int p1), .val (.int p2), .val (.int p3), .val (.int p4), .val (.int (1 : Int32)), .val (.int g2), .val (.int g3), .unset, .unset, .unset, .unset, .unset, .unset, .unset, .unset, .unset, .unset, .unset, .unset, .unset] [(.int (1 : Int32))]))
      obtain ⟨T1, h1, k1, X1, e1, E1, A1, XA1, st1⟩ := newPE X0 hx hZ (hw _ (List.mem_of_getElem? (i := 0) rfl)) e0 (g := (mkF m 48 #[.val (.int p0), .val (.int p1), .val (.int p2), .val (.int p3), .val (.int p4), .val (.int (1 : Int32)), .val (.int g2), .val (.int g3), .unset, .unset, .unset, .unset, .unset, .unset, .unset, .unset, .unset, .unset, .unset, .unset, .unset] [(.int (1 : Int32))])) rfl (hb hby at_48) rfl (by decide) (cap := 1) (by decide) (by decide) (by decide) (by decide) (ad := "[I") (by decide)
      obtain ⟨b1, g1⟩ : ∃ z, z = h0.size := ⟨_, rfl⟩
      rw [← g1] at A1 st1 XA1
      refine Goes.step st1 ?_
      have g_b1 : n0 ≤ b1 := Nat.le_trans Z0 (Nat.le_of_eq g1.symm)
      have sz_b1 : h0.size ≤ b1 := Nat.le_trans K0.1 (Nat.le_of_eq g1.symm)
      have K2 : Keep h0 h1 [] := K0.ext E1
      have Z2 : n0 ≤ h1.size := Nat.le_trans Z0 E1.1
      have E_b1 := XA1
      have V_b1 : Arv Z h1 b1 k1 .int (1 : Int32) [(.int (0 : Int32))] (.int (0 : Int32)) := (Arv.new A1 (by decide)).pad (pad_rep [] (.int (0 : Int32)) 1)
      show Goes _ _ _ _ _ _ _ (T1.setTop (mkF m 50 #[.val (.int p0), .val (.int p1), .val (.int p2), .val (.int p3), .val (.int p4), .val (.int (1 : Int32)), .val (.int g2), .val (.int g3), .unset, .unset, .unset, .unset, .unset, .unset, .unset, .unset, .unset, .unset, .unset, .unset, .unset] [(.ref b1)]))
      refine Goes.step (fun _ k => XS.dup X1.here hx rfl (hb hby at_50) rfl rfl k) ?_
      show Goes _ _ _ _ _ _ _ (T1.setTop (mkF m 51 #[.val (.int p0), .val (.int p1), .val (.int p2), .val (.int p3), .val (.int p4), .val (.int (1 : Int32)), .val (.int g2), .val (.int g3), .unset, .unset, .unset, .unset, .unset, .unset, .unset, .unset, .unset, .unset, .unset, .unset, .unset] [(.ref b1), (.ref b1)]))
      refine Goes.step (fun _ k => XS.iconst X1.here hx rfl (hb hby at_51) k) ?_
      show Goes _ _ _ _ _ _ _ (T1.setTop (mkF m 52 #[.val (.int p0), .val (.int p1), .val (.int p2), .val (.int p3), .val (.int p4), .val (.int (1 : Int32)), .val (.int g2), .val (.int g3), .unset, .unset, .unset, .unset, .unset, .unset, .unset, .unset, .unset, .unset, .unset, .unset, .unset] [(.int (0 : Int32)), (.ref b1), (.ref b1)]))
      refine Goes.step (fun _ k => XS.iconst X1.here hx rfl (hb hby at_52) k) ?_
      show Goes _ _ _ _ _ _ _ (T1.setTop (mkF m 53 #[.val (.int p0), .val (.int p1), .val (.int p2), .val (.int p3), .val (.int p4), .val (.int (1 : Int32)), .val (.int g2), .val (.int g3), .unset, .unset, .unset, .unset, .unset, .unset, .unset, .unset, .unset, .unset, .unset, .unset, .unset] [(.int (1 : Int32)), (.int (0 : Int32)), (.ref b1), (.ref b1)]))
      obtain ⟨cl3, Ar3, q3, S3, P3, H3, G3⟩ := id V_b1
      have hin3 : ¬ ((0 : Int32) < 0 ∨ cl3.slots.size ≤ ((0 : Int32)).toNatClampNeg) := inb_of S3 ⟨by decide, by decide⟩
      obtain ⟨T4, h4, X4, e4, W4, st4⟩ := stI X1 hx hZ e1 Ar3 (j := (0 : Int32)) hin3 (g := (mkF m 53 #[.val (.int p0), .val (.int p1), .val (.int p2), .val (.int p3), .val (.int p4), .val (.int (1 : Int32)), .val (.int g2), .val (.int g3), .unset, .unset, .unset, .unset, .unset, .unset, .unset, .unset, .unset, .unset, .unset, .unset, .unset] [(.int (1 : Int32)), (.int (0 : Int32)), (.ref b1), (.ref b1)])) rfl rfl (hb hby at_53)
      refine Goes.step st4 ?_
      have V4 := Arv.set Ar3 q3 S3 P3 H3 G3 rfl W4 0 rfl (Nat.le_of_ble_eq_true rfl)
      have f5 := E_b1.wr W4
      have f6 := V4
      have K7 : Keep h0 h4 [] := K2.wr W4 (Or.inr sz_b1)
      have Z7 : n0 ≤ h4.size := by rw [Wr.size W4]; exact Z2
      have N7 := Fr.snoc X4 N0 g_b1
      show Goes _ _ _ _ _ _ _ (T4.setTop (mkF m 54 #[.val (.int p0), .val (.int p1), .val (.int p2), .val (.int p3), .val (.int p4), .val (.int (1 : Int32)), .val (.int g2), .val (.int g3), .unset, .unset, .unset, .unset, .unset, .unset, .unset, .unset, .unset, .unset, .unset, .unset, .unset] [(.ref b1)]))
      refine Goes.step (fun _ k => XS.astore X4.here hx rfl (hb hby at_54) rfl rfl (l' := #[.val (.int p0), .val (.int p1), .val (.int p2), .val (.int p3), .val (.int p4), .val (.int (1 : Int32)), .val (.int g2), .val (.int g3), .val (.ref b1), .unset, .unset, .unset, .unset, .unset, .unset, .unset, .unset, .unset, .unset, .unset, .unset]) rfl k) ?_
      show Goes _ _ _ _ _ _ _ (T4.setTop (mkF m 56 #[.val (.int p0), .val (.int p1), .val (.int p2), .val (.int p3), .val (.int p4), .val (.int (1 : Int32)), .val (.int g2), .val (.int g3), .val (.ref b1), .unset, .unset, .unset, .unset, .unset, .unset, .unset, .unset, .unset, .unset, .unset, .unset] []))
      refine Goes.step (fun _ k => XS.iconst X4.here hx rfl (hb hby at_56) k) ?_
      show Goes _ _ _ _ _ _ _ (T4.setTop (mkF m 57 #[.val (.int p0), .val (.int p1), .val (.int p2), .val (.int p3), .val (.int p4), .val (.int (1 : Int32)), .val (.int g2), .val (.int g3), .val (.ref b1), .unset, .unset, .unset, .unset, .unset, .unset, .unset, .unset, .unset, .unset, .unset, .unset] [(.int (1 : Int32))]))
      obtain ⟨T8, h8, k8, X8, e8, E8, A8, XA8, st8⟩ := newPE X4 hx hZ (hw _ (List.mem_of_getElem? (i := 0) rfl)) e4 (g := (mkF m 57 #[.val (.int p0), .val (.int p1), .val (.int p2), .val (.int p3), .val (.int p4), .val (.int (1 : Int32)), .val (.int g2), .val (.int g3), .val (.ref b1), .unset, .unset, .unset, .unset, .unset, .unset, .unset, .unset, .unset, .unset, .unset, .unset] [(.int (1 : Int32))])) rfl (hb hby at_57) rfl (by decide) (cap := 1) (by decide) (by decide) (by decide) (by decide) (ad := "[I") (by decide)
      obtain ⟨b8, g8⟩ : ∃ z, z = h4.size := ⟨_, rfl⟩
      rw [← g8] at A8 st8 XA8
      refine Goes.step st8 ?_
      have g_b8 : n0 ≤ b8 := Nat.le_trans Z7 (Nat.le_of_eq g8.symm)
      have sz_b8 : h0.size ≤ b8 := Nat.le_trans K7.1 (Nat.le_of_eq g8.symm)
      have ne9 : b1 ≠ b8 := Nat.ne_of_lt (Nat.lt_of_lt_of_le f5.lt (Nat.le_of_eq g8.symm))
      have f10 := f5.ext E8
      have f11 := f6.ext E8
      have K12 : Keep h0 h8 [] := K7.ext E8
      have Z12 : n0 ≤ h8.size := Nat.le_trans Z7 E8.1
      have E_b8 := XA8
      have V_b8 : Arv Z h8 b8 k8 .int (1 : Int32) [(.int (0 : Int32))] (.int (0 : Int32)) := (Arv.new A8 (by decide)).pad (pad_rep [] (.int (0 : Int32)) 1)
      show Goes _ _ _ _ _ _ _ (T8.setTop (mkF m 59 #[.val (.int p0), .val (.int p1), .val (.int p2), .val (.int p3), .val (.int p4), .val (.int (1 : Int32)), .val (.int g2), .val (.int g3), .val (.ref b1), .unset, .unset, .unset, .unset, .unset, .unset, .unset, .unset, .unset, .unset, .unset, .unset] [(.ref b8)]))
      refine Goes.step (fun _ k => XS.dup X8.here hx rfl (hb hby at_59) rfl rfl k) ?_
      show Goes _ _ _ _ _ _ _ (T8.setTop (mkF m 60 #[.val (.int p0), .val (.int p1), .val (.int p2), .val (.int p3), .val (.int p4), .val (.int (1 : Int32)), .val (.int g2), .val (.int g3), .val (.ref b1), .unset, .unset, .unset, .unset, .unset, .unset, .unset, .unset, .unset, .unset, .unset, .unset] [(.ref b8), (.ref b8)]))
      refine Goes.step (fun _ k => XS.iconst X8.here hx rfl (hb hby at_60) k) ?_
      show Goes _ _ _ _ _ _ _ (T8.setTop (mkF m 61 #[.val (.int p0), .val (.int p1), .val (.int p2), .val (.int p3), .val (.int p4), .val (.int (1 : Int32)), .val (.int g2), .val (.int g3), .val (.ref b1), .unset, .unset, .unset, .unset, .unset, .unset, .unset, .unset, .unset, .unset, .unset, .unset] [(.int (0 : Int32)), (.ref b8), (.ref b8)]))
      refine Goes.step (fun _ k => XS.iconst X8.here hx rfl (hb hby at_61) k) ?_
      show Goes _ _ _ _ _ _ _ (T8.setTop (mkF m 62 #[.val (.int p0), .val (.int p1), .val (.int p2), .val (.int p3), .val (.int p4), .val (.int (1 : Int32)), .val (.int g2), .val (.int g3), .val (.ref b1), .unset, .unset, .unset, .unset, .unset, .unset, .unset, .unset, .unset, .unset, .unset, .unset] [(.int (2 : Int32)), (.int (0 : Int32)), (.ref b8), (.ref b8)]))
      obtain ⟨cl13, Ar13, q13, S13, P13, H13, G13⟩ := id V_b8
      have hin13 : ¬ ((0 : Int32) < 0 ∨ cl13.slots.size ≤ ((0 : Int32)).toNatClampNeg) := inb_of S13 ⟨by decide, by decide⟩
      obtain ⟨T14, h14, X14, e14, W14, st14⟩ := stI X8 hx hZ e8 Ar13 (j := (0 : Int32)) hin13 (g := (mkF m 62 #[.val (.int p0), .val (.int p1), .val (.int p2), .val (.int p3), .val (.int p4), .val (.int (1 : Int32)), .val (.int g2), .val (.int g3), .val (.ref b1), .unset, .unset, .unset, .unset, .unset, .unset, .unset, .unset, .unset, .unset, .unset, .unset] [(.int (2 : Int32)), (.int (0 : Int32)), (.ref b8), (.ref b8)])) rfl rfl (hb hby at_62)
      refine Goes.step st14 ?_
      have V14 := Arv.set Ar13 q13 S13 P13 H13 G13 rfl W14 0 rfl (Nat.le_of_ble_eq_true rfl)
      have f15 := f10.wr W14
      have f16 := f11.other W14 ne9
      have f17 := E_b8.wr W14
      have f18 := V14
      have K19 : Keep h0 h14 [] := K12.wr W14 (Or.inr sz_b8)
      have Z19 : n0 ≤ h14.size := by rw [Wr.size W14]; exact Z12
      have N19 := Fr.snoc X14 N7 g_b8
      show Goes _ _ _ _ _ _ _ (T14.setTop (mkF m 63 #[.val (.int p0), .val (.int p1), .val (.int p2), .val (.int p3), .val (.int p4), .val (.int (1 : Int32)), .val (.int g2), .val (.int g3), .val (.ref b1), .unset, .unset, .unset, .unset, .unset, .unset, .unset, .unset, .unset, .unset, .unset, .unset] [(.ref b8)]))
      refine Goes.step (fun _ k => XS.astore X14.here hx rfl (hb hby at_63) rfl rfl (l' := #[.val (.int p0), .val (.int p1), .val (.int p2), .val (.int p3), .val (.int p4), .val (.int (1 : Int32)), .val (.int g2), .val (.int g3), .val (.ref b1), .val (.ref b8), .unset, .unset, .unset, .unset, .unset, .unset, .unset, .unset, .unset, .unset, .unset]) rfl k) ?_
      show Goes _ _ _ _ _ _ _ (T14.setTop (mkF m 65 #[.val (.int p0), .val (.int p1), .val (.int p2), .val (.int p3), .val (.int p4), .val (.int (1 : Int32)), .val (.int g2), .val (.int g3), .val (.ref b1), .val (.ref b8), .unset, .unset, .unset, .unset, .unset, .unset, .unset, .unset, .unset, .unset, .unset] []))
      refine Goes.step (fun _ k => XS.iconst X14.here hx rfl (hb hby at_65) k) ?_
      show Goes _ _ _ _ _ _ _ (T14.setTop (mkF m 66 #[.val (.int p0), .val (.int p1), .val (.int p2), .val (.int p3), .val (.int p4), .val (.int (1 : Int32)), .val (.int g2), .val (.int g3), .val (.ref b1), .val (.ref b8), .unset, .unset, .unset, .unset, .unset, .unset, .unset, .unset, .unset, .unset, .unset] [(.int (1 : Int32))]))
      obtain ⟨T20, h20, k20, X20, e20, E20, A20, XA20, st20⟩ := newPE X14 hx hZ (hw _ (List.mem_of_getElem? (i := 0) rfl)) e14 (g := (mkF m 66 #[.val (.int p0), .val (.int p1), .val (.int p2), .val (.int p3), .val (.int p4), .val (.int (1 : Int32)), .val (.int g2), .val (.int g3), .val (.ref b1), .val (.ref b8), .unset, .unset, .unset, .unset, .unset, .unset, .unset, .unset, .unset, .unset, .unset] [(.int (1 : Int32))])) rfl (hb hby at_66) rfl (by decide) (cap := 1) (by decide) (by decide) (by decide) (by decide) (ad := "[I") (by decide)
      obtain ⟨b20, g20⟩ : ∃ z, z = h14.size := ⟨_, rfl⟩
      rw [← g20] at A20 st20 XA20
      refine Goes.step st20 ?_
      have g_b20 : n0 ≤ b20 := Nat.le_trans Z19 (Nat.le_of_eq g20.symm)
      have sz_b20 : h0.size ≤ b20 := Nat.le_trans K19.1 (Nat.le_of_eq g20.symm)
      have ne21 : b1 ≠ b20 := Nat.ne_of_lt (Nat.lt_of_lt_of_le f15.lt (Nat.le_of_eq g20.symm))
      have ne22 : b8 ≠ b20 := Nat.ne_of_lt (Nat.lt_of_lt_of_le f17.lt (Nat.le_of_eq g20.symm))
      have f23 := f15.ext E20
      have f24 := f16.ext E20
      have f25 := f17.ext E20
      have f26 := f18.ext E20
      have K27 : Keep h0 h20 [] := K19.ext E20
      have Z27 : n0 ≤ h20.size := Nat.le_trans Z19 E20.1
      have E_b20 := XA20
      have V_b20 : Arv Z h20 b20 k20 .int (1 : Int32) [(.int (0 : Int32))] (.int (0 : Int32)) := (Arv.new A20 (by decide)).pad (pad_rep [] (.int (0 : Int32)) 1)
      show Goes _ _ _ _ _ _ _ (T20.setTop (mkF m 68 #[.val (.int p0), .val (.int p1), .val (.int p2), .val (.int p3), .val (.int p4), .val (.int (1 : Int32)), .val (.int g2), .val (.int g3), .val (.ref b1), .val (.ref b8), .unset, .unset, .unset, .unset, .unset, .unset, .unset, .unset, .unset, .unset, .unset] [(.ref b20)]))
      refine Goes.step (fun _ k => XS.dup X20.here hx rfl (hb hby at_68) rfl rfl k) ?_
      show Goes _ _ _ _ _ _ _ (T20.setTop (mkF m 69 #[.val (.int p0), .val (.int p1), .val (.int p2), .val (.int p3), .val (.int p4), .val (.int (1 : Int32)), .val (.int g2), .val (.int g3), .val (.ref b1), .val (.ref b8), .unset, .unset, .unset, .unset, .unset, .unset, .unset, .unset, .unset, .unset, .unset] [(.ref b20), (.ref b20)]))
      refine Goes.step (fun _ k => XS.iconst X20.here hx rfl (hb hby at_69) k) ?_
      show Goes _ _ _ _ _ _ _ (T20.setTop (mkF m 70 #[.val (.int p0), .val (.int p1), .val (.int p2), .val (.int p3), .val (.int p4), .val (.int (1 : Int32)), .val (.int g2), .val (.int g3), .val (.ref b1), .val (.ref b8), .unset, .unset, .unset, .unset, .unset, .unset, .unset, .unset, .unset, .unset, .unset] [(.int (0 : Int32)), (.ref b20), (.ref b20)]))
      refine Goes.step (fun _ k => XS.iconst X20.here hx rfl (hb hby at_70) k) ?_
      show Goes _ _ _ _ _ _ _ (T20.setTop (mkF m 71 #[.val (.int p0), .val (.int p1), .val (.int p2), .val (.int p3), .val (.int p4), .val (.int (1 : Int32)), .val (.int g2), .val (.int g3), .val (.ref b1), .val (.ref b8), .unset, .unset, .unset, .unset, .unset, .unset, .unset, .unset, .unset, .unset, .unset] [(.int (3 : Int32)), (.int (0 : Int32)), (.ref b20), (.ref b20)]))
      obtain ⟨cl28, Ar28, q28, S28, P28, H28, G28⟩ := id V_b20
      have hin28 : ¬ ((0 : Int32) < 0 ∨ cl28.slots.size ≤ ((0 : Int32)).toNatClampNeg) := inb_of S28 ⟨by decide, by decide⟩
      obtain ⟨T29, h29, X29, e29, W29, st29⟩ := stI X20 hx hZ e20 Ar28 (j := (0 : Int32)) hin28 (g := (mkF m 71 #[.val (.int p0), .val (.int p1), .val (.int p2), .val (.int p3), .val (.int p4), .val (.int (1 : Int32)), .val (.int g2), .val (.int g3), .val (.ref b1), .val (.ref b8), .unset, .unset, .unset, .unset, .unset, .unset, .unset, .unset, .unset, .unset, .unset] [(.int (3 : Int32)), (.int (0 : Int32)), (.ref b20), (.ref b20)])) rfl rfl (hb hby at_71)
      refine Goes.step st29 ?_
      have V29 := Arv.set Ar28 q28 S28 P28 H28 G28 rfl W29 0 rfl (Nat.le_of_ble_eq_true rfl)
      have f30 := f23.wr W29
      have f31 := f24.other W29 ne21
      have f32 := f25.wr W29
      have f33 := f26.other W29 ne22
      have f34 := E_b20.wr W29
      have f35 := V29
      have K36 : Keep h0 h29 [] := K27.wr W29 (Or.inr sz_b20)
      have Z36 : n0 ≤ h29.size := by rw [Wr.size W29]; exact Z27
      have N36 := Fr.snoc X29 N19 g_b20
      show Goes _ _ _ _ _ _ _ (T29.setTop (mkF m 72 #[.val (.int p0), .val (.int p1), .val (.int p2), .val (.int p3), .val (.int p4), .val (.int (1 : Int32)), .val (.int g2), .val (.int g3), .val (.ref b1), .val (.ref b8), .unset, .unset, .unset, .unset, .unset, .unset, .unset, .unset, .unset, .unset, .unset] [(.ref b20)]))
      refine Goes.step (fun _ k => XS.astore X29.here hx rfl (hb hby at_72) rfl rfl (l' := #[.val (.int p0), .val (.int p1), .val (.int p2), .val (.int p3), .val (.int p4), .val (.int (1 : Int32)), .val (.int g2), .val (.int g3), .val (.ref b1), .val (.ref b8), .val (.ref b20), .unset, .unset, .unset, .unset, .unset, .unset, .unset, .unset, .unset, .unset]) rfl k) ?_
      show Goes _ _ _ _ _ _ _ (T29.setTop (mkF m 74 #[.val (.int p0), .val (.int p1), .val (.int p2), .val (.int p3), .val (.int p4), .val (.int (1 : Int32)), .val (.int g2), .val (.int g3), .val (.ref b1), .val (.ref b8), .val (.ref b20), .unset, .unset, .unset, .unset, .unset, .unset, .unset, .unset, .unset, .unset] []))
      refine Goes.step (fun _ k => XS.iconst X29.here hx rfl (hb hby at_74) k) ?_
      show Goes _ _ _ _ _ _ _ (T29.setTop (mkF m 75 #[.val (.int p0), .val (.int p1), .val (.int p2), .val (.int p3), .val (.int p4), .val (.int (1 : Int32)), .val (.int g2), .val (.int g3), .val (.ref b1), .val (.ref b8), .val (.ref b20), .unset, .unset, .unset, .unset, .unset, .unset, .unset, .unset, .unset, .unset] [(.int (1 : Int32))]))
      obtain ⟨T37, h37, k37, X37, e37, E37, A37, XA37, st37⟩ := newPE X29 hx hZ (hw _ (List.mem_of_getElem? (i := 0) rfl)) e29 (g := (mkF m 75 #[.val (.int p0), .val (.int p1), .val (.int p2), .val (.int p3), .val (.int p4), .val (.int (1 : Int32)), .val (.int g2), .val (.int g3), .val (.ref b1), .val (.ref b8), .val (.ref b20), .unset, .unset, .unset, .unset, .unset, .unset, .unset, .unset, .unset, .unset] [(.int (1 : Int32))])) rfl (hb hby at_75) rfl (by decide) (cap := 1) (by decide) (by decide) (by decide) (by decide) (ad := "[I") (by decide)
      obtain ⟨b37, g37⟩ : ∃ z, z = h29.size := ⟨_, rfl⟩
      rw [← g37] at A37 st37 XA37
      refine Goes.step st37 ?_
      have g_b37 : n0 ≤ b37 := Nat.le_trans Z36 (Nat.le_of_eq g37.symm)
      have sz_b37 : h0.size ≤ b37 := Nat.le_trans K36.1 (Nat.le_of_eq g37.symm)
      have ne38 : b1 ≠ b37 := Nat.ne_of_lt (Nat.lt_of_lt_of_le f30.lt (Nat.le_of_eq g37.symm))
      have ne39 : b8 ≠ b37 := Nat.ne_of_lt (Nat.lt_of_lt_of_le f32.lt (Nat.le_of_eq g37.symm))
      have ne40 : b20 ≠ b37 := Nat.ne_of_lt (Nat.lt_of_lt_of_le f34.lt (Nat.le_of_eq g37.symm))
      have f41 := f30.ext E37
      have f42 := f31.ext E37
      have f43 := f32.ext E37
      have f44 := f33.ext E37
      have f45 := f34.ext E37
      have f46 := f35.ext E37
      have K47 : Keep h0 h37 [] := K36.ext E37
      have Z47 : n0 ≤ h37.size := Nat.le_trans Z36 E37.1
      have E_b37 := XA37
      have V_b37 : Arv Z h37 b37 k37 .int (1 : Int32) [(.int (0 : Int32))] (.int (0 : Int32)) := (Arv.new A37 (by decide)).pad (pad_rep [] (.int (0 : Int32)) 1)
      show Goes _ _ _ _ _ _ _ (T37.setTop (mkF m 77 #[.val (.int p0), .val (.int p1), .val (.int p2), .val (.int p3), .val (.int p4), .val (.int (1 : Int32)), .val (.int g2), .val (.int g3), .val (.ref b1), .val (.ref b8), .val (.ref b20), .unset, .unset, .unset, .unset, .unset, .unset, .unset, .unset, .unset, .unset] [(.ref b37)]))
      refine Goes.step (fun _ k => XS.dup X37.here hx rfl (hb hby at_77) rfl rfl k) ?_
      show Goes _ _ _ _ _ _ _ (T37.setTop (mkF m 78 #[.val (.int p0), .val (.int p1), .val (.int p2), .val (.int p3), .val (.int p4), .val (.int (1 : Int32)), .val (.int g2), .val (.int g3), .val (.ref b1), .val (.ref b8), .val (.ref b20), .unset, .unset, .unset, .unset, .unset, .unset, .unset, .unset, .unset, .unset] [(.ref b37), (.ref b37)]))
      refine Goes.step (fun _ k => XS.iconst X37.here hx rfl (hb hby at_78) k) ?_
      show Goes _ _ _ _ _ _ _ (T37.setTop (mkF m 79 #[.val (.int p0), .val (.int p1), .val (.int p2), .val (.int p3), .val (.int p4), .val (.int (1 : Int32)), .val (.int g2), .val (.int g3), .val (.ref b1), .val (.ref b8), .val (.ref b20), .unset, .unset, .unset, .unset, .unset, .unset, .unset, .unset, .unset, .unset] [(.int (0 : Int32)), (.ref b37), (.ref b37)]))
      refine Goes.step (fun _ k => XS.bipush X37.here hx rfl (hb hby at_79) k) ?_
      show Goes _ _ _ _ _ _ _ (T37.setTop (mkF m 81 #[.val (.int p0), .val (.int p1), .val (.int p2), .val (.int p3), .val (.int p4), .val (.int (1 : Int32)), .val (.int g2), .val (.int g3), .val (.ref b1), .val (.ref b8), .val (.ref b20), .unset, .unset, .unset, .unset, .unset, .unset, .unset, .unset, .unset, .unset] [(.int (11 : Int32)), (.int (0 : Int32)), (.ref b37), (.ref b37)]))
      obtain ⟨cl48, Ar48, q48, S48, P48, H48, G48⟩ := id V_b37
      have hin48 : ¬ ((0 : Int32) < 0 ∨ cl48.slots.size ≤ ((0 : Int32)).toNatClampNeg) := inb_of S48 ⟨by decide, by decide⟩
      obtain ⟨T49, h49, X49, e49, W49, st49⟩ := stI X37 hx hZ e37 Ar48 (j := (0 : Int32)) hin48 (g := (mkF m 81 #[.val (.int p0), .val (.int p1), .val (.int p2), .val (.int p3), .val (.int p4), .val (.int (1 : Int32)), .val (.int g2), .val (.int g3), .val (.ref b1), .val (.ref b8), .val (.ref b20), .unset, .unset, .unset, .unset, .unset, .unset, .unset, .unset, .unset, .unset] [(.int (11 : Int32)), (.int (0 : Int32)), (.ref b37), (.ref b37)])) rfl rfl (hb hby at_81)
      refine Goes.step st49 ?_
      have V49 := Arv.set Ar48 q48 S48 P48 H48 G48 rfl W49 0 rfl (Nat.le_of_ble_eq_true rfl)
      have f50 := f41.wr W49
      have f51 := f42.other W49 ne38
      have f52 := f43.wr W49
      have f53 := f44.other W49 ne39
      have f54 := f45.wr W49
      have f55 := f46.other W49 ne40
      have f56 := E_b37.wr W49
      have f57 := V49
      have K58 : Keep h0 h49 [] := K47.wr W49 (Or.inr sz_b37)
      have Z58 : n0 ≤ h49.size := by rw [Wr.size W49]; exact Z47
      have N58 := Fr.snoc X49 N36 g_b37
      show Goes _ _ _ _ _ _ _ (T49.setTop (mkF m 82 #[.val (.int p0), .val (.int p1), .val (.int p2), .val (.int p3), .val (.int p4), .val (.int (1 : Int32)), .val (.int g2), .val (.int g3), .val (.ref b1), .val (.ref b8), .val (.ref b20), .unset, .unset, .unset, .unset, .unset, .unset, .unset, .unset, .unset, .unset] [(.ref b37)]))
      refine Goes.step (fun _ k => XS.astore X49.here hx rfl (hb hby at_82) rfl rfl (l' := #[.val (.int p0), .val (.int p1), .val (.int p2), .val (.int p3), .val (.int p4), .val (.int (1 : Int32)), .val (.int g2), .val (.int g3), .val (.ref b1), .val (.ref b8), .val (.ref b20), .val (.ref b37), .unset, .unset, .unset, .unset, .unset, .unset, .unset, .unset, .unset]) rfl k) ?_
      show Goes _ _ _ _ _ _ _ (T49.setTop (mkF m 84 #[.val (.int p0), .val (.int p1), .val (.int p2), .val (.int p3), .val (.int p4), .val (.int (1 : Int32)), .val (.int g2), .val (.int g3), .val (.ref b1), .val (.ref b8), .val (.ref b20), .val (.ref b37), .unset, .unset, .unset, .unset, .unset, .unset, .unset, .unset, .unset] []))
      refine Goes.step (fun _ k => XS.iconst X49.here hx rfl (hb hby at_84) k) ?_
      show Goes _ _ _ _ _ _ _ (T49.setTop (mkF m 85 #[.val (.int p0), .val (.int p1), .val (.int p2), .val (.int p3), .val (.int p4), .val (.int (1 : Int32)), .val (.int g2), .val (.int g3), .val (.ref b1), .val (.ref b8), .val (.ref b20), .val (.ref b37), .unset, .unset, .unset, .unset, .unset, .unset, .unset, .unset, .unset] [(.int (1 : Int32))]))
      obtain ⟨T59, h59, k59, X59, e59, E59, A59, XA59, st59⟩ := newPE X49 hx hZ (hw _ (List.mem_of_getElem? (i := 0) rfl)) e49 (g := (mkF m 85 #[.val (.int p0), .val (.int p1), .val (.int p2), .val (.int p3), .val (.int p4), .val (.int (1 : Int32)), .val (.int g2), .val (.int g3), .val (.ref b1), .val (.ref b8), .val (.ref b20), .val (.ref b37), .unset, .unset, .unset, .unset, .unset, .unset, .unset, .unset, .unset] [(.int (1 : Int32))])) rfl (hb hby at_85) rfl (by decide) (cap := 1) (by decide) (by decide) (by decide) (by decide) (ad := "[I") (by decide)
      obtain ⟨b59, g59⟩ : ∃ z, z = h49.size := ⟨_, rfl⟩
      rw [← g59] at A59 st59 XA59
      refine Goes.step st59 ?_
      have g_b59 : n0 ≤ b59 := Nat.le_trans Z58 (Nat.le_of_eq g59.symm)
      have sz_b59 : h0.size ≤ b59 := Nat.le_trans K58.1 (Nat.le_of_eq g59.symm)
      have ne60 : b1 ≠ b59 := Nat.ne_of_lt (Nat.lt_of_lt_of_le f50.lt (Nat.le_of_eq g59.symm))
      have ne61 : b8 ≠ b59 := Nat.ne_of_lt (Nat.lt_of_lt_of_le f52.lt (Nat.le_of_eq g59.symm))
      have ne62 : b20 ≠ b59 := Nat.ne_of_lt (Nat.lt_of_lt_of_le f54.lt (Nat.le_of_eq g59.symm))
      have ne63 : b37 ≠ b59 := Nat.ne_of_lt (Nat.lt_of_lt_of_le f56.lt (Nat.le_of_eq g59.symm))
      have f64 := f50.ext E59
      have f65 := f51.ext E59
      have f66 := f52.ext E59
      have f67 := f53.ext E59
      have f68 := f54.ext E59
      have f69 := f55.ext E59
      have f70 := f56.ext E59
      have f71 := f57.ext E59
      have K72 : Keep h0 h59 [] := K58.ext E59
      have Z72 : n0 ≤ h59.size := Nat.le_trans Z58 E59.1
      have E_b59 := XA59
      have V_b59 : Arv Z h59 b59 k59 .int (1 : Int32) [(.int (0 : Int32))] (.int (0 : Int32)) := (Arv.new A59 (by decide)).pad (pad_rep [] (.int (0 : Int32)) 1)
      show Goes _ _ _ _ _ _ _ (T59.setTop (mkF m 87 #[.val (.int p0), .val (.int p1), .val (.int p2), .val (.int p3), .val (.int p4), .val (.int (1 : Int32)), .val (.int g2), .val (.int g3), .val (.ref b1), .val (.ref b8), .val (.ref b20), .val (.ref b37), .unset, .unset, .unset, .unset, .unset, .unset, .unset, .unset, .unset] [(.ref b59)]))
      refine Goes.step (fun _ k => XS.dup X59.here hx rfl (hb hby at_87) rfl rfl k) ?_
      show Goes _ _ _ _ _ _ _ (T59.setTop (mkF m 88 #[.val (.int p0), .val (.int p1), .val (.int p2), .val (.int p3), .val (.int p4), .val (.int (1 : Int32)), .val (.int g2), .val (.int g3), .val (.ref b1), .val (.ref b8), .val (.ref b20), .val (.ref b37), .unset, .unset, .unset, .unset, .unset, .unset, .unset, .unset, .unset] [(.ref b59), (.ref b59)]))
      refine Goes.step (fun _ k => XS.iconst X59.here hx rfl (hb hby at_88) k) ?_
      show Goes _ _ _ _ _ _ _ (T59.setTop (mkF m 89 #[.val (.int p0), .val (.int p1), .val (.int p2), .val (.int p3), .val (.int p4), .val (.int (1 : Int32)), .val (.int g2), .val (.int g3), .val (.ref b1), .val (.ref b8), .val (.ref b20), .val (.ref b37), .unset, .unset, .unset, .unset, .unset, .unset, .unset, .unset, .unset] [(.int (0 : Int32)), (.ref b59), (.ref b59)]))
      refine Goes.step (fun _ k => XS.bipush X59.here hx rfl (hb hby at_89) k) ?_
      show Goes _ _ _ _ _ _ _ (T59.setTop (mkF m 91 #[.val (.int p0), .val (.int p1), .val (.int p2), .val (.int p3), .val (.int p4), .val (.int (1 : Int32)), .val (.int g2), .val (.int g3), .val (.ref b1), .val (.ref b8), .val (.ref b20), .val (.ref b37), .unset, .unset, .unset, .unset, .unset, .unset, .unset, .unset, .unset] [(.int (12 : Int32)), (.int (0 : Int32)), (.ref b59), (.ref b59)]))
      obtain ⟨cl73, Ar73, q73, S73, P73, H73, G73⟩ := id V_b59
      have hin73 : ¬ ((0 : Int32) < 0 ∨ cl73.slots.size ≤ ((0 : Int32)).toNatClampNeg) := inb_of S73 ⟨by decide, by decide⟩
      obtain ⟨T74, h74, X74, e74, W74, st74⟩ := stI X59 hx hZ e59 Ar73 (j := (0 : Int32)) hin73 (g := (mkF m 91 #[.val (.int p0), .val (.int p1), .val (.int p2), .val (.int p3), .val (.int p4), .val (.int (1 : Int32)), .val (.int g2), .val (.int g3), .val (.ref b1), .val (.ref b8), .val (.ref b20), .val (.ref b37), .unset, .unset, .unset, .unset, .unset, .unset, .unset, .unset, .unset] [(.int (12 : Int32)), (.int (0 : Int32)), (.ref b59), (.ref b59)])) rfl rfl (hb hby at_91)
      refine Goes.step st74 ?_
      have V74 := Arv.set Ar73 q73 S73 P73 H73 G73 rfl W74 0 rfl (Nat.le_of_ble_eq_true rfl)
      have f75 := f64.wr W74
      have f76 := f65.other W74 ne60
      have f77 := f66.wr W74
      have f78 := f67.other W74 ne61
      have f79 := f68.wr W74
      have f80 := f69.other W74 ne62
      have f81 := f70.wr W74
      have f82 := f71.other W74 ne63
      have f83 := E_b59.wr W74
      have f84 := V74
      have K85 : Keep h0 h74 [] := K72.wr W74 (Or.inr sz_b59)
      have Z85 : n0 ≤ h74.size := by rw [Wr.size W74]; exact Z72
      have N85 := Fr.snoc X74 N58 g_b59
      show Goes _ _ _ _ _ _ _ (T74.setTop (mkF m 92 #[.val (.int p0), .val (.int p1), .val (.int p2), .val (.int p3), .val (.int p4), .val (.int (1 : Int32)), .val (.int g2), .val (.int g3), .val (.ref b1), .val (.ref b8), .val (.ref b20), .val (.ref b37), .unset, .unset, .unset, .unset, .unset, .unset, .unset, .unset, .unset] [(.ref b59)]))
      refine Goes.step (fun _ k => XS.astore X74.here hx rfl (hb hby at_92) rfl rfl (l' := #[.val (.int p0), .val (.int p1), .val (.int p2), .val (.int p3), .val (.int p4), .val (.int (1 : Int32)), .val (.int g2), .val (.int g3), .val (.ref b1), .val (.ref b8), .val (.ref b20), .val (.ref b37), .val (.ref b59), .unset, .unset, .unset, .unset, .unset, .unset, .unset, .unset]) rfl k) ?_
      show Goes _ _ _ _ _ _ _ (T74.setTop (mkF m 94 #[.val (.int p0), .val (.int p1), .val (.int p2), .val (.int p3), .val (.int p4), .val (.int (1 : Int32)), .val (.int g2), .val (.int g3), .val (.ref b1), .val (.ref b8), .val (.ref b20), .val (.ref b37), .val (.ref b59), .unset, .unset, .unset, .unset, .unset, .unset, .unset, .unset] []))
      refine Goes.step (fun _ k => XS.iconst X74.here hx rfl (hb hby at_94) k) ?_
      show Goes _ _ _ _ _ _ _ (T74.setTop (mkF m 95 #[.val (.int p0), .val (.int p1), .val (.int p2), .val (.int p3), .val (.int p4), .val (.int (1 : Int32)), .val (.int g2), .val (.int g3), .val (.ref b1), .val (.ref b8), .val (.ref b20), .val (.ref b37), .val (.ref b59), .unset, .unset, .unset, .unset, .unset, .unset, .unset, .unset] [(.int (1 : Int32))]))
      obtain ⟨T86, h86, k86, X86, e86, E86, A86, XA86, st86⟩ := newPE X74 hx hZ (hw _ (List.mem_of_getElem? (i := 0) rfl)) e74 (g := (mkF m 95 #[.val (.int p0), .val (.int p1), .val (.int p2), .val (.int p3), .val (.int p4), .val (.int (1 : Int32)), .val (.int g2), .val (.int g3), .val (.ref b1), .val (.ref b8), .val (.ref b20), .val (.ref b37), .val (.ref b59), .unset, .unset, .unset, .unset, .unset, .unset, .unset, .unset] [(.int (1 : Int32))])) rfl (hb hby at_95) rfl (by decide) (cap := 1) (by decide) (by decide) (by decide) (by decide) (ad := "[I") (by decide)
      obtain ⟨b86, g86⟩ : ∃ z, z = h74.size := ⟨_, rfl⟩
      rw [← g86] at A86 st86 XA86
      refine Goes.step st86 ?_
      have g_b86 : n0 ≤ b86 := Nat.le_trans Z85 (Nat.le_of_eq g86.symm)
      have sz_b86 : h0.size ≤ b86 := Nat.le_trans K85.1 (Nat.le_of_eq g86.symm)
      have ne87 : b1 ≠ b86 := Nat.ne_of_lt (Nat.lt_of_lt_of_le f75.lt (Nat.le_of_eq g86.symm))
      have ne88 : b8 ≠ b86 := Nat.ne_of_lt (Nat.lt_of_lt_of_le f77.lt (Nat.le_of_eq g86.symm))
      have ne89 : b20 ≠ b86 := Nat.ne_of_lt (Nat.lt_of_lt_of_le f79.lt (Nat.le_of_eq g86.symm))
      have ne90 : b37 ≠ b86 := Nat.ne_of_lt (Nat.lt_of_lt_of_le f81.lt (Nat.le_of_eq g86.symm))
      have ne91 : b59 ≠ b86 := Nat.ne_of_lt (Nat.lt_of_lt_of_le f83.lt (Nat.le_of_eq g86.symm))
      have f92 := f75.ext E86
      have f93 := f76.ext E86
      have f94 := f77.ext E86
      have f95 := f78.ext E86
      have f96 := f79.ext E86
      have f97 := f80.ext E86
      have f98 := f81.ext E86
      have f99 := f82.ext E86
      have f100 := f83.ext E86
      have f101 := f84.ext E86
      have K102 : Keep h0 h86 [] := K85.ext E86
      have Z102 : n0 ≤ h86.size := Nat.le_trans Z85 E86.1
      have E_b86 := XA86
      have V_b86 : Arv Z h86 b86 k86 .int (1 : Int32) [(.int (0 : Int32))] (.int (0 : Int32)) := (Arv.new A86 (by decide)).pad (pad_rep [] (.int (0 : Int32)) 1)
      show Goes _ _ _ _ _ _ _ (T86.setTop (mkF m 97 #[.val (.int p0), .val (.int p1), .val (.int p2), .val (.int p3), .val (.int p4), .val (.int (1 : Int32)), .val (.int g2), .val (.int g3), .val (.ref b1), .val (.ref b8), .val (.ref b20), .val (.ref b37), .val (.ref b59), .unset, .unset, .unset, .unset, .unset, .unset, .unset, .unset] [(.ref b86)]))
      refine Goes.step (fun _ k => XS.dup X86.here hx rfl (hb hby at_97) rfl rfl k) ?_
      show Goes _ _ _ _ _ _ _ (T86.setTop (mkF m 98 #[.val (.int p0), .val (.int p1), .val (.int p2), .val (.int p3), .val (.int p4), .val (.int (1 : Int32)), .val (.int g2), .val (.int g3), .val (.ref b1), .val (.ref b8), .val (.ref b20), .val (.ref b37), .val (.ref b59), .unset, .unset, .unset, .unset, .unset, .unset, .unset, .unset] [(.ref b86), (.ref b86)]))
      refine Goes.step (fun _ k => XS.iconst X86.here hx rfl (hb hby at_98) k) ?_
      show Goes _ _ _ _ _ _ _ (T86.setTop (mkF m 99 #[.val (.int p0), .val (.int p1), .val (.int p2), .val (.int p3), .val (.int p4), .val (.int (1 : Int32)), .val (.int g2), .val (.int g3), .val (.ref b1), .val (.ref b8), .val (.ref b20), .val (.ref b37), .val (.ref b59), .unset, .unset, .unset, .unset, .unset, .unset, .unset, .unset] [(.int (0 : Int32)), (.ref b86), (.ref b86)]))
      refine Goes.step (fun _ k => XS.bipush X86.here hx rfl (hb hby at_99) k) ?_
      show Goes _ _ _ _ _ _ _ (T86.setTop (mkF m 101 #[.val (.int p0), .val (.int p1), .val (.int p2), .val (.int p3), .val (.int p4), .val (.int (1 : Int32)), .val (.int g2), .val (.int g3), .val (.ref b1), .val (.ref b8), .val (.ref b20), .val (.ref b37), .val (.ref b59), .unset, .unset, .unset, .unset, .unset, .unset, .unset, .unset] [(.int (13 : Int32)), (.int (0 : Int32)), (.ref b86), (.ref b86)]))
      obtain ⟨cl103, Ar103, q103, S103, P103, H103, G103⟩ := id V_b86
      have hin103 : ¬ ((0 : Int32) < 0 ∨ cl103.slots.size ≤ ((0 : Int32)).toNatClampNeg) := inb_of S103 ⟨by decide, by decide⟩
      obtain ⟨T104, h104, X104, e104, W104, st104⟩ := stI X86 hx hZ e86 Ar103 (j := (0 : Int32)) hin103 (g := (mkF m 101 #[.val (.int p0), .val (.int p1), .val (.int p2), .val (.int p3), .val (.int p4), .val (.int (1 : Int32)), .val (.int g2), .val (.int g3), .val (.ref b1), .val (.ref b8), .val (.ref b20), .val (.ref b37), .val (.ref b59), .unset, .unset, .unset, .unset, .unset, .unset, .unset, .unset] [(.int (13 : Int32)), (.int (0 : Int32)), (.ref b86), (.ref b86)])) rfl rfl (hb hby at_101)
      refine Goes.step st104 ?_
      have V104 := Arv.set Ar103 q103 S103 P103 H103 G103 rfl W104 0 rfl (Nat.le_of_ble_eq_true rfl)
      have f105 := f92.wr W104
      have f106 := f93.other W104 ne87
      have f107 := f94.wr W104
      have f108 := f95.other W104 ne88
      have f109 := f96.wr W104
      have f110 := f97.other W104 ne89
      have f111 := f98.wr W104
      have f112 := f99.other W104 ne90
      have f113 := f100.wr W104
      have f114 := f101.other W104 ne91
      have f115 := E_b86.wr W104
      have f116 := V104
      have K117 : Keep h0 h104 [] := K102.wr W104 (Or.inr sz_b86)
      have Z117 : n0 ≤ h104.size := by rw [Wr.size W104]; exact Z102
      have N117 := Fr.snoc X104 N85 g_b86
      show Goes _ _ _ _ _ _ _ (T104.setTop (mkF m 102 #[.val (.int p0), .val (.int p1), .val (.int p2), .val (.int p3), .val (.int p4), .val (.int (1 : Int32)), .val (.int g2), .val (.int g3), .val (.ref b1), .val (.ref b8), .val (.ref b20), .val (.ref b37), .val (.ref b59), .unset, .unset, .unset, .unset, .unset, .unset, .unset, .unset] [(.ref b86)]))
      refine Goes.step (fun _ k => XS.astore X104.here hx rfl (hb hby at_102) rfl rfl (l' := #[.val (.int p0), .val (.int p1), .val (.int p2), .val (.int p3), .val (.int p4), .val (.int (1 : Int32)), .val (.int g2), .val (.int g3), .val (.ref b1), .val (.ref b8), .val (.ref b20), .val (.ref b37), .val (.ref b59), .val (.ref b86), .unset, .unset, .unset, .unset, .unset, .unset, .unset]) rfl k) ?_
      show Goes _ _ _ _ _ _ _ (T104.setTop (mkF m 104 #[.val (.int p0), .val (.int p1), .val (.int p2), .val (.int p3), .val (.int p4), .val (.int (1 : Int32)), .val (.int g2), .val (.int g3), .val (.ref b1), .val (.ref b8), .val (.ref b20), .val (.ref b37), .val (.ref b59), .val (.ref b86), .unset, .unset, .unset, .unset, .unset, .unset, .unset] []))
      obtain ⟨T118, h118, X118, e118, E118, A118, D118, -, st118⟩ := newO X104 hx hZ hown (hw _ (List.mem_of_getElem? (i := 1) rfl)) (hw _ (List.mem_of_getElem? (i := 2) rfl)) (hw _ (List.mem_of_getElem? (i := 3) rfl)) e104 (g := (mkF m 104 #[.val (.int p0), .val (.int p1), .val (.int p2), .val (.int p3), .val (.int p4), .val (.int (1 : Int32)), .val (.int g2), .val (.int g3), .val (.ref b1), .val (.ref b8), .val (.ref b20), .val (.ref b37), .val (.ref b59), .val (.ref b86), .unset, .unset, .unset, .unset, .unset, .unset, .unset] [])) rfl (hb hby at_104) (by decide) (by decide)
      obtain ⟨b118, g118⟩ : ∃ z, z = h104.size := ⟨_, rfl⟩
      rw [← g118] at A118 D118 st118
      refine Goes.step st118 ?_
      have g_b118 : n0 ≤ b118 := Nat.le_trans Z117 (Nat.le_of_eq g118.symm)
      have sz_b118 : h0.size ≤ b118 := Nat.le_trans K117.1 (Nat.le_of_eq g118.symm)
      have ne119 : b1 ≠ b118 := Nat.ne_of_lt (Nat.lt_of_lt_of_le f105.lt (Nat.le_of_eq g118.symm))
      have ne120 : b8 ≠ b118 := Nat.ne_of_lt (Nat.lt_of_lt_of_le f107.lt (Nat.le_of_eq g118.symm))
      have ne121 : b20 ≠ b118 := Nat.ne_of_lt (Nat.lt_of_lt_of_le f109.lt (Nat.le_of_eq g118.symm))
      have ne122 : b37 ≠ b118 := Nat.ne_of_lt (Nat.lt_of_lt_of_le f111.lt (Nat.le_of_eq g118.symm))
      have ne123 : b59 ≠ b118 := Nat.ne_of_lt (Nat.lt_of_lt_of_le f113.lt (Nat.le_of_eq g118.symm))
      have ne124 : b86 ≠ b118 := Nat.ne_of_lt (Nat.lt_of_lt_of_le f115.lt (Nat.le_of_eq g118.symm))
      have f125 := f105.ext E118
      have f126 := f106.ext E118
      have f127 := f107.ext E118
      have f128 := f108.ext E118
      have f129 := f109.ext E118
      have f130 := f110.ext E118
      have f131 := f111.ext E118
      have f132 := f112.ext E118
      have f133 := f113.ext E118
      have f134 := f114.ext E118
      have f135 := f115.ext E118
      have f136 := f116.ext E118
      have K137 : Keep h0 h118 [] := K117.ext E118
      have Z137 : n0 ≤ h118.size := Nat.le_trans Z117 E118.1
      have E_b118 := A118
      have F_most_b118 : Fld Z h118 b118 "com/example/nehaba/nehaba/input/KeptValues" "most" "I" (.int (0 : Int32)) := D118 (Or.inr (hw _ (List.mem_of_getElem? (i := 12) rfl))) (ty := .int) (by decide)
      have F_keys_b118 : Fld Z h118 b118 "com/example/nehaba/nehaba/input/KeptValues" "keys" "[Ljava/lang/Object;" .null := D118 (Or.inr (hw _ (List.mem_of_getElem? (i := 25) rfl))) (ty := (.array (.object "java/lang/Object"))) (by decide)
      have F_hashes_b118 : Fld Z h118 b118 "com/example/nehaba/nehaba/input/KeptValues" "hashes" "[I" .null := D118 (Or.inr (hw _ (List.mem_of_getElem? (i := 27) rfl))) (ty := (.array .int)) (by decide)
      have F_values_b118 : Fld Z h118 b118 "com/example/nehaba/nehaba/input/KeptValues" "values" "[Ljava/lang/Object;" .null := D118 (Or.inr (hw _ (List.mem_of_getElem? (i := 29) rfl))) (ty := (.array (.object "java/lang/Object"))) (by decide)
      have F_shift_b118 : Fld Z h118 b118 "com/example/nehaba/nehaba/input/KeptValues" "shift" "I" (.int (0 : Int32)) := D118 (Or.inr (hw _ (List.mem_of_getElem? (i := 32) rfl))) (ty := .int) (by decide)
      have F_size_b118 : Fld Z h118 b118 "com/example/nehaba/nehaba/input/KeptValues" "size" "I" (.int (0 : Int32)) := D118 (Or.inl (hw _ (List.mem_of_getElem? (i := 39) rfl))) (ty := .int) (by decide)
      show Goes _ _ _ _ _ _ _ (T118.setTop (mkF m 107 #[.val (.int p0), .val (.int p1), .val (.int p2), .val (.int p3), .val (.int p4), .val (.int (1 : Int32)), .val (.int g2), .val (.int g3), .val (.ref b1), .val (.ref b8), .val (.ref b20), .val (.ref b37), .val (.ref b59), .val (.ref b86), .unset, .unset, .unset, .unset, .unset, .unset, .unset] [(.ref b118)]))
      refine Goes.step (fun _ k => XS.dup X118.here hx rfl (hb hby at_107) rfl rfl k) ?_
      show Goes _ _ _ _ _ _ _ (T118.setTop (mkF m 108 #[.val (.int p0), .val (.int p1), .val (.int p2), .val (.int p3), .val (.int p4), .val (.int (1 : Int32)), .val (.int g2), .val (.int g3), .val (.ref b1), .val (.ref b8), .val (.ref b20), .val (.ref b37), .val (.ref b59), .val (.ref b86), .unset, .unset, .unset, .unset, .unset, .unset, .unset] [(.ref b118), (.ref b118)]))
      refine Goes.step (fun _ k => XS.iload X118.here hx rfl (hb hby at_108) rfl  k) ?_
      show Goes _ _ _ _ _ _ _ (T118.setTop (mkF m 110 #[.val (.int p0), .val (.int p1), .val (.int p2), .val (.int p3), .val (.int p4), .val (.int (1 : Int32)), .val (.int g2), .val (.int g3), .val (.ref b1), .val (.ref b8), .val (.ref b20), .val (.ref b37), .val (.ref b59), .val (.ref b86), .unset, .unset, .unset, .unset, .unset, .unset, .unset] [(.int (1 : Int32)), (.ref b118), (.ref b118)]))
      obtain ⟨_, _, ⟨T138, L138, k138, n138⟩, -, X138, ⟨Lc138, hQ138, l138, y138, z138⟩, st138⟩ := X118.specialBack hx (y := (⟨"com/example/nehaba/nehaba/input/KeptValues", "<init>", "(I)V"⟩ : MethodName)) rfl hown (mvT hZ (hw _ (List.mem_of_getElem? (i := 4) rfl))) (mvT hZ (hw _ (List.mem_of_getElem? (i := 5) rfl))) (mvT hZ (hw _ (List.mem_of_getElem? (i := 6) rfl))) (by decide) (backOf (W := 1) (rm1_1 l Z a0 hw [] b118 h118 n0 Z137 F_most_b118 F_keys_b118 F_hashes_b118 F_values_b118 F_shift_b118 F_size_b118 E_b118 g_b118) hZ (hw _ (List.mem_of_getElem? (i := 6) rfl)) (hw _ (List.mem_of_getElem? (i := 3) rfl)) (by decide) (by decide)) (g := (mkF m 110 #[.val (.int p0), .val (.int p1), .val (.int p2), .val (.int p3), .val (.int p4), .val (.int (1 : Int32)), .val (.int g2), .val (.int g3), .val (.ref b1), .val (.ref b8), .val (.ref b20), .val (.ref b37), .val (.ref b59), .val (.ref b86), .unset, .unset, .unset, .unset, .unset, .unset, .unset] [(.int (1 : Int32)), (.ref b118), (.ref b118)])) rfl (by rw [hml]; rfl) (Steps.refl _) (a := b118) (argsL := [(.int (1 : Int32))]) (rest := [(.ref b118)]) (lenOf pd_0 rfl) rfl (by show 2 * 0 + _ ≤ _; exact Nat.le_of_eq rfl) (hb hby at_110) (fun _ _ => ⟨rfl, e118, (by decide : 7 + 3 ≤ _), (by decide : 12 + 6 ≤ _)⟩)
      dsimp only [Pt.U, Pt.locs, Pt.cells, Pt.slots] at X138 l138 y138 z138 st138 hQ138
      subst l138 y138 z138
      obtain ⟨N138, KK138, hR138⟩ := hQ138
      have NA138 := Fr.app N117 N138
      have f139 := f125.keep KK138
      have f140 := f126.keep KK138 (ninS ne119 nin0)
      have f141 := f127.keep KK138
      have f142 := f128.keep KK138 (ninS ne120 nin0)
      have f143 := f129.keep KK138
      have f144 := f130.keep KK138 (ninS ne121 nin0)
      have f145 := f131.keep KK138
      have f146 := f132.keep KK138 (ninS ne122 nin0)
      have f147 := f133.keep KK138
      have f148 := f134.keep KK138 (ninS ne123 nin0)
      have f149 := f135.keep KK138
      have f150 := f136.keep KK138 (ninS ne124 nin0)
      have f151 := E_b118.keep KK138
      have K158 : Keep h0 T138.heap [] := K137.trans KK138 (allS (Or.inr sz_b118) all0)
      have Z158 : n0 ≤ T138.heap.size := Nat.le_trans Z137 KK138.1
      obtain ⟨r138_0_0, r138_0_1, r138_0_2, kk138_0_0, kk138_0_1, kk138_0_2, rfl, g_r138_0_0, le_r138_0_0, g_r138_0_1, le_r138_0_1, g_r138_0_2, le_r138_0_2, nn138_0_0, nn138_0_1, nn138_0_2, v138_0_0, v138_0_1, v138_0_2, v138_0_3, v138_0_4, v138_0_5, v138_0_6, v138_0_7, v138_0_8, v138_0_9, oo138_0_0, oo138_0_1⟩ := hR138
      have ne159 : b1 ≠ r138_0_0 := Nat.ne_of_lt (Nat.lt_of_lt_of_le f125.lt le_r138_0_0)
      have ne160 : b8 ≠ r138_0_0 := Nat.ne_of_lt (Nat.lt_of_lt_of_le f127.lt le_r138_0_0)
      have ne161 : b20 ≠ r138_0_0 := Nat.ne_of_lt (Nat.lt_of_lt_of_le f129.lt le_r138_0_0)
      have ne162 : b37 ≠ r138_0_0 := Nat.ne_of_lt (Nat.lt_of_lt_of_le f131.lt le_r138_0_0)
      have ne163 : b59 ≠ r138_0_0 := Nat.ne_of_lt (Nat.lt_of_lt_of_le f133.lt le_r138_0_0)
      have ne164 : b86 ≠ r138_0_0 := Nat.ne_of_lt (Nat.lt_of_lt_of_le f135.lt le_r138_0_0)
      have ne165 : b118 ≠ r138_0_0 := Nat.ne_of_lt (Nat.lt_of_lt_of_le E_b118.lt le_r138_0_0)
      have sz_r138_0_0 : h0.size ≤ r138_0_0 := Nat.le_trans K137.1 le_r138_0_0
      have ne166 : b1 ≠ r138_0_1 := Nat.ne_of_lt (Nat.lt_of_lt_of_le f125.lt le_r138_0_1)
      have ne167 : b8 ≠ r138_0_1 := Nat.ne_of_lt (Nat.lt_of_lt_of_le f127.lt le_r138_0_1)
      have ne168 : b20 ≠ r138_0_1 := Nat.ne_of_lt (Nat.lt_of_lt_of_le f129.lt le_r138_0_1)
      have ne169 : b37 ≠ r138_0_1 := Nat.ne_of_lt (Nat.lt_of_lt_of_le f131.lt le_r138_0_1)
      have ne170 : b59 ≠ r138_0_1 := Nat.ne_of_lt (Nat.lt_of_lt_of_le f133.lt le_r138_0_1)
      have ne171 : b86 ≠ r138_0_1 := Nat.ne_of_lt (Nat.lt_of_lt_of_le f135.lt le_r138_0_1)
      have ne172 : b118 ≠ r138_0_1 := Nat.ne_of_lt (Nat.lt_of_lt_of_le E_b118.lt le_r138_0_1)
      have sz_r138_0_1 : h0.size ≤ r138_0_1 := Nat.le_trans K137.1 le_r138_0_1
      have ne173 : b1 ≠ r138_0_2 := Nat.ne_of_lt (Nat.lt_of_lt_of_le f125.lt le_r138_0_2)
      have ne174 : b8 ≠ r138_0_2 := Nat.ne_of_lt (Nat.lt_of_lt_of_le f127.lt le_r138_0_2)
      have ne175 : b20 ≠ r138_0_2 := Nat.ne_of_lt (Nat.lt_of_lt_of_le f129.lt le_r138_0_2)
      have ne176 : b37 ≠ r138_0_2 := Nat.ne_of_lt (Nat.lt_of_lt_of_le f131.lt le_r138_0_2)
      have ne177 : b59 ≠ r138_0_2 := Nat.ne_of_lt (Nat.lt_of_lt_of_le f133.lt le_r138_0_2)
      have ne178 : b86 ≠ r138_0_2 := Nat.ne_of_lt (Nat.lt_of_lt_of_le f135.lt le_r138_0_2)
      have ne179 : b118 ≠ r138_0_2 := Nat.ne_of_lt (Nat.lt_of_lt_of_le E_b118.lt le_r138_0_2)
      have sz_r138_0_2 : h0.size ≤ r138_0_2 := Nat.le_trans K137.1 le_r138_0_2
      refine Goes.back st138 ?_
      show Goes _ _ _ _ _ _ _ (T138.setTop (mkF m 113 #[.val (.int p0), .val (.int p1), .val (.int p2), .val (.int p3), .val (.int p4), .val (.int (1 : Int32)), .val (.int g2), .val (.int g3), .val (.ref b1), .val (.ref b8), .val (.ref b20), .val (.ref b37), .val (.ref b59), .val (.ref b86), .unset, .unset, .unset, .unset, .unset, .unset, .unset] [(.ref b118)]))
      have hN8 : 2 = 2 ∨ 2 = 4 ∨ 2 = 8 := (Or.inl rfl)
      have hS8 : (2 = 2 ∧ (31 : Int32) = 31) ∨ (2 = 4 ∧ (31 : Int32) = 30) ∨ (2 = 8 ∧ (31 : Int32) = 29) := (Or.inl ⟨rfl, rfl⟩)
      obtain ⟨f1, hf1⟩ : ∃ z : Fin 2, z.val = (own_f p1 (31 : Int32)).toNatClampNeg := ⟨⟨_, (own_first (N := 2) p1 hS8).2⟩, rfl⟩
      obtain ⟨f2, hf2⟩ : ∃ z : Fin 2, z.val = (own_f g2 (31 : Int32)).toNatClampNeg := ⟨⟨_, (own_first (N := 2) g2 hS8).2⟩, rfl⟩
      obtain ⟨f3, hf3⟩ : ∃ z : Fin 2, z.val = (own_f g3 (31 : Int32)).toNatClampNeg := ⟨⟨_, (own_first (N := 2) g3 hS8).2⟩, rfl⟩
      have ea : decide (p1 = g2) = true → f1 = f2 := fun z => Fin.ext (by rw [hf1, hf2, of_decide_eq_true z])
      have eb : decide (p1 = g3) = true → f1 = f3 := fun z => Fin.ext (by rw [hf1, hf3, of_decide_eq_true z])
      have ec : decide (g2 = g3) = true → f2 = f3 := fun z => Fin.ext (by rw [hf2, hf3, of_decide_eq_true z])
      have eab : decide (p1 = g2) = true → decide (p1 = g3) = decide (g2 = g3) := fun z => by rw [of_decide_eq_true z]
      have eba : decide (p1 = g3) = true → decide (p1 = g2) = decide (g2 = g3) := fun z => by rw [of_decide_eq_true z]; simp only [eq_comm]
      obtain ⟨fd1, fd2, fd3⟩ := own_one2 f1 f2 f3 (decide (p1 = g2)) (decide (p1 = g3)) (decide (g2 = g3)) ec eb
      show Goes _ _ _ _ _ _ _ (T138.setTop (mkF m 113 #[.val (.int p0), .val (.int p1), .val (.int p2), .val (.int p3), .val (.int p4), .val (.int (1 : Int32)), .val (.int g2), .val (.int g3), .val (.ref b1), .val (.ref b8), .val (.ref b20), .val (.ref b37), .val (.ref b59), .val (.ref b86), .unset, .unset, .unset, .unset, .unset, .unset, .unset] [(.ref b118)]))
      refine Goes.step (fun _ k => XS.astore X138.here hx rfl (hb hby at_113) rfl rfl (l' := #[.val (.int p0), .val (.int p1), .val (.int p2), .val (.int p3), .val (.int p4), .val (.int (1 : Int32)), .val (.int g2), .val (.int g3), .val (.ref b1), .val (.ref b8), .val (.ref b20), .val (.ref b37), .val (.ref b59), .val (.ref b86), .val (.ref b118), .unset, .unset, .unset, .unset, .unset, .unset]) rfl k) ?_
      show Goes _ _ _ _ _ _ _ (T138.setTop (mkF m 115 #[.val (.int p0), .val (.int p1), .val (.int p2), .val (.int p3), .val (.int p4), .val (.int (1 : Int32)), .val (.int g2), .val (.int g3), .val (.ref b1), .val (.ref b8), .val (.ref b20), .val (.ref b37), .val (.ref b59), .val (.ref b86), .val (.ref b118), .unset, .unset, .unset, .unset, .unset, .unset] []))
      refine Goes.step (fun _ k => XS.aload X138.here hx rfl (hb hby at_115) rfl rfl k) ?_
      show Goes _ _ _ _ _ _ _ (T138.setTop (mkF m 117 #[.val (.int p0), .val (.int p1), .val (.int p2), .val (.int p3), .val (.int p4), .val (.int (1 : Int32)), .val (.int g2), .val (.int g3), .val (.ref b1), .val (.ref b8), .val (.ref b20), .val (.ref b37), .val (.ref b59), .val (.ref b86), .val (.ref b118), .unset, .unset, .unset, .unset, .unset, .unset] [(.ref b118)]))
      refine Goes.step (fun _ k => XS.iloadN X138.here hx rfl (hb hby at_117) rfl  k) ?_
      show Goes _ _ _ _ _ _ _ (T138.setTop (mkF m 118 #[.val (.int p0), .val (.int p1), .val (.int p2), .val (.int p3), .val (.int p4), .val (.int (1 : Int32)), .val (.int g2), .val (.int g3), .val (.ref b1), .val (.ref b8), .val (.ref b20), .val (.ref b37), .val (.ref b59), .val (.ref b86), .val (.ref b118), .unset, .unset, .unset, .unset, .unset, .unset] [(.int p1), (.ref b118)]))
      refine Goes.step (fun _ k => XS.aload X138.here hx rfl (hb hby at_118) rfl rfl k) ?_
      show Goes _ _ _ _ _ _ _ (T138.setTop (mkF m 120 #[.val (.int p0), .val (.int p1), .val (.int p2), .val (.int p3), .val (.int p4), .val (.int (1 : Int32)), .val (.int g2), .val (.int g3), .val (.ref b1), .val (.ref b8), .val (.ref b20), .val (.ref b37), .val (.ref b59), .val (.ref b86), .val (.ref b118), .unset, .unset, .unset, .unset, .unset, .unset] [(.ref b1), (.int p1), (.ref b118)]))
      refine Goes.step (fun _ k => XS.aload X138.here hx rfl (hb hby at_120) rfl rfl k) ?_
      show Goes _ _ _ _ _ _ _ (T138.setTop (mkF m 122 #[.val (.int p0), .val (.int p1), .val (.int p2), .val (.int p3), .val (.int p4), .val (.int (1 : Int32)), .val (.int g2), .val (.int g3), .val (.ref b1), .val (.ref b8), .val (.ref b20), .val (.ref b37), .val (.ref b59), .val (.ref b86), .val (.ref b118), .unset, .unset, .unset, .unset, .unset, .unset] [(.ref b37), (.ref b1), (.int p1), (.ref b118)]))
      obtain ⟨cq180, kq180, q180a, q180b, q180c⟩ := isOf hZ rfl v138_0_6
      obtain ⟨_, _, ⟨T180, L180, k180, n180⟩, -, X180, ⟨Lc180, hQ180, l180, y180, z180⟩, st180⟩ := X138.virtualBack hx (y := (⟨"com/example/nehaba/nehaba/input/KeptValues", "put", "(ILjava/lang/Object;Ljava/lang/Object;)Ljava/lang/Object;"⟩ : MethodName)) (z := (⟨"com/example/nehaba/nehaba/input/KeptValues", "put", "(ILjava/lang/Object;Ljava/lang/Object;)Ljava/lang/Object;"⟩ : MethodName)) hown (mvT hZ (hw _ (List.mem_of_getElem? (i := 33) rfl))) (mvT hZ (hw _ (List.mem_of_getElem? (i := 34) rfl))) (notFace_of_selects (args := #[]) (mvT hZ (hw _ (List.mem_of_getElem? (i := 36) rfl)))) (mvT hZ (hw _ (List.mem_of_getElem? (i := 36) rfl))) (mvT hZ (hw _ (List.mem_of_getElem? (i := 35) rfl))) (by decide) (backOf (W := 0) (rm5_n l Z a0 hw [] b118 p1 b1 b37 r138_0_0 r138_0_1 r138_0_2 kk138_0_0 kk138_0_1 kk138_0_2 2 own_t0 (fun _ => (0 : Int32)) (own_K b1 b8 b20) (own_K b37 b59 b86) (31 : Int32) (1 : Int32) (0 : Int32) 0 9 f1.val T138.heap n0 Z158 v138_0_6 v138_0_1 v138_0_2 v138_0_3 v138_0_0 v138_0_5 v138_0_4 v138_0_7 v138_0_8 v138_0_9 oo138_0_0 oo138_0_1 (Ins.of_exa f139 (hw _ (List.mem_of_getElem? (i := 45) rfl))) (Ins.of_exa f145 (hw _ (List.mem_of_getElem? (i := 45) rfl))) rfl rfl g_b118 g_r138_0_0 g_r138_0_1 g_r138_0_2 (Ne.symm ne165) (Ne.symm ne172) nn138_0_0 (Ne.symm ne179) nn138_0_1 nn138_0_2 (by decide) hN8 hS8 (by rw [← hf1]; exact own_probe0 _ _)) hZ (hw _ (List.mem_of_getElem? (i := 37) rfl)) (hw _ (List.mem_of_getElem? (i := 3) rfl)) (by decide) (by decide)) q180a q180c (g := (mkF m 122 #[.val (.int p0), .val (.int p1), .val (.int p2), .val (.int p3), .val (.int p4), .val (.int (1 : Int32)), .val (.int g2), .val (.int g3), .val (.ref b1), .val (.ref b8), .val (.ref b20), .val (.ref b37), .val (.ref b59), .val (.ref b86), .val (.ref b118), .unset, .unset, .unset, .unset, .unset, .unset] [(.ref b37), (.ref b1), (.int p1), (.ref b118)])) rfl (by rw [hml]; rfl) (Steps.refl _) (argsL := [(.int p1), (.ref b1), (.ref b37)]) (rest := []) (lenOf pd_3 rfl) rfl (by show 2 * 0 + _ ≤ _; exact Nat.le_of_eq rfl) (hb hby at_122) (fun _ _ => ⟨rfl, rfl, (by decide : 10 + 0 ≤ _), (by decide : 18 + 0 ≤ _)⟩)
      dsimp only [Pt.U, Pt.locs, Pt.cells, Pt.slots] at X180 l180 y180 z180 st180 hQ180
      subst l180 y180 z180
      obtain ⟨N180, KK180, rfl, pf180_0, pf180_1, pf180_2, pf180_3, pf180_4, pf180_5, pf180_6, pf180_7, pf180_8, pf180_9⟩ := hQ180
      have NA180 := Fr.app NA138 N180
      have f181 := f139.keep KK180
      have f182 := f140.keep KK180 (ninS ne119 (ninS ne159 (ninS ne166 (ninS ne173 nin0))))
      have f183 := f141.keep KK180
      have f184 := f142.keep KK180 (ninS ne120 (ninS ne160 (ninS ne167 (ninS ne174 nin0))))
      have f185 := f143.keep KK180
      have f186 := f144.keep KK180 (ninS ne121 (ninS ne161 (ninS ne168 (ninS ne175 nin0))))
      have f187 := f145.keep KK180
      have f188 := f146.keep KK180 (ninS ne122 (ninS ne162 (ninS ne169 (ninS ne176 nin0))))
      have f189 := f147.keep KK180
      have f190 := f148.keep KK180 (ninS ne123 (ninS ne163 (ninS ne170 (ninS ne177 nin0))))
      have f191 := f149.keep KK180
      have f192 := f150.keep KK180 (ninS ne124 (ninS ne164 (ninS ne171 (ninS ne178 nin0))))
      have f193 := v138_0_6.keep KK180
      have K203 : Keep h0 T180.heap [] := K158.trans KK180 (allS (Or.inr sz_b118) (allS (Or.inr sz_r138_0_0) (allS (Or.inr sz_r138_0_1) (allS (Or.inr sz_r138_0_2) all0))))
      have Z203 : n0 ≤ T180.heap.size := Nat.le_trans Z158 KK180.1
      refine Goes.back st180 ?_
      show Goes _ _ _ _ _ _ _ (T180.setTop (mkF m 125 #[.val (.int p0), .val (.int p1), .val (.int p2), .val (.int p3), .val (.int p4), .val (.int (1 : Int32)), .val (.int g2), .val (.int g3), .val (.ref b1), .val (.ref b8), .val (.ref b20), .val (.ref b37), .val (.ref b59), .val (.ref b86), .val (.ref b118), .unset, .unset, .unset, .unset, .unset, .unset] [(.ref b37)]))
      refine Goes.step (fun _ k => XS.astore X180.here hx rfl (hb hby at_125) rfl rfl (l' := #[.val (.int p0), .val (.int p1), .val (.int p2), .val (.int p3), .val (.int p4), .val (.int (1 : Int32)), .val (.int g2), .val (.int g3), .val (.ref b1), .val (.ref b8), .val (.ref b20), .val (.ref b37), .val (.ref b59), .val (.ref b86), .val (.ref b118), .val (.ref b37), .unset, .unset, .unset, .unset, .unset]) rfl k) ?_
      show Goes _ _ _ _ _ _ _ (T180.setTop (mkF m 127 #[.val (.int p0), .val (.int p1), .val (.int p2), .val (.int p3), .val (.int p4), .val (.int (1 : Int32)), .val (.int g2), .val (.int g3), .val (.ref b1), .val (.ref b8), .val (.ref b20), .val (.ref b37), .val (.ref b59), .val (.ref b86), .val (.ref b118), .val (.ref b37), .unset, .unset, .unset, .unset, .unset] []))
      refine Goes.step (fun _ k => XS.aload X180.here hx rfl (hb hby at_127) rfl rfl k) ?_
      show Goes _ _ _ _ _ _ _ (T180.setTop (mkF m 129 #[.val (.int p0), .val (.int p1), .val (.int p2), .val (.int p3), .val (.int p4), .val (.int (1 : Int32)), .val (.int g2), .val (.int g3), .val (.ref b1), .val (.ref b8), .val (.ref b20), .val (.ref b37), .val (.ref b59), .val (.ref b86), .val (.ref b118), .val (.ref b37), .unset, .unset, .unset, .unset, .unset] [(.ref b118)]))
      refine Goes.step (fun _ k => XS.iload X180.here hx rfl (hb hby at_129) rfl  k) ?_
      show Goes _ _ _ _ _ _ _ (T180.setTop (mkF m 131 #[.val (.int p0), .val (.int p1), .val (.int p2), .val (.int p3), .val (.int p4), .val (.int (1 : Int32)), .val (.int g2), .val (.int g3), .val (.ref b1), .val (.ref b8), .val (.ref b20), .val (.ref b37), .val (.ref b59), .val (.ref b86), .val (.ref b118), .val (.ref b37), .unset, .unset, .unset, .unset, .unset] [(.int g2), (.ref b118)]))
      refine Goes.step (fun _ k => XS.aload X180.here hx rfl (hb hby at_131) rfl rfl k) ?_
      show Goes _ _ _ _ _ _ _ (T180.setTop (mkF m 133 #[.val (.int p0), .val (.int p1), .val (.int p2), .val (.int p3), .val (.int p4), .val (.int (1 : Int32)), .val (.int g2), .val (.int g3), .val (.ref b1), .val (.ref b8), .val (.ref b20), .val (.ref b37), .val (.ref b59), .val (.ref b86), .val (.ref b118), .val (.ref b37), .unset, .unset, .unset, .unset, .unset] [(.ref b8), (.int g2), (.ref b118)]))
      refine Goes.step (fun _ k => XS.aload X180.here hx rfl (hb hby at_133) rfl rfl k) ?_
      show Goes _ _ _ _ _ _ _ (T180.setTop (mkF m 135 #[.val (.int p0), .val (.int p1), .val (.int p2), .val (.int p3), .val (.int p4), .val (.int (1 : Int32)), .val (.int g2), .val (.int g3), .val (.ref b1), .val (.ref b8), .val (.ref b20), .val (.ref b37), .val (.ref b59), .val (.ref b86), .val (.ref b118), .val (.ref b37), .unset, .unset, .unset, .unset, .unset] [(.ref b59), (.ref b8), (.int g2), (.ref b118)]))
      obtain ⟨cq204, kq204, q204a, q204b, q204c⟩ := isOf hZ rfl pf180_0
      obtain ⟨_, _, ⟨T204, L204, k204, n204⟩, -, X204, ⟨Lc204, hQ204, l204, y204, z204⟩, st204⟩ := X180.virtualBack hx (y := (⟨"com/example/nehaba/nehaba/input/KeptValues", "put", "(ILjava/lang/Object;Ljava/lang/Object;)Ljava/lang/Object;"⟩ : MethodName)) (z := (⟨"com/example/nehaba/nehaba/input/KeptValues", "put", "(ILjava/lang/Object;Ljava/lang/Object;)Ljava/lang/Object;"⟩ : MethodName)) hown (mvT hZ (hw _ (List.mem_of_getElem? (i := 33) rfl))) (mvT hZ (hw _ (List.mem_of_getElem? (i := 34) rfl))) (notFace_of_selects (args := #[]) (mvT hZ (hw _ (List.mem_of_getElem? (i := 36) rfl)))) (mvT hZ (hw _ (List.mem_of_getElem? (i := 36) rfl))) (mvT hZ (hw _ (List.mem_of_getElem? (i := 35) rfl))) (by decide) (backOf (W := 0) (rm5_f2 l Z a0 hw [] b118 g2 b8 b59 r138_0_0 r138_0_1 r138_0_2 kk138_0_0 kk138_0_1 kk138_0_2 (own_put own_t0 f1.val 0) (own_hp (fun _ => (0 : Int32)) f1.val p1) (own_K b1 b8 b20) (own_K b37 b59 b86) (31 : Int32) (1 : Int32) (1 : Int32) 1 9 f2.val T180.heap n0 Z203 pf180_0 pf180_1 pf180_2 pf180_3 pf180_4 pf180_5 pf180_6 pf180_7 pf180_8 pf180_9 oo138_0_0 oo138_0_1 (Ins.of_exa f183 (hw _ (List.mem_of_getElem? (i := 45) rfl))) (Ins.of_exa f189 (hw _ (List.mem_of_getElem? (i := 45) rfl))) rfl rfl g_b118 g_r138_0_0 g_r138_0_1 g_r138_0_2 (Ne.symm ne165) (Ne.symm ne172) nn138_0_0 (Ne.symm ne179) nn138_0_1 nn138_0_2 rfl hS8 hf2.symm) hZ (hw _ (List.mem_of_getElem? (i := 37) rfl)) (hw _ (List.mem_of_getElem? (i := 3) rfl)) (by decide) (by decide)) q204a q204c (g := (mkF m 135 #[.val (.int p0), .val (.int p1), .val (.int p2), .val (.int p3), .val (.int p4), .val (.int (1 : Int32)), .val (.int g2), .val (.int g3), .val (.ref b1), .val (.ref b8), .val (.ref b20), .val (.ref b37), .val (.ref b59), .val (.ref b86), .val (.ref b118), .val (.ref b37), .unset, .unset, .unset, .unset, .unset] [(.ref b59), (.ref b8), (.int g2), (.ref b118)])) rfl (by rw [hml]; rfl) (Steps.refl _) (argsL := [(.int g2), (.ref b8), (.ref b59)]) (rest := []) (lenOf pd_3 rfl) rfl (by show 2 * 0 + _ ≤ _; exact Nat.le_of_eq rfl) (hb hby at_135) (fun _ _ => ⟨rfl, rfl, (by decide : 10 + 0 ≤ _), (by decide : 18 + 0 ≤ _)⟩)
      dsimp only [Pt.U, Pt.locs, Pt.cells, Pt.slots] at X204 l204 y204 z204 st204 hQ204
      subst l204 y204 z204
      obtain ⟨N204, KK204, rfl, pf204_0, pf204_1, pf204_2, pf204_3, pf204_4, pf204_5, pf204_6, pf204_7, pf204_8, pf204_9⟩ := hQ204
      have NA204 := Fr.app NA180 N204
      have f205 := f181.keep KK204
      have f206 := f182.keep KK204 (ninS ne119 (ninS ne159 (ninS ne166 (ninS ne173 nin0))))
      have f207 := f183.keep KK204
      have f208 := f184.keep KK204 (ninS ne120 (ninS ne160 (ninS ne167 (ninS ne174 nin0))))
      have f209 := f185.keep KK204
      have f210 := f186.keep KK204 (ninS ne121 (ninS ne161 (ninS ne168 (ninS ne175 nin0))))
      have f211 := f187.keep KK204
      have f212 := f188.keep KK204 (ninS ne122 (ninS ne162 (ninS ne169 (ninS ne176 nin0))))
      have f213 := f189.keep KK204
      have f214 := f190.keep KK204 (ninS ne123 (ninS ne163 (ninS ne170 (ninS ne177 nin0))))
      have f215 := f191.keep KK204
      have f216 := f192.keep KK204 (ninS ne124 (ninS ne164 (ninS ne171 (ninS ne178 nin0))))
      have f217 := pf180_0.keep KK204
      have K227 : Keep h0 T204.heap [] := K203.trans KK204 (allS (Or.inr sz_b118) (allS (Or.inr sz_r138_0_0) (allS (Or.inr sz_r138_0_1) (allS (Or.inr sz_r138_0_2) all0))))
      have Z227 : n0 ≤ T204.heap.size := Nat.le_trans Z203 KK204.1
      refine Goes.back st204 ?_
      show Goes _ _ _ _ _ _ _ (T204.setTop (mkF m 138 #[.val (.int p0), .val (.int p1), .val (.int p2), .val (.int p3), .val (.int p4), .val (.int (1 : Int32)), .val (.int g2), .val (.int g3), .val (.ref b1), .val (.ref b8), .val (.ref b20), .val (.ref b37), .val (.ref b59), .val (.ref b86), .val (.ref b118), .val (.ref b37), .unset, .unset, .unset, .unset, .unset] [(.ref b59)]))
      refine Goes.step (fun _ k => XS.astore X204.here hx rfl (hb hby at_138) rfl rfl (l' := #[.val (.int p0), .val (.int p1), .val (.int p2), .val (.int p3), .val (.int p4), .val (.int (1 : Int32)), .val (.int g2), .val (.int g3), .val (.ref b1), .val (.ref b8), .val (.ref b20), .val (.ref b37), .val (.ref b59), .val (.ref b86), .val (.ref b118), .val (.ref b37), .val (.ref b59), .unset, .unset, .unset, .unset]) rfl k) ?_
      show Goes _ _ _ _ _ _ _ (T204.setTop (mkF m 140 #[.val (.int p0), .val (.int p1), .val (.int p2), .val (.int p3), .val (.int p4), .val (.int (1 : Int32)), .val (.int g2), .val (.int g3), .val (.ref b1), .val (.ref b8), .val (.ref b20), .val (.ref b37), .val (.ref b59), .val (.ref b86), .val (.ref b118), .val (.ref b37), .val (.ref b59), .unset, .unset, .unset, .unset] []))
      refine Goes.step (fun _ k => XS.aload X204.here hx rfl (hb hby at_140) rfl rfl k) ?_
      show Goes _ _ _ _ _ _ _ (T204.setTop (mkF m 142 #[.val (.int p0), .val (.int p1), .val (.int p2), .val (.int p3), .val (.int p4), .val (.int (1 : Int32)), .val (.int g2), .val (.int g3), .val (.ref b1), .val (.ref b8), .val (.ref b20), .val (.ref b37), .val (.ref b59), .val (.ref b86), .val (.ref b118), .val (.ref b37), .val (.ref b59), .unset, .unset, .unset, .unset] [(.ref b118)]))
      refine Goes.step (fun _ k => XS.iload X204.here hx rfl (hb hby at_142) rfl  k) ?_
      show Goes _ _ _ _ _ _ _ (T204.setTop (mkF m 144 #[.val (.int p0), .val (.int p1), .val (.int p2), .val (.int p3), .val (.int p4), .val (.int (1 : Int32)), .val (.int g2), .val (.int g3), .val (.ref b1), .val (.ref b8), .val (.ref b20), .val (.ref b37), .val (.ref b59), .val (.ref b86), .val (.ref b118), .val (.ref b37), .val (.ref b59), .unset, .unset, .unset, .unset] [(.int g3), (.ref b118)]))
      refine Goes.step (fun _ k => XS.aload X204.here hx rfl (hb hby at_144) rfl rfl k) ?_
      show Goes _ _ _ _ _ _ _ (T204.setTop (mkF m 146 #[.val (.int p0), .val (.int p1), .val (.int p2), .val (.int p3), .val (.int p4), .val (.int (1 : Int32)), .val (.int g2), .val (.int g3), .val (.ref b1), .val (.ref b8), .val (.ref b20), .val (.ref b37), .val (.ref b59), .val (.ref b86), .val (.ref b118), .val (.ref b37), .val (.ref b59), .unset, .unset, .unset, .unset] [(.ref b20), (.int g3), (.ref b118)]))
      refine Goes.step (fun _ k => XS.aload X204.here hx rfl (hb hby at_146) rfl rfl k) ?_
      show Goes _ _ _ _ _ _ _ (T204.setTop (mkF m 148 #[.val (.int p0), .val (.int p1), .val (.int p2), .val (.int p3), .val (.int p4), .val (.int (1 : Int32)), .val (.int g2), .val (.int g3), .val (.ref b1), .val (.ref b8), .val (.ref b20), .val (.ref b37), .val (.ref b59), .val (.ref b86), .val (.ref b118), .val (.ref b37), .val (.ref b59), .unset, .unset, .unset, .unset] [(.ref b86), (.ref b20), (.int g3), (.ref b118)]))
      obtain ⟨cq228, kq228, q228a, q228b, q228c⟩ := isOf hZ rfl pf204_0
      obtain ⟨_, _, ⟨T228, L228, k228, n228⟩, -, X228, ⟨Lc228, hQ228, l228, y228, z228⟩, st228⟩ := X204.virtualBack hx (y := (⟨"com/example/nehaba/nehaba/input/KeptValues", "put", "(ILjava/lang/Object;Ljava/lang/Object;)Ljava/lang/Object;"⟩ : MethodName)) (z := (⟨"com/example/nehaba/nehaba/input/KeptValues", "put", "(ILjava/lang/Object;Ljava/lang/Object;)Ljava/lang/Object;"⟩ : MethodName)) hown (mvT hZ (hw _ (List.mem_of_getElem? (i := 33) rfl))) (mvT hZ (hw _ (List.mem_of_getElem? (i := 34) rfl))) (notFace_of_selects (args := #[]) (mvT hZ (hw _ (List.mem_of_getElem? (i := 36) rfl)))) (mvT hZ (hw _ (List.mem_of_getElem? (i := 36) rfl))) (mvT hZ (hw _ (List.mem_of_getElem? (i := 35) rfl))) (by decide) (backOf (W := 0) (rm5_f2 l Z a0 hw [] b118 g3 b20 b86 r138_0_0 r138_0_1 r138_0_2 kk138_0_0 kk138_0_1 kk138_0_2 (own_put own_t0 f2.val 1) (own_hp (own_hp (fun _ => (0 : Int32)) f1.val p1) f2.val g2) (own_K b1 b8 b20) (own_K b37 b59 b86) (31 : Int32) (1 : Int32) (1 : Int32) 2 9 f3.val T204.heap n0 Z227 pf204_0 pf204_1 pf204_2 pf204_3 pf204_4 pf204_5 pf204_6 pf204_7 pf204_8 pf204_9 oo138_0_0 oo138_0_1 (Ins.of_exa f209 (hw _ (List.mem_of_getElem? (i := 45) rfl))) (Ins.of_exa f215 (hw _ (List.mem_of_getElem? (i := 45) rfl))) rfl rfl g_b118 g_r138_0_0 g_r138_0_1 g_r138_0_2 (Ne.symm ne165) (Ne.symm ne172) nn138_0_0 (Ne.symm ne179) nn138_0_1 nn138_0_2 rfl hS8 hf3.symm) hZ (hw _ (List.mem_of_getElem? (i := 37) rfl)) (hw _ (List.mem_of_getElem? (i := 3) rfl)) (by decide) (by decide)) q228a q228c (g := (mkF m 148 #[.val (.int p0), .val (.int p1), .val (.int p2), .val (.int p3), .val (.int p4), .val (.int (1 : Int32)), .val (.int g2), .val (.int g3), .val (.ref b1), .val (.ref b8), .val (.ref b20), .val (.ref b37), .val (.ref b59), .val (.ref b86), .val (.ref b118), .val (.ref b37), .val (.ref b59), .unset, .unset, .unset, .unset] [(.ref b86), (.ref b20), (.int g3), (.ref b118)])) rfl (by rw [hml]; rfl) (Steps.refl _) (argsL := [(.int g3), (.ref b20), (.ref b86)]) (rest := []) (lenOf pd_3 rfl) rfl (by show 2 * 0 + _ ≤ _; exact Nat.le_of_eq rfl) (hb hby at_148) (fun _ _ => ⟨rfl, rfl, (by decide : 10 + 0 ≤ _), (by decide : 18 + 0 ≤ _)⟩)
      dsimp only [Pt.U, Pt.locs, Pt.cells, Pt.slots] at X228 l228 y228 z228 st228 hQ228
      subst l228 y228 z228
      obtain ⟨N228, KK228, rfl, pf228_0, pf228_1, pf228_2, pf228_3, pf228_4, pf228_5, pf228_6, pf228_7, pf228_8, pf228_9⟩ := hQ228
      have NA228 := Fr.app NA204 N228
      have f229 := f205.keep KK228
      have f230 := f206.keep KK228 (ninS ne119 (ninS ne159 (ninS ne166 (ninS ne173 nin0))))
      have f231 := f207.keep KK228
      have f232 := f208.keep KK228 (ninS ne120 (ninS ne160 (ninS ne167 (ninS ne174 nin0))))
      have f233 := f209.keep KK228
      have f234 := f210.keep KK228 (ninS ne121 (ninS ne161 (ninS ne168 (ninS ne175 nin0))))
      have f235 := f211.keep KK228
      have f236 := f212.keep KK228 (ninS ne122 (ninS ne162 (ninS ne169 (ninS ne176 nin0))))
      have f237 := f213.keep KK228
      have f238 := f214.keep KK228 (ninS ne123 (ninS ne163 (ninS ne170 (ninS ne177 nin0))))
      have f239 := f215.keep KK228
      have f240 := f216.keep KK228 (ninS ne124 (ninS ne164 (ninS ne171 (ninS ne178 nin0))))
      have f241 := pf204_0.keep KK228
      have K251 : Keep h0 T228.heap [] := K227.trans KK228 (allS (Or.inr sz_b118) (allS (Or.inr sz_r138_0_0) (allS (Or.inr sz_r138_0_1) (allS (Or.inr sz_r138_0_2) all0))))
      have Z251 : n0 ≤ T228.heap.size := Nat.le_trans Z227 KK228.1
      refine Goes.back st228 ?_
      show Goes _ _ _ _ _ _ _ (T228.setTop (mkF m 151 #[.val (.int p0), .val (.int p1), .val (.int p2), .val (.int p3), .val (.int p4), .val (.int (1 : Int32)), .val (.int g2), .val (.int g3), .val (.ref b1), .val (.ref b8), .val (.ref b20), .val (.ref b37), .val (.ref b59), .val (.ref b86), .val (.ref b118), .val (.ref b37), .val (.ref b59), .unset, .unset, .unset, .unset] [(.ref b86)]))
      refine Goes.step (fun _ k => XS.astore X228.here hx rfl (hb hby at_151) rfl rfl (l' := #[.val (.int p0), .val (.int p1), .val (.int p2), .val (.int p3), .val (.int p4), .val (.int (1 : Int32)), .val (.int g2), .val (.int g3), .val (.ref b1), .val (.ref b8), .val (.ref b20), .val (.ref b37), .val (.ref b59), .val (.ref b86), .val (.ref b118), .val (.ref b37), .val (.ref b59), .val (.ref b86), .unset, .unset, .unset]) rfl k) ?_
      show Goes _ _ _ _ _ _ _ (T228.setTop (mkF m 153 #[.val (.int p0), .val (.int p1), .val (.int p2), .val (.int p3), .val (.int p4), .val (.int (1 : Int32)), .val (.int g2), .val (.int g3), .val (.ref b1), .val (.ref b8), .val (.ref b20), .val (.ref b37), .val (.ref b59), .val (.ref b86), .val (.ref b118), .val (.ref b37), .val (.ref b59), .val (.ref b86), .unset, .unset, .unset] []))
      refine Goes.step (fun _ k => XS.iload X228.here hx rfl (hb hby at_153) rfl  k) ?_
      show Goes _ _ _ _ _ _ _ (T228.setTop (mkF m 155 #[.val (.int p0), .val (.int p1), .val (.int p2), .val (.int p3), .val (.int p4), .val (.int (1 : Int32)), .val (.int g2), .val (.int g3), .val (.ref b1), .val (.ref b8), .val (.ref b20), .val (.ref b37), .val (.ref b59), .val (.ref b86), .val (.ref b118), .val (.ref b37), .val (.ref b59), .val (.ref b86), .unset, .unset, .unset] [(.int (1 : Int32))]))
      refine Goes.step (fun _ k => XS.iconst X228.here hx rfl (hb hby at_155) k) ?_
      show Goes _ _ _ _ _ _ _ (T228.setTop (mkF m 156 #[.val (.int p0), .val (.int p1), .val (.int p2), .val (.int p3), .val (.int p4), .val (.int (1 : Int32)), .val (.int g2), .val (.int g3), .val (.ref b1), .val (.ref b8), .val (.ref b20), .val (.ref b37), .val (.ref b59), .val (.ref b86), .val (.ref b118), .val (.ref b37), .val (.ref b59), .val (.ref b86), .unset, .unset, .unset] [(.int (3 : Int32)), (.int (1 : Int32))]))
      refine Goes.step (fun _ k => XS.icmpYes X228.here hx rfl (pc0 := 156) (pc' := 163) rfl (hb hby at_156) rfl (tlt (by decide : (1 : Int32) < (3 : Int32))).1 (by decide) (by decide) k) ?_
      show Goes _ _ _ _ _ _ _ (T228.setTop (mkF m 163 #[.val (.int p0), .val (.int p1), .val (.int p2), .val (.int p3), .val (.int p4), .val (.int (1 : Int32)), .val (.int g2), .val (.int g3), .val (.ref b1), .val (.ref b8), .val (.ref b20), .val (.ref b37), .val (.ref b59), .val (.ref b86), .val (.ref b118), .val (.ref b37), .val (.ref b59), .val (.ref b86), .unset, .unset, .unset] []))
      refine Goes.step (fun _ k => XS.iconst X228.here hx rfl (hb hby at_163) k) ?_
      show Goes _ _ _ _ _ _ _ (T228.setTop (mkF m 164 #[.val (.int p0), .val (.int p1), .val (.int p2), .val (.int p3), .val (.int p4), .val (.int (1 : Int32)), .val (.int g2), .val (.int g3), .val (.ref b1), .val (.ref b8), .val (.ref b20), .val (.ref b37), .val (.ref b59), .val (.ref b86), .val (.ref b118), .val (.ref b37), .val (.ref b59), .val (.ref b86), .unset, .unset, .unset] [(.int (0 : Int32))]))
      refine Goes.step (fun _ k => XS.istore X228.here hx rfl (hb hby at_164) rfl (l' := #[.val (.int p0), .val (.int p1), .val (.int p2), .val (.int p3), .val (.int p4), .val (.int (1 : Int32)), .val (.int g2), .val (.int g3), .val (.ref b1), .val (.ref b8), .val (.ref b20), .val (.ref b37), .val (.ref b59), .val (.ref b86), .val (.ref b118), .val (.ref b37), .val (.ref b59), .val (.ref b86), .val (.int (0 : Int32)), .unset, .unset]) rfl k) ?_
      show Goes _ _ _ _ _ _ _ (T228.setTop (mkF m 166 #[.val (.int p0), .val (.int p1), .val (.int p2), .val (.int p3), .val (.int p4), .val (.int (1 : Int32)), .val (.int g2), .val (.int g3), .val (.ref b1), .val (.ref b8), .val (.ref b20), .val (.ref b37), .val (.ref b59), .val (.ref b86), .val (.ref b118), .val (.ref b37), .val (.ref b59), .val (.ref b86), .val (.int (0 : Int32)), .unset, .unset] []))
      refine Goes.step (fun _ k => XS.iload X228.here hx rfl (hb hby at_166) rfl  k) ?_
      show Goes _ _ _ _ _ _ _ (T228.setTop (mkF m 168 #[.val (.int p0), .val (.int p1), .val (.int p2), .val (.int p3), .val (.int p4), .val (.int (1 : Int32)), .val (.int g2), .val (.int g3), .val (.ref b1), .val (.ref b8), .val (.ref b20), .val (.ref b37), .val (.ref b59), .val (.ref b86), .val (.ref b118), .val (.ref b37), .val (.ref b59), .val (.ref b86), .val (.int (0 : Int32)), .unset, .unset] [(.int (0 : Int32))]))
      refine Goes.step (fun _ k => XS.ifYes X228.here hx rfl (pc0 := 168) (pc' := 176) rfl (hb hby at_168) rfl ((if0 _ _).trans (teq (by decide : (0 : Int32) = (0 : Int32))).1) (by decide) (by decide) k) ?_
      show Goes _ _ _ _ _ _ _ (T228.setTop (mkF m 176 #[.val (.int p0), .val (.int p1), .val (.int p2), .val (.int p3), .val (.int p4), .val (.int (1 : Int32)), .val (.int g2), .val (.int g3), .val (.ref b1), .val (.ref b8), .val (.ref b20), .val (.ref b37), .val (.ref b59), .val (.ref b86), .val (.ref b118), .val (.ref b37), .val (.ref b59), .val (.ref b86), .val (.int (0 : Int32)), .unset, .unset] []))
      refine Goes.step (fun _ k => XS.aconstNull X228.here hx rfl (hb hby at_176) k) ?_
      show Goes _ _ _ _ _ _ _ (T228.setTop (mkF m 177 #[.val (.int p0), .val (.int p1), .val (.int p2), .val (.int p3), .val (.int p4), .val (.int (1 : Int32)), .val (.int g2), .val (.int g3), .val (.ref b1), .val (.ref b8), .val (.ref b20), .val (.ref b37), .val (.ref b59), .val (.ref b86), .val (.ref b118), .val (.ref b37), .val (.ref b59), .val (.ref b86), .val (.int (0 : Int32)), .unset, .unset] [.null]))
      refine Goes.step (fun _ k => XS.astore X228.here hx rfl (hb hby at_177) rfl rfl (l' := #[.val (.int p0), .val (.int p1), .val (.int p2), .val (.int p3), .val (.int p4), .val (.int (1 : Int32)), .val (.int g2), .val (.int g3), .val (.ref b1), .val (.ref b8), .val (.ref b20), .val (.ref b37), .val (.ref b59), .val (.ref b86), .val (.ref b118), .val (.ref b37), .val (.ref b59), .val (.ref b86), .val (.int (0 : Int32)), .val .null, .unset]) rfl k) ?_
      show Goes _ _ _ _ _ _ _ (T228.setTop (mkF m 179 #[.val (.int p0), .val (.int p1), .val (.int p2), .val (.int p3), .val (.int p4), .val (.int (1 : Int32)), .val (.int g2), .val (.int g3), .val (.ref b1), .val (.ref b8), .val (.ref b20), .val (.ref b37), .val (.ref b59), .val (.ref b86), .val (.ref b118), .val (.ref b37), .val (.ref b59), .val (.ref b86), .val (.int (0 : Int32)), .val .null, .unset] []))
      refine Goes.step (fun _ k => XS.iload X228.here hx rfl (hb hby at_179) rfl  k) ?_
      show Goes _ _ _ _ _ _ _ (T228.setTop (mkF m 181 #[.val (.int p0), .val (.int p1), .val (.int p2), .val (.int p3), .val (.int p4), .val (.int (1 : Int32)), .val (.int g2), .val (.int g3), .val (.ref b1), .val (.ref b8), .val (.ref b20), .val (.ref b37), .val (.ref b59), .val (.ref b86), .val (.ref b118), .val (.ref b37), .val (.ref b59), .val (.ref b86), .val (.int (0 : Int32)), .val .null, .unset] [(.int (0 : Int32))]))
      refine Goes.step (fun _ k => XS.ifYes X228.here hx rfl (pc0 := 181) (pc' := 189) rfl (hb hby at_181) rfl ((if0 _ _).trans (teq (by decide : (0 : Int32) = (0 : Int32))).1) (by decide) (by decide) k) ?_
      show Goes _ _ _ _ _ _ _ (T228.setTop (mkF m 189 #[.val (.int p0), .val (.int p1), .val (.int p2), .val (.int p3), .val (.int p4), .val (.int (1 : Int32)), .val (.int g2), .val (.int g3), .val (.ref b1), .val (.ref b8), .val (.ref b20), .val (.ref b37), .val (.ref b59), .val (.ref b86), .val (.ref b118), .val (.ref b37), .val (.ref b59), .val (.ref b86), .val (.int (0 : Int32)), .val .null, .unset] []))
      refine Goes.step (fun _ k => XS.aconstNull X228.here hx rfl (hb hby at_189) k) ?_
      show Goes _ _ _ _ _ _ _ (T228.setTop (mkF m 190 #[.val (.int p0), .val (.int p1), .val (.int p2), .val (.int p3), .val (.int p4), .val (.int (1 : Int32)), .val (.int g2), .val (.int g3), .val (.ref b1), .val (.ref b8), .val (.ref b20), .val (.ref b37), .val (.ref b59), .val (.ref b86), .val (.ref b118), .val (.ref b37), .val (.ref b59), .val (.ref b86), .val (.int (0 : Int32)), .val .null, .unset] [.null]))
      refine Goes.step (fun _ k => XS.astore X228.here hx rfl (hb hby at_190) rfl rfl (l' := #[.val (.int p0), .val (.int p1), .val (.int p2), .val (.int p3), .val (.int p4), .val (.int (1 : Int32)), .val (.int g2), .val (.int g3), .val (.ref b1), .val (.ref b8), .val (.ref b20), .val (.ref b37), .val (.ref b59), .val (.ref b86), .val (.ref b118), .val (.ref b37), .val (.ref b59), .val (.ref b86), .val (.int (0 : Int32)), .val .null, .val .null]) rfl k) ?_
      show Goes _ _ _ _ _ _ _ (T228.setTop (mkF m 192 #[.val (.int p0), .val (.int p1), .val (.int p2), .val (.int p3), .val (.int p4), .val (.int (1 : Int32)), .val (.int g2), .val (.int g3), .val (.ref b1), .val (.ref b8), .val (.ref b20), .val (.ref b37), .val (.ref b59), .val (.ref b86), .val (.ref b118), .val (.ref b37), .val (.ref b59), .val (.ref b86), .val (.int (0 : Int32)), .val .null, .val .null] []))
      refine Goes.step (fun _ k => XS.aload X228.here hx rfl (hb hby at_192) rfl rfl k) ?_
      show Goes _ _ _ _ _ _ _ (T228.setTop (mkF m 194 #[.val (.int p0), .val (.int p1), .val (.int p2), .val (.int p3), .val (.int p4), .val (.int (1 : Int32)), .val (.int g2), .val (.int g3), .val (.ref b1), .val (.ref b8), .val (.ref b20), .val (.ref b37), .val (.ref b59), .val (.ref b86), .val (.ref b118), .val (.ref b37), .val (.ref b59), .val (.ref b86), .val (.int (0 : Int32)), .val .null, .val .null] [(.ref b37)]))
      refine Goes.step (fun _ k => XS.aload X228.here hx rfl (hb hby at_194) rfl rfl k) ?_
      show Goes _ _ _ _ _ _ _ (T228.setTop (mkF m 196 #[.val (.int p0), .val (.int p1), .val (.int p2), .val (.int p3), .val (.int p4), .val (.int (1 : Int32)), .val (.int g2), .val (.int g3), .val (.ref b1), .val (.ref b8), .val (.ref b20), .val (.ref b37), .val (.ref b59), .val (.ref b86), .val (.ref b118), .val (.ref b37), .val (.ref b59), .val (.ref b86), .val (.int (0 : Int32)), .val .null, .val .null] [(.ref b37), (.ref b37)]))
      refine Goes.step (fun _ k => Jvm.RoadKit.acmp X228 hx rfl rfl rfl (pc0 := 196) (pc' := 199) (same := true) rfl (hb hby at_196) rfl (decide_eq_true rfl) (by decide) (by decide) k) ?_
      show Goes _ _ _ _ _ _ _ (T228.setTop (mkF m 199 #[.val (.int p0), .val (.int p1), .val (.int p2), .val (.int p3), .val (.int p4), .val (.int (1 : Int32)), .val (.int g2), .val (.int g3), .val (.ref b1), .val (.ref b8), .val (.ref b20), .val (.ref b37), .val (.ref b59), .val (.ref b86), .val (.ref b118), .val (.ref b37), .val (.ref b59), .val (.ref b86), .val (.int (0 : Int32)), .val .null, .val .null] []))
      refine Goes.step (fun _ k => XS.aload X228.here hx rfl (hb hby at_199) rfl rfl k) ?_
      show Goes _ _ _ _ _ _ _ (T228.setTop (mkF m 201 #[.val (.int p0), .val (.int p1), .val (.int p2), .val (.int p3), .val (.int p4), .val (.int (1 : Int32)), .val (.int g2), .val (.int g3), .val (.ref b1), .val (.ref b8), .val (.ref b20), .val (.ref b37), .val (.ref b59), .val (.ref b86), .val (.ref b118), .val (.ref b37), .val (.ref b59), .val (.ref b86), .val (.int (0 : Int32)), .val .null, .val .null] [(.ref b59)]))
      refine Goes.step (fun _ k => XS.aload X228.here hx rfl (hb hby at_201) rfl rfl k) ?_
      show Goes _ _ _ _ _ _ _ (T228.setTop (mkF m 203 #[.val (.int p0), .val (.int p1), .val (.int p2), .val (.int p3), .val (.int p4), .val (.int (1 : Int32)), .val (.int g2), .val (.int g3), .val (.ref b1), .val (.ref b8), .val (.ref b20), .val (.ref b37), .val (.ref b59), .val (.ref b86), .val (.ref b118), .val (.ref b37), .val (.ref b59), .val (.ref b86), .val (.int (0 : Int32)), .val .null, .val .null] [(.ref b59), (.ref b59)]))
      refine Goes.step (fun _ k => Jvm.RoadKit.acmp X228 hx rfl rfl rfl (pc0 := 203) (pc' := 206) (same := true) rfl (hb hby at_203) rfl (decide_eq_true rfl) (by decide) (by decide) k) ?_
      show Goes _ _ _ _ _ _ _ (T228.setTop (mkF m 206 #[.val (.int p0), .val (.int p1), .val (.int p2), .val (.int p3), .val (.int p4), .val (.int (1 : Int32)), .val (.int g2), .val (.int g3), .val (.ref b1), .val (.ref b8), .val (.ref b20), .val (.ref b37), .val (.ref b59), .val (.ref b86), .val (.ref b118), .val (.ref b37), .val (.ref b59), .val (.ref b86), .val (.int (0 : Int32)), .val .null, .val .null] []))
      refine Goes.step (fun _ k => XS.aload X228.here hx rfl (hb hby at_206) rfl rfl k) ?_
      show Goes _ _ _ _ _ _ _ (T228.setTop (mkF m 208 #[.val (.int p0), .val (.int p1), .val (.int p2), .val (.int p3), .val (.int p4), .val (.int (1 : Int32)), .val (.int g2), .val (.int g3), .val (.ref b1), .val (.ref b8), .val (.ref b20), .val (.ref b37), .val (.ref b59), .val (.ref b86), .val (.ref b118), .val (.ref b37), .val (.ref b59), .val (.ref b86), .val (.int (0 : Int32)), .val .null, .val .null] [(.ref b86)]))
      refine Goes.step (fun _ k => XS.aload X228.here hx rfl (hb hby at_208) rfl rfl k) ?_
      show Goes _ _ _ _ _ _ _ (T228.setTop (mkF m 210 #[.val (.int p0), .val (.int p1), .val (.int p2), .val (.int p3), .val (.int p4), .val (.int (1 : Int32)), .val (.int g2), .val (.int g3), .val (.ref b1), .val (.ref b8), .val (.ref b20), .val (.ref b37), .val (.ref b59), .val (.ref b86), .val (.ref b118), .val (.ref b37), .val (.ref b59), .val (.ref b86), .val (.int (0 : Int32)), .val .null, .val .null] [(.ref b86), (.ref b86)]))
      refine Goes.step (fun _ k => Jvm.RoadKit.acmp X228 hx rfl rfl rfl (pc0 := 210) (pc' := 213) (same := true) rfl (hb hby at_210) rfl (decide_eq_true rfl) (by decide) (by decide) k) ?_
      show Goes _ _ _ _ _ _ _ (T228.setTop (mkF m 213 #[.val (.int p0), .val (.int p1), .val (.int p2), .val (.int p3), .val (.int p4), .val (.int (1 : Int32)), .val (.int g2), .val (.int g3), .val (.ref b1), .val (.ref b8), .val (.ref b20), .val (.ref b37), .val (.ref b59), .val (.ref b86), .val (.ref b118), .val (.ref b37), .val (.ref b59), .val (.ref b86), .val (.int (0 : Int32)), .val .null, .val .null] []))
      refine Goes.step (fun _ k => XS.aload X228.here hx rfl (hb hby at_213) rfl rfl k) ?_
      show Goes _ _ _ _ _ _ _ (T228.setTop (mkF m 215 #[.val (.int p0), .val (.int p1), .val (.int p2), .val (.int p3), .val (.int p4), .val (.int (1 : Int32)), .val (.int g2), .val (.int g3), .val (.ref b1), .val (.ref b8), .val (.ref b20), .val (.ref b37), .val (.ref b59), .val (.ref b86), .val (.ref b118), .val (.ref b37), .val (.ref b59), .val (.ref b86), .val (.int (0 : Int32)), .val .null, .val .null] [(.ref b118)]))
      refine Goes.step (fun _ k => XS.iloadN X228.here hx rfl (hb hby at_215) rfl  k) ?_
      show Goes _ _ _ _ _ _ _ (T228.setTop (mkF m 216 #[.val (.int p0), .val (.int p1), .val (.int p2), .val (.int p3), .val (.int p4), .val (.int (1 : Int32)), .val (.int g2), .val (.int g3), .val (.ref b1), .val (.ref b8), .val (.ref b20), .val (.ref b37), .val (.ref b59), .val (.ref b86), .val (.ref b118), .val (.ref b37), .val (.ref b59), .val (.ref b86), .val (.int (0 : Int32)), .val .null, .val .null] [(.int p1), (.ref b118)]))
      refine Goes.step (fun _ k => XS.aload X228.here hx rfl (hb hby at_216) rfl rfl k) ?_
      show Goes _ _ _ _ _ _ _ (T228.setTop (mkF m 218 #[.val (.int p0), .val (.int p1), .val (.int p2), .val (.int p3), .val (.int p4), .val (.int (1 : Int32)), .val (.int g2), .val (.int g3), .val (.ref b1), .val (.ref b8), .val (.ref b20), .val (.ref b37), .val (.ref b59), .val (.ref b86), .val (.ref b118), .val (.ref b37), .val (.ref b59), .val (.ref b86), .val (.int (0 : Int32)), .val .null, .val .null] [(.ref b1), (.int p1), (.ref b118)]))
      have hH1 : ∀ p j, (own_put own_t0 f3.val 2) p = some j → (own_hp (own_hp (own_hp (fun _ => (0 : Int32)) f1.val p1) f2.val g2) f3.val g3) p = (own_H p1 g2 g3) j := (own_hH own_hH0 (by rfl))
      have lt1 : ∀ p j, (own_put own_t0 f3.val 2) p = some j → j < 3 := (own_lt3 own_lt30 (by decide))
      have inj1 : ∀ j, (∃ p, (own_put own_t0 f3.val 2) p = some j) → (own_K b1 b8 b20) j = b1 → j = 0 := fun j hj hk => by by_cases u0 : j = 0 <;> by_cases u1 : j = 1 <;> simp [own_K, u0, u1] at hk <;> first | exact u0 | exact u1 | exact absurd hk (Ne.symm ne9) | exact absurd hk (Ne.symm ne21) | omega
      have fr1 : findP (own_put own_t0 f3.val 2) (fun j => decide ((own_H p1 g2 g3) j = p1)) 2 0 (own_f p1 (31 : Int32)).toNatClampNeg = some none := by rw [own_e0, ← hf1]; exact fd1
      obtain ⟨_, _, ⟨T252, L252, k252, n252⟩, -, X252, ⟨Lc252, hQ252, l252, y252, z252⟩, st252⟩ := Jvm.LawKit.callS X228 hx (y := (⟨"com/example/nehaba/nehaba/input/KeptValuesPutPinLaw", "find", "(Lcom/example/nehaba/nehaba/input/KeptValues;ILjava/lang/Object;)Ljava/lang/Object;"⟩ : MethodName)) hown (mvT hZ (hw _ (List.mem_of_getElem? (i := 50) rfl))) (mvT hZ (hw _ (List.mem_of_getElem? (i := 51) rfl))) (mvT hZ (hw _ (List.mem_of_getElem? (i := 52) rfl))) (mvT hZ (hw _ (List.mem_of_getElem? (i := 53) rfl))) (by decide) (backOf (W := 0) (rm8 l Z a0 hw [] b118 p1 b1 r138_0_0 r138_0_1 r138_0_2 kk138_0_0 kk138_0_1 kk138_0_2 2 (own_put own_t0 f3.val 2) (own_hp (own_hp (own_hp (fun _ => (0 : Int32)) f1.val p1) f2.val g2) f3.val g3) (own_K b1 b8 b20) (own_K b37 b59 b86) (31 : Int32) (1 : Int32) (1 : Int32) (own_H p1 g2 g3) 0 none T228.heap n0 Z251 pf228_0 pf228_1 pf228_2 pf228_3 pf228_4 pf228_5 pf228_6 pf228_7 pf228_8 pf228_9 hN8 hH1 hS8 rfl inj1 fr1) hZ (hw _ (List.mem_of_getElem? (i := 53) rfl)) (hw _ (List.mem_of_getElem? (i := 52) rfl)) (by decide) (by decide)) (g := (mkF m 218 #[.val (.int p0), .val (.int p1), .val (.int p2), .val (.int p3), .val (.int p4), .val (.int (1 : Int32)), .val (.int g2), .val (.int g3), .val (.ref b1), .val (.ref b8), .val (.ref b20), .val (.ref b37), .val (.ref b59), .val (.ref b86), .val (.ref b118), .val (.ref b37), .val (.ref b59), .val (.ref b86), .val (.int (0 : Int32)), .val .null, .val .null] [(.ref b1), (.int p1), (.ref b118)])) rfl (by rw [hml]; rfl) (argsL := [(.ref b118), (.int p1), (.ref b1)]) (rest := []) (lenOf pd_5 rfl) rfl (by show 2 * 0 + _ ≤ _; exact Nat.le_of_eq rfl) (hb hby at_218) (fun _ _ => ⟨rfl, rfl, (by decide : 10 + 0 ≤ _), (by decide : 18 + 0 ≤ _)⟩)
      dsimp only [Pt.U, Pt.locs, Pt.cells, Pt.slots] at X252 l252 y252 z252 st252 hQ252
      subst l252 y252 z252
      obtain ⟨N252, eh252, rfl⟩ := hQ252
      have NA252 := Fr.app NA228 N252
      refine Goes.step st252 ?_
      show Goes _ _ _ _ _ _ _ (T252.setTop (mkF m 221 #[.val (.int p0), .val (.int p1), .val (.int p2), .val (.int p3), .val (.int p4), .val (.int (1 : Int32)), .val (.int g2), .val (.int g3), .val (.ref b1), .val (.ref b8), .val (.ref b20), .val (.ref b37), .val (.ref b59), .val (.ref b86), .val (.ref b118), .val (.ref b37), .val (.ref b59), .val (.ref b86), .val (.int (0 : Int32)), .val .null, .val .null] [.null]))
      refine Goes.step (fun _ k => XS.aload X252.here hx rfl (hb hby at_221) rfl rfl k) ?_
      show Goes _ _ _ _ _ _ _ (T252.setTop (mkF m 223 #[.val (.int p0), .val (.int p1), .val (.int p2), .val (.int p3), .val (.int p4), .val (.int (1 : Int32)), .val (.int g2), .val (.int g3), .val (.ref b1), .val (.ref b8), .val (.ref b20), .val (.ref b37), .val (.ref b59), .val (.ref b86), .val (.ref b118), .val (.ref b37), .val (.ref b59), .val (.ref b86), .val (.int (0 : Int32)), .val .null, .val .null] [.null, .null]))
      refine Goes.step (fun _ k => Jvm.RoadKit.acmp X252 hx rfl rfl rfl (pc0 := 223) (pc' := 226) (same := true) rfl (hb hby at_223) rfl (decide_eq_true rfl) (by decide) (by decide) k) ?_
      show Goes _ _ _ _ _ _ _ (T252.setTop (mkF m 226 #[.val (.int p0), .val (.int p1), .val (.int p2), .val (.int p3), .val (.int p4), .val (.int (1 : Int32)), .val (.int g2), .val (.int g3), .val (.ref b1), .val (.ref b8), .val (.ref b20), .val (.ref b37), .val (.ref b59), .val (.ref b86), .val (.ref b118), .val (.ref b37), .val (.ref b59), .val (.ref b86), .val (.int (0 : Int32)), .val .null, .val .null] []))
      refine Goes.step (fun _ k => XS.aload X252.here hx rfl (hb hby at_226) rfl rfl k) ?_
      show Goes _ _ _ _ _ _ _ (T252.setTop (mkF m 228 #[.val (.int p0), .val (.int p1), .val (.int p2), .val (.int p3), .val (.int p4), .val (.int (1 : Int32)), .val (.int g2), .val (.int g3), .val (.ref b1), .val (.ref b8), .val (.ref b20), .val (.ref b37), .val (.ref b59), .val (.ref b86), .val (.ref b118), .val (.ref b37), .val (.ref b59), .val (.ref b86), .val (.int (0 : Int32)), .val .null, .val .null] [(.ref b118)]))
      refine Goes.step (fun _ k => XS.iload X252.here hx rfl (hb hby at_228) rfl  k) ?_
      show Goes _ _ _ _ _ _ _ (T252.setTop (mkF m 230 #[.val (.int p0), .val (.int p1), .val (.int p2), .val (.int p3), .val (.int p4), .val (.int (1 : Int32)), .val (.int g2), .val (.int g3), .val (.ref b1), .val (.ref b8), .val (.ref b20), .val (.ref b37), .val (.ref b59), .val (.ref b86), .val (.ref b118), .val (.ref b37), .val (.ref b59), .val (.ref b86), .val (.int (0 : Int32)), .val .null, .val .null] [(.int g2), (.ref b118)]))
      refine Goes.step (fun _ k => XS.aload X252.here hx rfl (hb hby at_230) rfl rfl k) ?_
      show Goes _ _ _ _ _ _ _ (T252.setTop (mkF m 232 #[.val (.int p0), .val (.int p1), .val (.int p2), .val (.int p3), .val (.int p4), .val (.int (1 : Int32)), .val (.int g2), .val (.int g3), .val (.ref b1), .val (.ref b8), .val (.ref b20), .val (.ref b37), .val (.ref b59), .val (.ref b86), .val (.ref b118), .val (.ref b37), .val (.ref b59), .val (.ref b86), .val (.int (0 : Int32)), .val .null, .val .null] [(.ref b8), (.int g2), (.ref b118)]))
      have hH2 : ∀ p j, (own_put own_t0 f3.val 2) p = some j → (own_hp (own_hp (own_hp (fun _ => (0 : Int32)) f1.val p1) f2.val g2) f3.val g3) p = (own_H p1 g2 g3) j := (own_hH own_hH0 (by rfl))
      have lt2 : ∀ p j, (own_put own_t0 f3.val 2) p = some j → j < 3 := (own_lt3 own_lt30 (by decide))
      have inj2 : ∀ j, (∃ p, (own_put own_t0 f3.val 2) p = some j) → (own_K b1 b8 b20) j = b8 → j = 1 := fun j hj hk => by by_cases u0 : j = 0 <;> by_cases u1 : j = 1 <;> simp [own_K, u0, u1] at hk <;> first | exact u0 | exact u1 | exact absurd hk ne9 | exact absurd hk (Ne.symm ne22) | omega
      have fr2 : findP (own_put own_t0 f3.val 2) (fun j => decide ((own_H p1 g2 g3) j = g2)) 2 1 (own_f g2 (31 : Int32)).toNatClampNeg = some none := by rw [own_e1, ← hf2]; exact fd2
      obtain ⟨_, _, ⟨T253, L253, k253, n253⟩, -, X253, ⟨Lc253, hQ253, l253, y253, z253⟩, st253⟩ := Jvm.LawKit.callS X252 hx (y := (⟨"com/example/nehaba/nehaba/input/KeptValuesPutPinLaw", "find", "(Lcom/example/nehaba/nehaba/input/KeptValues;ILjava/lang/Object;)Ljava/lang/Object;"⟩ : MethodName)) hown (mvT hZ (hw _ (List.mem_of_getElem? (i := 50) rfl))) (mvT hZ (hw _ (List.mem_of_getElem? (i := 51) rfl))) (mvT hZ (hw _ (List.mem_of_getElem? (i := 52) rfl))) (mvT hZ (hw _ (List.mem_of_getElem? (i := 53) rfl))) (by decide) (backOf (W := 0) (rm8 l Z a0 hw [] b118 g2 b8 r138_0_0 r138_0_1 r138_0_2 kk138_0_0 kk138_0_1 kk138_0_2 2 (own_put own_t0 f3.val 2) (own_hp (own_hp (own_hp (fun _ => (0 : Int32)) f1.val p1) f2.val g2) f3.val g3) (own_K b1 b8 b20) (own_K b37 b59 b86) (31 : Int32) (1 : Int32) (1 : Int32) (own_H p1 g2 g3) 1 none T228.heap n0 Z251 pf228_0 pf228_1 pf228_2 pf228_3 pf228_4 pf228_5 pf228_6 pf228_7 pf228_8 pf228_9 hN8 hH2 hS8 rfl inj2 fr2) hZ (hw _ (List.mem_of_getElem? (i := 53) rfl)) (hw _ (List.mem_of_getElem? (i := 52) rfl)) (by decide) (by decide)) (g := (mkF m 232 #[.val (.int p0), .val (.int p1), .val (.int p2), .val (.int p3), .val (.int p4), .val (.int (1 : Int32)), .val (.int g2), .val (.int g3), .val (.ref b1), .val (.ref b8), .val (.ref b20), .val (.ref b37), .val (.ref b59), .val (.ref b86), .val (.ref b118), .val (.ref b37), .val (.ref b59), .val (.ref b86), .val (.int (0 : Int32)), .val .null, .val .null] [(.ref b8), (.int g2), (.ref b118)])) rfl (by rw [hml]; rfl) (argsL := [(.ref b118), (.int g2), (.ref b8)]) (rest := []) (lenOf pd_5 rfl) rfl (by show 2 * 0 + _ ≤ _; exact Nat.le_of_eq rfl) (hb hby at_232) (fun _ _ => ⟨rfl, eh252, (by decide : 10 + 0 ≤ _), (by decide : 18 + 0 ≤ _)⟩)
      dsimp only [Pt.U, Pt.locs, Pt.cells, Pt.slots] at X253 l253 y253 z253 st253 hQ253
      subst l253 y253 z253
      obtain ⟨N253, eh253, rfl⟩ := hQ253
      have NA253 := Fr.app NA252 N253
      refine Goes.step st253 ?_
      show Goes _ _ _ _ _ _ _ (T253.setTop (mkF m 235 #[.val (.int p0), .val (.int p1), .val (.int p2), .val (.int p3), .val (.int p4), .val (.int (1 : Int32)), .val (.int g2), .val (.int g3), .val (.ref b1), .val (.ref b8), .val (.ref b20), .val (.ref b37), .val (.ref b59), .val (.ref b86), .val (.ref b118), .val (.ref b37), .val (.ref b59), .val (.ref b86), .val (.int (0 : Int32)), .val .null, .val .null] [.null]))
      refine Goes.step (fun _ k => XS.aload X253.here hx rfl (hb hby at_235) rfl rfl k) ?_
      show Goes _ _ _ _ _ _ _ (T253.setTop (mkF m 237 #[.val (.int p0), .val (.int p1), .val (.int p2), .val (.int p3), .val (.int p4), .val (.int (1 : Int32)), .val (.int g2), .val (.int g3), .val (.ref b1), .val (.ref b8), .val (.ref b20), .val (.ref b37), .val (.ref b59), .val (.ref b86), .val (.ref b118), .val (.ref b37), .val (.ref b59), .val (.ref b86), .val (.int (0 : Int32)), .val .null, .val .null] [.null, .null]))
      refine Goes.step (fun _ k => Jvm.RoadKit.acmp X253 hx rfl rfl rfl (pc0 := 237) (pc' := 240) (same := true) rfl (hb hby at_237) rfl (decide_eq_true rfl) (by decide) (by decide) k) ?_
      show Goes _ _ _ _ _ _ _ (T253.setTop (mkF m 240 #[.val (.int p0), .val (.int p1), .val (.int p2), .val (.int p3), .val (.int p4), .val (.int (1 : Int32)), .val (.int g2), .val (.int g3), .val (.ref b1), .val (.ref b8), .val (.ref b20), .val (.ref b37), .val (.ref b59), .val (.ref b86), .val (.ref b118), .val (.ref b37), .val (.ref b59), .val (.ref b86), .val (.int (0 : Int32)), .val .null, .val .null] []))
      refine Goes.step (fun _ k => XS.aload X253.here hx rfl (hb hby at_240) rfl rfl k) ?_
      show Goes _ _ _ _ _ _ _ (T253.setTop (mkF m 242 #[.val (.int p0), .val (.int p1), .val (.int p2), .val (.int p3), .val (.int p4), .val (.int (1 : Int32)), .val (.int g2), .val (.int g3), .val (.ref b1), .val (.ref b8), .val (.ref b20), .val (.ref b37), .val (.ref b59), .val (.ref b86), .val (.ref b118), .val (.ref b37), .val (.ref b59), .val (.ref b86), .val (.int (0 : Int32)), .val .null, .val .null] [(.ref b118)]))
      refine Goes.step (fun _ k => XS.iload X253.here hx rfl (hb hby at_242) rfl  k) ?_
      show Goes _ _ _ _ _ _ _ (T253.setTop (mkF m 244 #[.val (.int p0), .val (.int p1), .val (.int p2), .val (.int p3), .val (.int p4), .val (.int (1 : Int32)), .val (.int g2), .val (.int g3), .val (.ref b1), .val (.ref b8), .val (.ref b20), .val (.ref b37), .val (.ref b59), .val (.ref b86), .val (.ref b118), .val (.ref b37), .val (.ref b59), .val (.ref b86), .val (.int (0 : Int32)), .val .null, .val .null] [(.int g3), (.ref b118)]))
      refine Goes.step (fun _ k => XS.aload X253.here hx rfl (hb hby at_244) rfl rfl k) ?_
      show Goes _ _ _ _ _ _ _ (T253.setTop (mkF m 246 #[.val (.int p0), .val (.int p1), .val (.int p2), .val (.int p3), .val (.int p4), .val (.int (1 : Int32)), .val (.int g2), .val (.int g3), .val (.ref b1), .val (.ref b8), .val (.ref b20), .val (.ref b37), .val (.ref b59), .val (.ref b86), .val (.ref b118), .val (.ref b37), .val (.ref b59), .val (.ref b86), .val (.int (0 : Int32)), .val .null, .val .null] [(.ref b20), (.int g3), (.ref b118)]))
      have hH3 : ∀ p j, (own_put own_t0 f3.val 2) p = some j → (own_hp (own_hp (own_hp (fun _ => (0 : Int32)) f1.val p1) f2.val g2) f3.val g3) p = (own_H p1 g2 g3) j := (own_hH own_hH0 (by rfl))
      have lt3 : ∀ p j, (own_put own_t0 f3.val 2) p = some j → j < 3 := (own_lt3 own_lt30 (by decide))
      have inj3 : ∀ j, (∃ p, (own_put own_t0 f3.val 2) p = some j) → (own_K b1 b8 b20) j = b20 → j = 2 := fun j ⟨p, hj⟩ hk => by have h3 := lt3 p j hj; rcases (show j = 0 ∨ j = 1 ∨ j = 2 by omega) with rfl | rfl | rfl <;> simp [own_K] at hk <;> first | rfl | exact absurd hk ne21 | exact absurd hk ne22
      have fr3 : findP (own_put own_t0 f3.val 2) (fun j => decide ((own_H p1 g2 g3) j = g3)) 2 2 (own_f g3 (31 : Int32)).toNatClampNeg = some (some 2) := by rw [own_findCongr lt3 (own_e2 _ _ _), ← hf3]; exact fd3
      obtain ⟨_, _, ⟨T254, L254, k254, n254⟩, -, X254, ⟨Lc254, hQ254, l254, y254, z254⟩, st254⟩ := Jvm.LawKit.callS X253 hx (y := (⟨"com/example/nehaba/nehaba/input/KeptValuesPutPinLaw", "find", "(Lcom/example/nehaba/nehaba/input/KeptValues;ILjava/lang/Object;)Ljava/lang/Object;"⟩ : MethodName)) hown (mvT hZ (hw _ (List.mem_of_getElem? (i := 50) rfl))) (mvT hZ (hw _ (List.mem_of_getElem? (i := 51) rfl))) (mvT hZ (hw _ (List.mem_of_getElem? (i := 52) rfl))) (mvT hZ (hw _ (List.mem_of_getElem? (i := 53) rfl))) (by decide) (backOf (W := 0) (rm8 l Z a0 hw [] b118 g3 b20 r138_0_0 r138_0_1 r138_0_2 kk138_0_0 kk138_0_1 kk138_0_2 2 (own_put own_t0 f3.val 2) (own_hp (own_hp (own_hp (fun _ => (0 : Int32)) f1.val p1) f2.val g2) f3.val g3) (own_K b1 b8 b20) (own_K b37 b59 b86) (31 : Int32) (1 : Int32) (1 : Int32) (own_H p1 g2 g3) 2 (some 2) T228.heap n0 Z251 pf228_0 pf228_1 pf228_2 pf228_3 pf228_4 pf228_5 pf228_6 pf228_7 pf228_8 pf228_9 hN8 hH3 hS8 rfl inj3 fr3) hZ (hw _ (List.mem_of_getElem? (i := 53) rfl)) (hw _ (List.mem_of_getElem? (i := 52) rfl)) (by decide) (by decide)) (g := (mkF m 246 #[.val (.int p0), .val (.int p1), .val (.int p2), .val (.int p3), .val (.int p4), .val (.int (1 : Int32)), .val (.int g2), .val (.int g3), .val (.ref b1), .val (.ref b8), .val (.ref b20), .val (.ref b37), .val (.ref b59), .val (.ref b86), .val (.ref b118), .val (.ref b37), .val (.ref b59), .val (.ref b86), .val (.int (0 : Int32)), .val .null, .val .null] [(.ref b20), (.int g3), (.ref b118)])) rfl (by rw [hml]; rfl) (argsL := [(.ref b118), (.int g3), (.ref b20)]) (rest := []) (lenOf pd_5 rfl) rfl (by show 2 * 0 + _ ≤ _; exact Nat.le_of_eq rfl) (hb hby at_246) (fun _ _ => ⟨rfl, eh253, (by decide : 10 + 0 ≤ _), (by decide : 18 + 0 ≤ _)⟩)
      dsimp only [Pt.U, Pt.locs, Pt.cells, Pt.slots] at X254 l254 y254 z254 st254 hQ254
      subst l254 y254 z254
      obtain ⟨N254, eh254, rfl⟩ := hQ254
      have NA254 := Fr.app NA253 N254
      refine Goes.step st254 ?_
      show Goes _ _ _ _ _ _ _ (T254.setTop (mkF m 249 #[.val (.int p0), .val (.int p1), .val (.int p2), .val (.int p3), .val (.int p4), .val (.int (1 : Int32)), .val (.int g2), .val (.int g3), .val (.ref b1), .val (.ref b8), .val (.ref b20), .val (.ref b37), .val (.ref b59), .val (.ref b86), .val (.ref b118), .val (.ref b37), .val (.ref b59), .val (.ref b86), .val (.int (0 : Int32)), .val .null, .val .null] [(.ref b86)]))
      refine Goes.step (fun _ k => XS.aload X254.here hx rfl (hb hby at_249) rfl rfl k) ?_
      show Goes _ _ _ _ _ _ _ (T254.setTop (mkF m 251 #[.val (.int p0), .val (.int p1), .val (.int p2), .val (.int p3), .val (.int p4), .val (.int (1 : Int32)), .val (.int g2), .val (.int g3), .val (.ref b1), .val (.ref b8), .val (.ref b20), .val (.ref b37), .val (.ref b59), .val (.ref b86), .val (.ref b118), .val (.ref b37), .val (.ref b59), .val (.ref b86), .val (.int (0 : Int32)), .val .null, .val .null] [(.ref b86), (.ref b86)]))
      refine Goes.step (fun _ k => Jvm.RoadKit.acmp X254 hx rfl rfl rfl (pc0 := 251) (pc' := 254) (same := true) rfl (hb hby at_251) rfl (decide_eq_true rfl) (by decide) (by decide) k) ?_
      show Goes _ _ _ _ _ _ _ (T254.setTop (mkF m 254 #[.val (.int p0), .val (.int p1), .val (.int p2), .val (.int p3), .val (.int p4), .val (.int (1 : Int32)), .val (.int g2), .val (.int g3), .val (.ref b1), .val (.ref b8), .val (.ref b20), .val (.ref b37), .val (.ref b59), .val (.ref b86), .val (.ref b118), .val (.ref b37), .val (.ref b59), .val (.ref b86), .val (.int (0 : Int32)), .val .null, .val .null] []))
      refine Goes.step (fun _ k => XS.iconst X254.here hx rfl (hb hby at_254) k) ?_
      show Goes _ _ _ _ _ _ _ (T254.setTop (mkF m 255 #[.val (.int p0), .val (.int p1), .val (.int p2), .val (.int p3), .val (.int p4), .val (.int (1 : Int32)), .val (.int g2), .val (.int g3), .val (.ref b1), .val (.ref b8), .val (.ref b20), .val (.ref b37), .val (.ref b59), .val (.ref b86), .val (.ref b118), .val (.ref b37), .val (.ref b59), .val (.ref b86), .val (.int (0 : Int32)), .val .null, .val .null] [(.int (1 : Int32))]))
      refine Goes.step (fun _ k => XS.goto X254.here hx rfl (pc0 := 255) (pc' := 259) rfl (hb hby at_255) (by decide) (by decide) k) ?_
      show Goes _ _ _ _ _ _ _ (T254.setTop (mkF m 259 #[.val (.int p0), .val (.int p1), .val (.int p2), .val (.int p3), .val (.int p4), .val (.int (1 : Int32)), .val (.int g2), .val (.int g3), .val (.ref b1), .val (.ref b8), .val (.ref b20), .val (.ref b37), .val (.ref b59), .val (.ref b86), .val (.ref b118), .val (.ref b37), .val (.ref b59), .val (.ref b86), .val (.int (0 : Int32)), .val .null, .val .null] [(.int (1 : Int32))]))
      exact Goes.ret X254 hx (BodyLoose.notSynchronized Bd) Bd.returns rfl (Or.inl ⟨rfl, by simp, _, rfl⟩) (hb hby at_259) (by show Q0 Z p0 p1 p2 p3 p4 h0 n0 (some (.int (1 : Int32))) T254.heap _; rw [eh254]; exact ⟨rfl, NA254⟩) (by decide) (by decide)
    · show Goes _ _ _ _ _ _ _ (s₁.setTop (mkF m 47 #[.val (.int p0), .val (.int p1), .val (.int p2), .val (.int p3), .val (.int p4), .val (.int (2 : Int32)), .val (.int g2), .val (.int g3), .unset, .unset, .unset, .unset, .unset, .unset, .unset, .unset, .unset, .unset, .unset, .unset, .unset] []))
      refine Goes.step (fun _ k => XS.iconst X0.here hx rfl (hb hby at_47) k) ?_
      show Goes _ _ _ _ _ _ _ (s₁.setTop (mkF m 48 #[.val (.int p0), .val (.int p1), .val (.int p2), .val (.int p3), .val (.int p4), .val (.int (2 : Int32)), .val (.int g2), .val (.int g3), .unset, .unset, .unset, .unset, .unset, .unset, .unset, .unset, .unset, .unset, .unset, .unset, .unset] [(.int (1 : Int32))]))
      obtain ⟨T255, h255, k255, X255, e255, E255, A255, XA255, st255⟩ := newPE X0 hx hZ (hw _ (List.mem_of_getElem? (i := 0) rfl)) e0 (g := (mkF m 48 #[.val (.int p0), .val (.int p1), .val (.int p2), .val (.int p3), .val (.int p4), .val (.int (2 : Int32)), .val (.int g2), .val (.int g3), .unset, .unset, .unset, .unset, .unset, .unset, .unset, .unset, .unset, .unset, .unset, .unset, .unset] [(.int (1 : Int32))])) rfl (hb hby at_48) rfl (by decide) (cap := 1) (by decide) (by decide) (by decide) (by decide) (ad := "[I") (by decide)
      obtain ⟨b255, g255⟩ : ∃ z, z = h0.size := ⟨_, rfl⟩
      rw [← g255] at A255 st255 XA255
      refine Goes.step st255 ?_
      have g_b255 : n0 ≤ b255 := Nat.le_trans Z0 (Nat.le_of_eq g255.symm)
      have sz_b255 : h0.size ≤ b255 := Nat.le_trans K0.1 (Nat.le_of_eq g255.symm)
      have K256 : Keep h0 h255 [] := K0.ext E255
      have Z256 : n0 ≤ h255.size := Nat.le_trans Z0 E255.1
      have E_b255 := XA255
      have V_b255 : Arv Z h255 b255 k255 .int (1 : Int32) [(.int (0 : Int32))] (.int (0 : Int32)) := (Arv.new A255 (by decide)).pad (pad_rep [] (.int (0 : Int32)) 1)
      show Goes _ _ _ _ _ _ _ (T255.setTop (mkF m 50 #[.val (.int p0), .val (.int p1), .val (.int p2), .val (.int p3), .val (.int p4), .val (.int (2 : Int32)), .val (.int g2), .val (.int g3), .unset, .unset, .unset, .unset, .unset, .unset, .unset, .unset, .unset, .unset, .unset, .unset, .unset] [(.ref b255)]))
      refine Goes.step (fun _ k => XS.dup X255.here hx rfl (hb hby at_50) rfl rfl k) ?_
      show Goes _ _ _ _ _ _ _ (T255.setTop (mkF m 51 #[.val (.int p0), .val (.int p1), .val (.int p2), .val (.int p3), .val (.int p4), .val (.int (2 : Int32)), .val (.int g2), .val (.int g3), .unset, .unset, .unset, .unset, .unset, .unset, .unset, .unset, .unset, .unset, .unset, .unset, .unset] [(.ref b255), (.ref b255)]))
      refine Goes.step (fun _ k => XS.iconst X255.here hx rfl (hb hby at_51) k) ?_
      show Goes _ _ _ _ _ _ _ (T255.setTop (mkF m 52 #[.val (.int p0), .val (.int p1), .val (.int p2), .val (.int p3), .val (.int p4), .val (.int (2 : Int32)), .val (.int g2), .val (.int g3), .unset, .unset, .unset, .unset, .unset, .unset, .unset, .unset, .unset, .unset, .unset, .unset, .unset] [(.int (0 : Int32)), (.ref b255), (.ref b255)]))
      refine Goes.step (fun _ k => XS.iconst X255.here hx rfl (hb hby at_52) k) ?_
      show Goes _ _ _ _ _ _ _ (T255.setTop (mkF m 53 #[.val (.int p0), .val (.int p1), .val (.int p2), .val (.int p3), .val (.int p4), .val (.int (2 : Int32)), .val (.int g2), .val (.int g3), .unset, .unset, .unset, .unset, .unset, .unset, .unset, .unset, .unset, .unset, .unset, .unset, .unset] [(.int (1 : Int32)), (.int (0 : Int32)), (.ref b255), (.ref b255)]))
      obtain ⟨cl257, Ar257, q257, S257, P257, H257, G257⟩ := id V_b255
      have hin257 : ¬ ((0 : Int32) < 0 ∨ cl257.slots.size ≤ ((0 : Int32)).toNatClampNeg) := inb_of S257 ⟨by decide, by decide⟩
      obtain ⟨T258, h258, X258, e258, W258, st258⟩ := stI X255 hx hZ e255 Ar257 (j := (0 : Int32)) hin257 (g := (mkF m 53 #[.val (.int p0), .val (.int p1), .val (.int p2), .val (.int p3), .val (.int p4), .val (.int (2 : Int32)), .val (.int g2), .val (.int g3), .unset, .unset, .unset, .unset, .unset, .unset, .unset, .unset, .unset, .unset, .unset, .unset, .unset] [(.int (1 : Int32)), (.int (0 : Int32)), (.ref b255), (.ref b255)])) rfl rfl (hb hby at_53)
      refine Goes.step st258 ?_
      have V258 := Arv.set Ar257 q257 S257 P257 H257 G257 rfl W258 0 rfl (Nat.le_of_ble_eq_true rfl)
      have f259 := E_b255.wr W258
      have f260 := V258
      have K261 : Keep h0 h258 [] := K256.wr W258 (Or.inr sz_b255)
      have Z261 : n0 ≤ h258.size := by rw [Wr.size W258]; exact Z256
      have N261 := Fr.snoc X258 N0 g_b255
      show Goes _ _ _ _ _ _ _ (T258.setTop (mkF m 54 #[.val (.int p0), .val (.int p1), .val (.int p2), .val (.int p3), .val (.int p4), .val (.int (2 : Int32)), .val (.int g2), .val (.int g3), .unset, .unset, .unset, .unset, .unset, .unset, .unset, .unset, .unset, .unset, .unset, .unset, .unset] [(.ref b255)]))
      refine Goes.step (fun _ k => XS.astore X258.here hx rfl (hb hby at_54) rfl rfl (l' := #[.val (.int p0), .val (.int p1), .val (.int p2), .val (.int p3), .val (.int p4), .val (.int (2 : Int32)), .val (.int g2), .val (.int g3), .val (.ref b255), .unset, .unset, .unset, .unset, .unset, .unset, .unset, .unset, .unset, .unset, .unset, .unset]) rfl k) ?_
      show Goes _ _ _ _ _ _ _ (T258.setTop (mkF m 56 #[.val (.int p0), .val (.int p1), .val (.int p2), .val (.int p3), .val (.int p4), .val (.int (2 : Int32)), .val (.int g2), .val (.int g3), .val (.ref b255), .unset, .unset, .unset, .unset, .unset, .unset, .unset, .unset, .unset, .unset, .unset, .unset] []))
      refine Goes.step (fun _ k => XS.iconst X258.here hx rfl (hb hby at_56) k) ?_
      show Goes _ _ _ _ _ _ _ (T258.setTop (mkF m 57 #[.val (.int p0), .val (.int p1), .val (.int p2), .val (.int p3), .val (.int p4), .val (.int (2 : Int32)), .val (.int g2), .val (.int g3), .val (.ref b255), .unset, .unset, .unset, .unset, .unset, .unset, .unset, .unset, .unset, .unset, .unset, .unset] [(.int (1 : Int32))]))
      obtain ⟨T262, h262, k262, X262, e262, E262, A262, XA262, st262⟩ := newPE X258 hx hZ (hw _ (List.mem_of_getElem? (i := 0) rfl)) e258 (g := (mkF m 57 #[.val (.int p0), .val (.int p1), .val (.int p2), .val (.int p3), .val (.int p4), .val (.int (2 : Int32)), .val (.int g2), .val (.int g3), .val (.ref b255), .unset, .unset, .unset, .unset, .unset, .unset, .unset, .unset, .unset, .unset, .unset, .unset] [(.int (1 : Int32))])) rfl (hb hby at_57) rfl (by decide) (cap := 1) (by decide) (by decide) (by decide) (by decide) (ad := "[I") (by decide)
      obtain ⟨b262, g262⟩ : ∃ z, z = h258.size := ⟨_, rfl⟩
      rw [← g262] at A262 st262 XA262
      refine Goes.step st262 ?_
      have g_b262 : n0 ≤ b262 := Nat.le_trans Z261 (Nat.le_of_eq g262.symm)
      have sz_b262 : h0.size ≤ b262 := Nat.le_trans K261.1 (Nat.le_of_eq g262.symm)
      have ne263 : b255 ≠ b262 := Nat.ne_of_lt (Nat.lt_of_lt_of_le f259.lt (Nat.le_of_eq g262.symm))
      have f264 := f259.ext E262
      have f265 := f260.ext E262
      have K266 : Keep h0 h262 [] := K261.ext E262
      have Z266 : n0 ≤ h262.size := Nat.le_trans Z261 E262.1
      have E_b262 := XA262
      have V_b262 : Arv Z h262 b262 k262 .int (1 : Int32) [(.int (0 : Int32))] (.int (0 : Int32)) := (Arv.new A262 (by decide)).pad (pad_rep [] (.int (0 : Int32)) 1)
      show Goes _ _ _ _ _ _ _ (T262.setTop (mkF m 59 #[.val (.int p0), .val (.int p1), .val (.int p2), .val (.int p3), .val (.int p4), .val (.int (2 : Int32)), .val (.int g2), .val (.int g3), .val (.ref b255), .unset, .unset, .unset, .unset, .unset, .unset, .unset, .unset, .unset, .unset, .unset, .unset] [(.ref b262)]))
      refine Goes.step (fun _ k => XS.dup X262.here hx rfl (hb hby at_59) rfl rfl k) ?_
      show Goes _ _ _ _ _ _ _ (T262.setTop (mkF m 60 #[.val (.int p0), .val (.int p1), .val (.int p2), .val (.int p3), .val (.int p4), .val (.int (2 : Int32)), .val (.int g2), .val (.int g3), .val (.ref b255), .unset, .unset, .unset, .unset, .unset, .unset, .unset, .unset, .unset, .unset, .unset, .unset] [(.ref b262), (.ref b262)]))
      refine Goes.step (fun _ k => XS.iconst X262.here hx rfl (hb hby at_60) k) ?_
      show Goes _ _ _ _ _ _ _ (T262.setTop (mkF m 61 #[.val (.int p0), .val (.int p1), .val (.int p2), .val (.int p3), .val (.int p4), .val (.int (2 : Int32)), .val (.int g2), .val (.int g3), .val (.ref b255), .unset, .unset, .unset, .unset, .unset, .unset, .unset, .unset, .unset, .unset, .unset, .unset] [(.int (0 : Int32)), (.ref b262), (.ref b262)]))
      refine Goes.step (fun _ k => XS.iconst X262.here hx rfl (hb hby at_61) k) ?_
      show Goes _ _ _ _ _ _ _ (T262.setTop (mkF m 62 #[.val (.int p0), .val (.int p1), .val (.int p2), .val (.int p3), .val (.int p4), .val (.int (2 : Int32)), .val (.int g2), .val (.int g3), .val (.ref b255), .unset, .unset, .unset, .unset, .unset, .unset, .unset, .unset, .unset, .unset, .unset, .unset] [(.int (2 : Int32)), (.int (0 : Int32)), (.ref b262), (.ref b262)]))
      obtain ⟨cl267, Ar267, q267, S267, P267, H267, G267⟩ := id V_b262
      have hin267 : ¬ ((0 : Int32) < 0 ∨ cl267.slots.size ≤ ((0 : Int32)).toNatClampNeg) := inb_of S267 ⟨by decide, by decide⟩
      obtain ⟨T268, h268, X268, e268, W268, st268⟩ := stI X262 hx hZ e262 Ar267 (j := (0 : Int32)) hin267 (g := (mkF m 62 #[.val (.int p0), .val (.int p1), .val (.int p2), .val (.int p3), .val (.int p4), .val (.int (2 : Int32)), .val (.int g2), .val (.int g3), .val (.ref b255), .unset, .unset, .unset, .unset, .unset, .unset, .unset, .unset, .unset, .unset, .unset, .unset] [(.int (2 : Int32)), (.int (0 : Int32)), (.ref b262), (.ref b262)])) rfl rfl (hb hby at_62)
      refine Goes.step st268 ?_
      have V268 := Arv.set Ar267 q267 S267 P267 H267 G267 rfl W268 0 rfl (Nat.le_of_ble_eq_true rfl)
      have f269 := f264.wr W268
      have f270 := f265.other W268 ne263
      have f271 := E_b262.wr W268
      have f272 := V268
      have K273 : Keep h0 h268 [] := K266.wr W268 (Or.inr sz_b262)
      have Z273 : n0 ≤ h268.size := by rw [Wr.size W268]; exact Z266
      have N273 := Fr.snoc X268 N261 g_b262
      show Goes _ _ _ _ _ _ _ (T268.setTop (mkF m 63 #[.val (.int p0), .val (.int p1), .val (.int p2), .val (.int p3), .val (.int p4), .val (.int (2 : Int32)), .val (.int g2), .val (.int g3), .val (.ref b255), .unset, .unset, .unset, .unset, .unset, .unset, .unset, .unset, .unset, .unset, .unset, .unset] [(.ref b262)]))
      refine Goes.step (fun _ k => XS.astore X268.here hx rfl (hb hby at_63) rfl rfl (l' := #[.val (.int p0), .val (.int p1), .val (.int p2), .val (.int p3), .val (.int p4), .val (.int (2 : Int32)), .val (.int g2), .val (.int g3), .val (.ref b255), .val (.ref b262), .unset, .unset, .unset, .unset, .unset, .unset, .unset, .unset, .unset, .unset, .unset]) rfl k) ?_
      show Goes _ _ _ _ _ _ _ (T268.setTop (mkF m 65 #[.val (.int p0), .val (.int p1), .val (.int p2), .val (.int p3), .val (.int p4), .val (.int (2 : Int32)), .val (.int g2), .val (.int g3), .val (.ref b255), .val (.ref b262), .unset, .unset, .unset, .unset, .unset, .unset, .unset, .unset, .unset, .unset, .unset] []))
      refine Goes.step (fun _ k => XS.iconst X268.here hx rfl (hb hby at_65) k) ?_
      show Goes _ _ _ _ _ _ _ (T268.setTop (mkF m 66 #[.val (.int p0), .val (.int p1), .val (.int p2), .val (.int p3), .val (.int p4), .val (.int (2 : Int32)), .val (.int g2), .val (.int g3), .val (.ref b255), .val (.ref b262), .unset, .unset, .unset, .unset, .unset, .unset, .unset, .unset, .unset, .unset, .unset] [(.int (1 : Int32))]))
      obtain ⟨T274, h274, k274, X274, e274, E274, A274, XA274, st274⟩ := newPE X268 hx hZ (hw _ (List.mem_of_getElem? (i := 0) rfl)) e268 (g := (mkF m 66 #[.val (.int p0), .val (.int p1), .val (.int p2), .val (.int p3), .val (.int p4), .val (.int (2 : Int32)), .val (.int g2), .val (.int g3), .val (.ref b255), .val (.ref b262), .unset, .unset, .unset, .unset, .unset, .unset, .unset, .unset, .unset, .unset, .unset] [(.int (1 : Int32))])) rfl (hb hby at_66) rfl (by decide) (cap := 1) (by decide) (by decide) (by decide) (by decide) (ad := "[I") (by decide)
      obtain ⟨b274, g274⟩ : ∃ z, z = h268.size := ⟨_, rfl⟩
      rw [← g274] at A274 st274 XA274
      refine Goes.step st274 ?_
      have g_b274 : n0 ≤ b274 := Nat.le_trans Z273 (Nat.le_of_eq g274.symm)
      have sz_b274 : h0.size ≤ b274 := Nat.le_trans K273.1 (Nat.le_of_eq g274.symm)
      have ne275 : b255 ≠ b274 := Nat.ne_of_lt (Nat.lt_of_lt_of_le f269.lt (Nat.le_of_eq g274.symm))
      have ne276 : b262 ≠ b274 := Nat.ne_of_lt (Nat.lt_of_lt_of_le f271.lt (Nat.le_of_eq g274.symm))
      have f277 := f269.ext E274
      have f278 := f270.ext E274
      have f279 := f271.ext E274
      have f280 := f272.ext E274
      have K281 : Keep h0 h274 [] := K273.ext E274
      have Z281 : n0 ≤ h274.size := Nat.le_trans Z273 E274.1
      have E_b274 := XA274
      have V_b274 : Arv Z h274 b274 k274 .int (1 : Int32) [(.int (0 : Int32))] (.int (0 : Int32)) := (Arv.new A274 (by decide)).pad (pad_rep [] (.int (0 : Int32)) 1)
      show Goes _ _ _ _ _ _ _ (T274.setTop (mkF m 68 #[.val (.int p0), .val (.int p1), .val (.int p2), .val (.int p3), .val (.int p4), .val (.int (2 : Int32)), .val (.int g2), .val (.int g3), .val (.ref b255), .val (.ref b262), .unset, .unset, .unset, .unset, .unset, .unset, .unset, .unset, .unset, .unset, .unset] [(.ref b274)]))
      refine Goes.step (fun _ k => XS.dup X274.here hx rfl (hb hby at_68) rfl rfl k) ?_
      show Goes _ _ _ _ _ _ _ (T274.setTop (mkF m 69 #[.val (.int p0), .val (.int p1), .val (.int p2), .val (.int p3), .val (.int p4), .val (.int (2 : Int32)), .val (.int g2), .val (.int g3), .val (.ref b255), .val (.ref b262), .unset, .unset, .unset, .unset, .unset, .unset, .unset, .unset, .unset, .unset, .unset] [(.ref b274), (.ref b274)]))
      refine Goes.step (fun _ k => XS.iconst X274.here hx rfl (hb hby at_69) k) ?_
      show Goes _ _ _ _ _ _ _ (T274.setTop (mkF m 70 #[.val (.int p0), .val (.int p1), .val (.int p2), .val (.int p3), .val (.int p4), .val (.int (2 : Int32)), .val (.int g2), .val (.int g3), .val (.ref b255), .val (.ref b262), .unset, .unset, .unset, .unset, .unset, .unset, .unset, .unset, .unset, .unset, .unset] [(.int (0 : Int32)), (.ref b274), (.ref b274)]))
      refine Goes.step (fun _ k => XS.iconst X274.here hx rfl (hb hby at_70) k) ?_
      show Goes _ _ _ _ _ _ _ (T274.setTop (mkF m 71 #[.val (.int p0), .val (.int p1), .val (.int p2), .val (.int p3), .val (.int p4), .val (.int (2 : Int32)), .val (.int g2), .val (.int g3), .val (.ref b255), .val (.ref b262), .unset, .unset, .unset, .unset, .unset, .unset, .unset, .unset, .unset, .unset, .unset] [(.int (3 : Int32)), (.int (0 : Int32)), (.ref b274), (.ref b274)]))
      obtain ⟨cl282, Ar282, q282, S282, P282, H282, G282⟩ := id V_b274
      have hin282 : ¬ ((0 : Int32) < 0 ∨ cl282.slots.size ≤ ((0 : Int32)).toNatClampNeg) := inb_of S282 ⟨by decide, by decide⟩
      obtain ⟨T283, h283, X283, e283, W283, st283⟩ := stI X274 hx hZ e274 Ar282 (j := (0 : Int32)) hin282 (g := (mkF m 71 #[.val (.int p0), .val (.int p1), .val (.int p2), .val (.int p3), .val (.int p4), .val (.int (2 : Int32)), .val (.int g2), .val (.int g3), .val (.ref b255), .val (.ref b262), .unset, .unset, .unset, .unset, .unset, .unset, .unset, .unset, .unset, .unset, .unset] [(.int (3 : Int32)), (.int (0 : Int32)), (.ref b274), (.ref b274)])) rfl rfl (hb hby at_71)
      refine Goes.step st283 ?_
      have V283 := Arv.set Ar282 q282 S282 P282 H282 G282 rfl W283 0 rfl (Nat.le_of_ble_eq_true rfl)
      have f284 := f277.wr W283
      have f285 := f278.other W283 ne275
      have f286 := f279.wr W283
      have f287 := f280.other W283 ne276
      have f288 := E_b274.wr W283
      have f289 := V283
      have K290 : Keep h0 h283 [] := K281.wr W283 (Or.inr sz_b274)
      have Z290 : n0 ≤ h283.size := by rw [Wr.size W283]; exact Z281
      have N290 := Fr.snoc X283 N273 g_b274
      show Goes _ _ _ _ _ _ _ (T283.setTop (mkF m 72 #[.val (.int p0), .val (.int p1), .val (.int p2), .val (.int p3), .val (.int p4), .val (.int (2 : Int32)), .val (.int g2), .val (.int g3), .val (.ref b255), .val (.ref b262), .unset, .unset, .unset, .unset, .unset, .unset, .unset, .unset, .unset, .unset, .unset] [(.ref b274)]))
      refine Goes.step (fun _ k => XS.astore X283.here hx rfl (hb hby at_72) rfl rfl (l' := #[.val (.int p0), .val (.int p1), .val (.int p2), .val (.int p3), .val (.int p4), .val (.int (2 : Int32)), .val (.int g2), .val (.int g3), .val (.ref b255), .val (.ref b262), .val (.ref b274), .unset, .unset, .unset, .unset, .unset, .unset, .unset, .unset, .unset, .unset]) rfl k) ?_
      show Goes _ _ _ _ _ _ _ (T283.setTop (mkF m 74 #[.val (.int p0), .val (.int p1), .val (.int p2), .val (.int p3), .val (.int p4), .val (.int (2 : Int32)), .val (.int g2), .val (.int g3), .val (.ref b255), .val (.ref b262), .val (.ref b274), .unset, .unset, .unset, .unset, .unset, .unset, .unset, .unset, .unset, .unset] []))
      refine Goes.step (fun _ k => XS.iconst X283.here hx rfl (hb hby at_74) k) ?_
      show Goes _ _ _ _ _ _ _ (T283.setTop (mkF m 75 #[.val (.int p0), .val (.int p1), .val (.int p2), .val (.int p3), .val (.int p4), .val (.int (2 : Int32)), .val (.int g2), .val (.int g3), .val (.ref b255), .val (.ref b262), .val (.ref b274), .unset, .unset, .unset, .unset, .unset, .unset, .unset, .unset, .unset, .unset] [(.int (1 : Int32))]))
      obtain ⟨T291, h291, k291, X291, e291, E291, A291, XA291, st291⟩ := newPE X283 hx hZ (hw _ (List.mem_of_getElem? (i := 0) rfl)) e283 (g := (mkF m 75 #[.val (.int p0), .val (.int p1), .val (.int p2), .val (.int p3), .val (.int p4), .val (.int (2 : Int32)), .val (.int g2), .val (.int g3), .val (.ref b255), .val (.ref b262), .val (.ref b274), .unset, .unset, .unset, .unset, .unset, .unset, .unset, .unset, .unset, .unset] [(.int (1 : Int32))])) rfl (hb hby at_75) rfl (by decide) (cap := 1) (by decide) (by decide) (by decide) (by decide) (ad := "[I") (by decide)
      obtain ⟨b291, g291⟩ : ∃ z, z = h283.size := ⟨_, rfl⟩
      rw [← g291] at A291 st291 XA291
      refine Goes.step st291 ?_
      have g_b291 : n0 ≤ b291 := Nat.le_trans Z290 (Nat.le_of_eq g291.symm)
      have sz_b291 : h0.size ≤ b291 := Nat.le_trans K290.1 (Nat.le_of_eq g291.symm)
      have ne292 : b255 ≠ b291 := Nat.ne_of_lt (Nat.lt_of_lt_of_le f284.lt (Nat.le_of_eq g291.symm))
      have ne293 : b262 ≠ b291 := Nat.ne_of_lt (Nat.lt_of_lt_of_le f286.lt (Nat.le_of_eq g291.symm))
      have ne294 : b274 ≠ b291 := Nat.ne_of_lt (Nat.lt_of_lt_of_le f288.lt (Nat.le_of_eq g291.symm))
      have f295 := f284.ext E291
      have f296 := f285.ext E291
      have f297 := f286.ext E291
      have f298 := f287.ext E291
      have f299 := f288.ext E291
      have f300 := f289.ext E291
      have K301 : Keep h0 h291 [] := K290.ext E291
      have Z301 : n0 ≤ h291.size := Nat.le_trans Z290 E291.1
      have E_b291 := XA291
      have V_b291 : Arv Z h291 b291 k291 .int (1 : Int32) [(.int (0 : Int32))] (.int (0 : Int32)) := (Arv.new A291 (by decide)).pad (pad_rep [] (.int (0 : Int32)) 1)
      show Goes _ _ _ _ _ _ _ (T291.setTop (mkF m 77 #[.val (.int p0), .val (.int p1), .val (.int p2), .val (.int p3), .val (.int p4), .val (.int (2 : Int32)), .val (.int g2), .val (.int g3), .val (.ref b255), .val (.ref b262), .val (.ref b274), .unset, .unset, .unset, .unset, .unset, .unset, .unset, .unset, .unset, .unset] [(.ref b291)]))
      refine Goes.step (fun _ k => XS.dup X291.here hx rfl (hb hby at_77) rfl rfl k) ?_
      show Goes _ _ _ _ _ _ _ (T291.setTop (mkF m 78 #[.val (.int p0), .val (.int p1), .val (.int p2), .val (.int p3), .val (.int p4), .val (.int (2 : Int32)), .val (.int g2), .val (.int g3), .val (.ref b255), .val (.ref b262), .val (.ref b274), .unset, .unset, .unset, .unset, .unset, .unset, .unset, .unset, .unset, .unset] [(.ref b291), (.ref b291)]))
      refine Goes.step (fun _ k => XS.iconst X291.here hx rfl (hb hby at_78) k) ?_
      show Goes _ _ _ _ _ _ _ (T291.setTop (mkF m 79 #[.val (.int p0), .val (.int p1), .val (.int p2), .val (.int p3), .val (.int p4), .val (.int (2 : Int32)), .val (.int g2), .val (.int g3), .val (.ref b255), .val (.ref b262), .val (.ref b274), .unset, .unset, .unset, .unset, .unset, .unset, .unset, .unset, .unset, .unset] [(.int (0 : Int32)), (.ref b291), (.ref b291)]))
      refine Goes.step (fun _ k => XS.bipush X291.here hx rfl (hb hby at_79) k) ?_
      show Goes _ _ _ _ _ _ _ (T291.setTop (mkF m 81 #[.val (.int p0), .val (.int p1), .val (.int p2), .val (.int p3), .val (.int p4), .val (.int (2 : Int32)), .val (.int g2), .val (.int g3), .val (.ref b255), .val (.ref b262), .val (.ref b274), .unset, .unset, .unset, .unset, .unset, .unset, .unset, .unset, .unset, .unset] [(.int (11 : Int32)), (.int (0 : Int32)), (.ref b291), (.ref b291)]))
      obtain ⟨cl302, Ar302, q302, S302, P302, H302, G302⟩ := id V_b291
      have hin302 : ¬ ((0 : Int32) < 0 ∨ cl302.slots.size ≤ ((0 : Int32)).toNatClampNeg) := inb_of S302 ⟨by decide, by decide⟩
      obtain ⟨T303, h303, X303, e303, W303, st303⟩ := stI X291 hx hZ e291 Ar302 (j := (0 : Int32)) hin302 (g := (mkF m 81 #[.val (.int p0), .val (.int p1), .val (.int p2), .val (.int p3), .val (.int p4), .val (.int (2 : Int32)), .val (.int g2), .val (.int g3), .val (.ref b255), .val (.ref b262), .val (.ref b274), .unset, .unset, .unset, .unset, .unset, .unset, .unset, .unset, .unset, .unset] [(.int (11 : Int32)), (.int (0 : Int32)), (.ref b291), (.ref b291)])) rfl rfl (hb hby at_81)
      refine Goes.step st303 ?_
      have V303 := Arv.set Ar302 q302 S302 P302 H302 G302 rfl W303 0 rfl (Nat.le_of_ble_eq_true rfl)
      have f304 := f295.wr W303
      have f305 := f296.other W303 ne292
      have f306 := f297.wr W303
      have f307 := f298.other W303 ne293
      have f308 := f299.wr W303
      have f309 := f300.other W303 ne294
      have f310 := E_b291.wr W303
      have f311 := V303
      have K312 : Keep h0 h303 [] := K301.wr W303 (Or.inr sz_b291)
      have Z312 : n0 ≤ h303.size := by rw [Wr.size W303]; exact Z301
      have N312 := Fr.snoc X303 N290 g_b291
      show Goes _ _ _ _ _ _ _ (T303.setTop (mkF m 82 #[.val (.int p0), .val (.int p1), .val (.int p2), .val (.int p3), .val (.int p4), .val (.int (2 : Int32)), .val (.int g2), .val (.int g3), .val (.ref b255), .val (.ref b262), .val (.ref b274), .unset, .unset, .unset, .unset, .unset, .unset, .unset, .unset, .unset, .unset] [(.ref b291)]))
      refine Goes.step (fun _ k => XS.astore X303.here hx rfl (hb hby at_82) rfl rfl (l' := #[.val (.int p0), .val (.int p1), .val (.int p2), .val (.int p3), .val (.int p4), .val (.int (2 : Int32)), .val (.int g2), .val (.int g3), .val (.ref b255), .val (.ref b262), .val (.ref b274), .val (.ref b291), .unset, .unset, .unset, .unset, .unset, .unset, .unset, .unset, .unset]) rfl k) ?_
      show Goes _ _ _ _ _ _ _ (T303.setTop (mkF m 84 #[.val (.int p0), .val (.int p1), .val (.int p2), .val (.int p3), .val (.int p4), .val (.int (2 : Int32)), .val (.int g2), .val (.int g3), .val (.ref b255), .val (.ref b262), .val (.ref b274), .val (.ref b291), .unset, .unset, .unset, .unset, .unset, .unset, .unset, .unset, .unset] []))
      refine Goes.step (fun _ k => XS.iconst X303.here hx rfl (hb hby at_84) k) ?_
      show Goes _ _ _ _ _ _ _ (T303.setTop (mkF m 85 #[.val (.int p0), .val (.int p1), .val (.int p2), .val (.int p3), .val (.int p4), .val (.int (2 : Int32)), .val (.int g2), .val (.int g3), .val (.ref b255), .val (.ref b262), .val (.ref b274), .val (.ref b291), .unset, .unset, .unset, .unset, .unset, .unset, .unset, .unset, .unset] [(.int (1 : Int32))]))
      obtain ⟨T313, h313, k313, X313, e313, E313, A313, XA313, st313⟩ := newPE X303 hx hZ (hw _ (List.mem_of_getElem? (i := 0) rfl)) e303 (g := (mkF m 85 #[.val (.int p0), .val (.int p1), .val (.int p2), .val (.int p3), .val (.int p4), .val (.int (2 : Int32)), .val (.int g2), .val (.int g3), .val (.ref b255), .val (.ref b262), .val (.ref b274), .val (.ref b291), .unset, .unset, .unset, .unset, .unset, .unset, .unset, .unset, .unset] [(.int (1 : Int32))])) rfl (hb hby at_85) rfl (by decide) (cap := 1) (by decide) (by decide) (by decide) (by decide) (ad := "[I") (by decide)
      obtain ⟨b313, g313⟩ : ∃ z, z = h303.size := ⟨_, rfl⟩
      rw [← g313] at A313 st313 XA313
      refine Goes.step st313 ?_
      have g_b313 : n0 ≤ b313 := Nat.le_trans Z312 (Nat.le_of_eq g313.symm)
      have sz_b313 : h0.size ≤ b313 := Nat.le_trans K312.1 (Nat.le_of_eq g313.symm)
      have ne314 : b255 ≠ b313 := Nat.ne_of_lt (Nat.lt_of_lt_of_le f304.lt (Nat.le_of_eq g313.symm))
      have ne315 : b262 ≠ b313 := Nat.ne_of_lt (Nat.lt_of_lt_of_le f306.lt (Nat.le_of_eq g313.symm))
      have ne316 : b274 ≠ b313 := Nat.ne_of_lt (Nat.lt_of_lt_of_le f308.lt (Nat.le_of_eq g313.symm))
      have ne317 : b291 ≠ b313 := Nat.ne_of_lt (Nat.lt_of_lt_of_le f310.lt (Nat.le_of_eq g313.symm))
      have f318 := f304.ext E313
      have f319 := f305.ext E313
      have f320 := f306.ext E313
      have f321 := f307.ext E313
      have f322 := f308.ext E313
      have f323 := f309.ext E313
      have f324 := f310.ext E313
      have f325 := f311.ext E313
      have K326 : Keep h0 h313 [] := K312.ext E313
      have Z326 : n0 ≤ h313.size := Nat.le_trans Z312 E313.1
      have E_b313 := XA313
      have V_b313 : Arv Z h313 b313 k313 .int (1 : Int32) [(.int (0 : Int32))] (.int (0 : Int32)) := (Arv.new A313 (by decide)).pad (pad_rep [] (.int (0 : Int32)) 1)
      show Goes _ _ _ _ _ _ _ (T313.setTop (mkF m 87 #[.val (.int p0), .val (.int p1), .val (.int p2), .val (.int p3), .val (.int p4), .val (.int (2 : Int32)), .val (.int g2), .val (.int g3), .val (.ref b255), .val (.ref b262), .val (.ref b274), .val (.ref b291), .unset, .unset, .unset, .unset, .unset, .unset, .unset, .unset, .unset] [(.ref b313)]))
      refine Goes.step (fun _ k => XS.dup X313.here hx rfl (hb hby at_87) rfl rfl k) ?_
      show Goes _ _ _ _ _ _ _ (T313.setTop (mkF m 88 #[.val (.int p0), .val (.int p1), .val (.int p2), .val (.int p3), .val (.int p4), .val (.int (2 : Int32)), .val (.int g2), .val (.int g3), .val (.ref b255), .val (.ref b262), .val (.ref b274), .val (.ref b291), .unset, .unset, .unset, .unset, .unset, .unset, .unset, .unset, .unset] [(.ref b313), (.ref b313)]))
      refine Goes.step (fun _ k => XS.iconst X313.here hx rfl (hb hby at_88) k) ?_
      show Goes _ _ _ _ _ _ _ (T313.setTop (mkF m 89 #[.val (.int p0), .val (.int p1), .val (.int p2), .val (.int p3), .val (.int p4), .val (.int (2 : Int32)), .val (.int g2), .val (.int g3), .val (.ref b255), .val (.ref b262), .val (.ref b274), .val (.ref b291), .unset, .unset, .unset, .unset, .unset, .unset, .unset, .unset, .unset] [(.int (0 : Int32)), (.ref b313), (.ref b313)]))
      refine Goes.step (fun _ k => XS.bipush X313.here hx rfl (hb hby at_89) k) ?_
      show Goes _ _ _ _ _ _ _ (T313.setTop (mkF m 91 #[.val (.int p0), .val (.int p1), .val (.int p2), .val (.int p3), .val (.int p4), .val (.int (2 : Int32)), .val (.int g2), .val (.int g3), .val (.ref b255), .val (.ref b262), .val (.ref b274), .val (.ref b291), .unset, .unset, .unset, .unset, .unset, .unset, .unset, .unset, .unset] [(.int (12 : Int32)), (.int (0 : Int32)), (.ref b313), (.ref b313)]))
      obtain ⟨cl327, Ar327, q327, S327, P327, H327, G327⟩ := id V_b313
      have hin327 : ¬ ((0 : Int32) < 0 ∨ cl327.slots.size ≤ ((0 : Int32)).toNatClampNeg) := inb_of S327 ⟨by decide, by decide⟩
      obtain ⟨T328, h328, X328, e328, W328, st328⟩ := stI X313 hx hZ e313 Ar327 (j := (0 : Int32)) hin327 (g := (mkF m 91 #[.val (.int p0), .val (.int p1), .val (.int p2), .val (.int p3), .val (.int p4), .val (.int (2 : Int32)), .val (.int g2), .val (.int g3), .val (.ref b255), .val (.ref b262), .val (.ref b274), .val (.ref b291), .unset, .unset, .unset, .unset, .unset, .unset, .unset, .unset, .unset] [(.int (12 : Int32)), (.int (0 : Int32)), (.ref b313), (.ref b313)])) rfl rfl (hb hby at_91)
      refine Goes.step st328 ?_
      have V328 := Arv.set Ar327 q327 S327 P327 H327 G327 rfl W328 0 rfl (Nat.le_of_ble_eq_true rfl)
      have f329 := f318.wr W328
      have f330 := f319.other W328 ne314
      have f331 := f320.wr W328
      have f332 := f321.other W328 ne315
      have f333 := f322.wr W328
      have f334 := f323.other W328 ne316
      have f335 := f324.wr W328
      have f336 := f325.other W328 ne317
      have f337 := E_b313.wr W328
      have f338 := V328
      have K339 : Keep h0 h328 [] := K326.wr W328 (Or.inr sz_b313)
      have Z339 : n0 ≤ h328.size := by rw [Wr.size W328]; exact Z326
      have N339 := Fr.snoc X328 N312 g_b313
      show Goes _ _ _ _ _ _ _ (T328.setTop (mkF m 92 #[.val (.int p0), .val (.int p1), .val (.int p2), .val (.int p3), .val (.int p4), .val (.int (2 : Int32)), .val (.int g2), .val (.int g3), .val (.ref b255), .val (.ref b262), .val (.ref b274), .val (.ref b291), .unset, .unset, .unset, .unset, .unset, .unset, .unset, .unset, .unset] [(.ref b313)]))
      refine Goes.step (fun _ k => XS.astore X328.here hx rfl (hb hby at_92) rfl rfl (l' := #[.val (.int p0), .val (.int p1), .val (.int p2), .val (.int p3), .val (.int p4), .val (.int (2 : Int32)), .val (.int g2), .val (.int g3), .val (.ref b255), .val (.ref b262), .val (.ref b274), .val (.ref b291), .val (.ref b313), .unset, .unset, .unset, .unset, .unset, .unset, .unset, .unset]) rfl k) ?_
      show Goes _ _ _ _ _ _ _ (T328.setTop (mkF m 94 #[.val (.int p0), .val (.int p1), .val (.int p2), .val (.int p3), .val (.int p4), .val (.int (2 : Int32)), .val (.int g2), .val (.int g3), .val (.ref b255), .val (.ref b262), .val (.ref b274), .val (.ref b291), .val (.ref b313), .unset, .unset, .unset, .unset, .unset, .unset, .unset, .unset] []))
      refine Goes.step (fun _ k => XS.iconst X328.here hx rfl (hb hby at_94) k) ?_
      show Goes _ _ _ _ _ _ _ (T328.setTop (mkF m 95 #[.val (.int p0), .val (.int p1), .val (.int p2), .val (.int p3), .val (.int p4), .val (.int (2 : Int32)), .val (.int g2), .val (.int g3), .val (.ref b255), .val (.ref b262), .val (.ref b274), .val (.ref b291), .val (.ref b313), .unset, .unset, .unset, .unset, .unset, .unset, .unset, .unset] [(.int (1 : Int32))]))
      obtain ⟨T340, h340, k340, X340, e340, E340, A340, XA340, st340⟩ := newPE X328 hx hZ (hw _ (List.mem_of_getElem? (i := 0) rfl)) e328 (g := (mkF m 95 #[.val (.int p0), .val (.int p1), .val (.int p2), .val (.int p3), .val (.int p4), .val (.int (2 : Int32)), .val (.int g2), .val (.int g3), .val (.ref b255), .val (.ref b262), .val (.ref b274), .val (.ref b291), .val (.ref b313), .unset, .unset, .unset, .unset, .unset, .unset, .unset, .unset] [(.int (1 : Int32))])) rfl (hb hby at_95) rfl (by decide) (cap := 1) (by decide) (by decide) (by decide) (by decide) (ad := "[I") (by decide)
      obtain ⟨b340, g340⟩ : ∃ z, z = h328.size := ⟨_, rfl⟩
      rw [← g340] at A340 st340 XA340
      refine Goes.step st340 ?_
      have g_b340 : n0 ≤ b340 := Nat.le_trans Z339 (Nat.le_of_eq g340.symm)
      have sz_b340 : h0.size ≤ b340 := Nat.le_trans K339.1 (Nat.le_of_eq g340.symm)
      have ne341 : b255 ≠ b340 := Nat.ne_of_lt (Nat.lt_of_lt_of_le f329.lt (Nat.le_of_eq g340.symm))
      have ne342 : b262 ≠ b340 := Nat.ne_of_lt (Nat.lt_of_lt_of_le f331.lt (Nat.le_of_eq g340.symm))
      have ne343 : b274 ≠ b340 := Nat.ne_of_lt (Nat.lt_of_lt_of_le f333.lt (Nat.le_of_eq g340.symm))
      have ne344 : b291 ≠ b340 := Nat.ne_of_lt (Nat.lt_of_lt_of_le f335.lt (Nat.le_of_eq g340.symm))
      have ne345 : b313 ≠ b340 := Nat.ne_of_lt (Nat.lt_of_lt_of_le f337.lt (Nat.le_of_eq g340.symm))
      have f346 := f329.ext E340
      have f347 := f330.ext E340
      have f348 := f331.ext E340
      have f349 := f332.ext E340
      have f350 := f333.ext E340
      have f351 := f334.ext E340
      have f352 := f335.ext E340
      have f353 := f336.ext E340
      have f354 := f337.ext E340
      have f355 := f338.ext E340
      have K356 : Keep h0 h340 [] := K339.ext E340
      have Z356 : n0 ≤ h340.size := Nat.le_trans Z339 E340.1
      have E_b340 := XA340
      have V_b340 : Arv Z h340 b340 k340 .int (1 : Int32) [(.int (0 : Int32))] (.int (0 : Int32)) := (Arv.new A340 (by decide)).pad (pad_rep [] (.int (0 : Int32)) 1)
      show Goes _ _ _ _ _ _ _ (T340.setTop (mkF m 97 #[.val (.int p0), .val (.int p1), .val (.int p2), .val (.int p3), .val (.int p4), .val (.int (2 : Int32)), .val (.int g2), .val (.int g3), .val (.ref b255), .val (.ref b262), .val (.ref b274), .val (.ref b291), .val (.ref b313), .unset, .unset, .unset, .unset, .unset, .unset, .unset, .unset] [(.ref b340)]))
      refine Goes.step (fun _ k => XS.dup X340.here hx rfl (hb hby at_97) rfl rfl k) ?_
      show Goes _ _ _ _ _ _ _ (T340.setTop (mkF m 98 #[.val (.int p0), .val (.int p1), .val (.int p2), .val (.int p3), .val (.int p4), .val (.int (2 : Int32)), .val (.int g2), .val (.int g3), .val (.ref b255), .val (.ref b262), .val (.ref b274), .val (.ref b291), .val (.ref b313), .unset, .unset, .unset, .unset, .unset, .unset, .unset, .unset] [(.ref b340), (.ref b340)]))
      refine Goes.step (fun _ k => XS.iconst X340.here hx rfl (hb hby at_98) k) ?_
      show Goes _ _ _ _ _ _ _ (T340.setTop (mkF m 99 #[.val (.int p0), .val (.int p1), .val (.int p2), .val (.int p3), .val (.int p4), .val (.int (2 : Int32)), .val (.int g2), .val (.int g3), .val (.ref b255), .val (.ref b262), .val (.ref b274), .val (.ref b291), .val (.ref b313), .unset, .unset, .unset, .unset, .unset, .unset, .unset, .unset] [(.int (0 : Int32)), (.ref b340), (.ref b340)]))
      refine Goes.step (fun _ k => XS.bipush X340.here hx rfl (hb hby at_99) k) ?_
      show Goes _ _ _ _ _ _ _ (T340.setTop (mkF m 101 #[.val (.int p0), .val (.int p1), .val (.int p2), .val (.int p3), .val (.int p4), .val (.int (2 : Int32)), .val (.int g2), .val (.int g3), .val (.ref b255), .val (.ref b262), .val (.ref b274), .val (.ref b291), .val (.ref b313), .unset, .unset, .unset, .unset, .unset, .unset, .unset, .unset] [(.int (13 : Int32)), (.int (0 : Int32)), (.ref b340), (.ref b340)]))
      obtain ⟨cl357, Ar357, q357, S357, P357, H357, G357⟩ := id V_b340
      have hin357 : ¬ ((0 : Int32) < 0 ∨ cl357.slots.size ≤ ((0 : Int32)).toNatClampNeg) := inb_of S357 ⟨by decide, by decide⟩
      obtain ⟨T358, h358, X358, e358, W358, st358⟩ := stI X340 hx hZ e340 Ar357 (j := (0 : Int32)) hin357 (g := (mkF m 101 #[.val (.int p0), .val (.int p1), .val (.int p2), .val (.int p3), .val (.int p4), .val (.int (2 : Int32)), .val (.int g2), .val (.int g3), .val (.ref b255), .val (.ref b262), .val (.ref b274), .val (.ref b291), .val (.ref b313), .unset, .unset, .unset, .unset, .unset, .unset, .unset, .unset] [(.int (13 : Int32)), (.int (0 : Int32)), (.ref b340), (.ref b340)])) rfl rfl (hb hby at_101)
      refine Goes.step st358 ?_
      have V358 := Arv.set Ar357 q357 S357 P357 H357 G357 rfl W358 0 rfl (Nat.le_of_ble_eq_true rfl)
      have f359 := f346.wr W358
      have f360 := f347.other W358 ne341
      have f361 := f348.wr W358
      have f362 := f349.other W358 ne342
      have f363 := f350.wr W358
      have f364 := f351.other W358 ne343
      have f365 := f352.wr W358
      have f366 := f353.other W358 ne344
      have f367 := f354.wr W358
      have f368 := f355.other W358 ne345
      have f369 := E_b340.wr W358
      have f370 := V358
      have K371 : Keep h0 h358 [] := K356.wr W358 (Or.inr sz_b340)
      have Z371 : n0 ≤ h358.size := by rw [Wr.size W358]; exact Z356
      have N371 := Fr.snoc X358 N339 g_b340
      show Goes _ _ _ _ _ _ _ (T358.setTop (mkF m 102 #[.val (.int p0), .val (.int p1), .val (.int p2), .val (.int p3), .val (.int p4), .val (.int (2 : Int32)), .val (.int g2), .val (.int g3), .val (.ref b255), .val (.ref b262), .val (.ref b274), .val (.ref b291), .val (.ref b313), .unset, .unset, .unset, .unset, .unset, .unset, .unset, .unset] [(.ref b340)]))
      refine Goes.step (fun _ k => XS.astore X358.here hx rfl (hb hby at_102) rfl rfl (l' := #[.val (.int p0), .val (.int p1), .val (.int p2), .val (.int p3), .val (.int p4), .val (.int (2 : Int32)), .val (.int g2), .val (.int g3), .val (.ref b255), .val (.ref b262), .val (.ref b274), .val (.ref b291), .val (.ref b313), .val (.ref b340), .unset, .unset, .unset, .unset, .unset, .unset, .unset]) rfl k) ?_
      show Goes _ _ _ _ _ _ _ (T358.setTop (mkF m 104 #[.val (.int p0), .val (.int p1), .val (.int p2), .val (.int p3), .val (.int p4), .val (.int (2 : Int32)), .val (.int g2), .val (.int g3), .val (.ref b255), .val (.ref b262), .val (.ref b274), .val (.ref b291), .val (.ref b313), .val (.ref b340), .unset, .unset, .unset, .unset, .unset, .unset, .unset] []))
      obtain ⟨T372, h372, X372, e372, E372, A372, D372, -, st372⟩ := newO X358 hx hZ hown (hw _ (List.mem_of_getElem? (i := 1) rfl)) (hw _ (List.mem_of_getElem? (i := 2) rfl)) (hw _ (List.mem_of_getElem? (i := 3) rfl)) e358 (g := (mkF m 104 #[.val (.int p0), .val (.int p1), .val (.int p2), .val (.int p3), .val (.int p4), .val (.int (2 : Int32)), .val (.int g2), .val (.int g3), .val (.ref b255), .val (.ref b262), .val (.ref b274), .val (.ref b291), .val (.ref b313), .val (.ref b340), .unset, .unset, .unset, .unset, .unset, .unset, .unset] [])) rfl (hb hby at_104) (by decide) (by decide)
      obtain ⟨b372, g372⟩ : ∃ z, z = h358.size := ⟨_, rfl⟩
      rw [← g372] at A372 D372 st372
      refine Goes.step st372 ?_
      have g_b372 : n0 ≤ b372 := Nat.le_trans Z371 (Nat.le_of_eq g372.symm)
      have sz_b372 : h0.size ≤ b372 := Nat.le_trans K371.1 (Nat.le_of_eq g372.symm)
      have ne373 : b255 ≠ b372 := Nat.ne_of_lt (Nat.lt_of_lt_of_le f359.lt (Nat.le_of_eq g372.symm))
      have ne374 : b262 ≠ b372 := Nat.ne_of_lt (Nat.lt_of_lt_of_le f361.lt (Nat.le_of_eq g372.symm))
      have ne375 : b274 ≠ b372 := Nat.ne_of_lt (Nat.lt_of_lt_of_le f363.lt (Nat.le_of_eq g372.symm))
      have ne376 : b291 ≠ b372 := Nat.ne_of_lt (Nat.lt_of_lt_of_le f365.lt (Nat.le_of_eq g372.symm))
      have ne377 : b313 ≠ b372 := Nat.ne_of_lt (Nat.lt_of_lt_of_le f367.lt (Nat.le_of_eq g372.symm))
      have ne378 : b340 ≠ b372 := Nat.ne_of_lt (Nat.lt_of_lt_of_le f369.lt (Nat.le_of_eq g372.symm))
      have f379 := f359.ext E372
      have f380 := f360.ext E372
      have f381 := f361.ext E372
      have f382 := f362.ext E372
      have f383 := f363.ext E372
      have f384 := f364.ext E372
      have f385 := f365.ext E372
      have f386 := f366.ext E372
      have f387 := f367.ext E372
      have f388 := f368.ext E372
      have f389 := f369.ext E372
      have f390 := f370.ext E372
      have K391 : Keep h0 h372 [] := K371.ext E372
      have Z391 : n0 ≤ h372.size := Nat.le_trans Z371 E372.1
      have E_b372 := A372
      have F_most_b372 : Fld Z h372 b372 "com/example/nehaba/nehaba/input/KeptValues" "most" "I" (.int (0 : Int32)) := D372 (Or.inr (hw _ (List.mem_of_getElem? (i := 12) rfl))) (ty := .int) (by decide)
      have F_keys_b372 : Fld Z h372 b372 "com/example/nehaba/nehaba/input/KeptValues" "keys" "[Ljava/lang/Object;" .null := D372 (Or.inr (hw _ (List.mem_of_getElem? (i := 25) rfl))) (ty := (.array (.object "java/lang/Object"))) (by decide)
      have F_hashes_b372 : Fld Z h372 b372 "com/example/nehaba/nehaba/input/KeptValues" "hashes" "[I" .null := D372 (Or.inr (hw _ (List.mem_of_getElem? (i := 27) rfl))) (ty := (.array .int)) (by decide)
      have F_values_b372 : Fld Z h372 b372 "com/example/nehaba/nehaba/input/KeptValues" "values" "[Ljava/lang/Object;" .null := D372 (Or.inr (hw _ (List.mem_of_getElem? (i := 29) rfl))) (ty := (.array (.object "java/lang/Object"))) (by decide)
      have F_shift_b372 : Fld Z h372 b372 "com/example/nehaba/nehaba/input/KeptValues" "shift" "I" (.int (0 : Int32)) := D372 (Or.inr (hw _ (List.mem_of_getElem? (i := 32) rfl))) (ty := .int) (by decide)
      have F_size_b372 : Fld Z h372 b372 "com/example/nehaba/nehaba/input/KeptValues" "size" "I" (.int (0 : Int32)) := D372 (Or.inl (hw _ (List.mem_of_getElem? (i := 39) rfl))) (ty := .int) (by decide)
      show Goes _ _ _ _ _ _ _ (T372.setTop (mkF m 107 #[.val (.int p0), .val (.int p1), .val (.int p2), .val (.int p3), .val (.int p4), .val (.int (2 : Int32)), .val (.int g2), .val (.int g3), .val (.ref b255), .val (.ref b262), .val (.ref b274), .val (.ref b291), .val (.ref b313), .val (.ref b340), .unset, .unset, .unset, .unset, .unset, .unset, .unset] [(.ref b372)]))
      refine Goes.step (fun _ k => XS.dup X372.here hx rfl (hb hby at_107) rfl rfl k) ?_
      show Goes _ _ _ _ _ _ _ (T372.setTop (mkF m 108 #[.val (.int p0), .val (.int p1), .val (.int p2), .val (.int p3), .val (.int p4), .val (.int (2 : Int32)), .val (.int g2), .val (.int g3), .val (.ref b255), .val (.ref b262), .val (.ref b274), .val (.ref b291), .val (.ref b313), .val (.ref b340), .unset, .unset, .unset, .unset, .unset, .unset, .unset] [(.ref b372), (.ref b372)]))
      refine Goes.step (fun _ k => XS.iload X372.here hx rfl (hb hby at_108) rfl  k) ?_
      show Goes _ _ _ _ _ _ _ (T372.setTop (mkF m 110 #[.val (.int p0), .val (.int p1), .val (.int p2), .val (.int p3), .val (.int p4), .val (.int (2 : Int32)), .val (.int g2), .val (.int g3), .val (.ref b255), .val (.ref b262), .val (.ref b274), .val (.ref b291), .val (.ref b313), .val (.ref b340), .unset, .unset, .unset, .unset, .unset, .unset, .unset] [(.int (2 : Int32)), (.ref b372), (.ref b372)]))
      obtain ⟨_, _, ⟨T392, L392, k392, n392⟩, -, X392, ⟨Lc392, hQ392, l392, y392, z392⟩, st392⟩ := X372.specialBack hx (y := (⟨"com/example/nehaba/nehaba/input/KeptValues", "<init>", "(I)V"⟩ : MethodName)) rfl hown (mvT hZ (hw _ (List.mem_of_getElem? (i := 4) rfl))) (mvT hZ (hw _ (List.mem_of_getElem? (i := 5) rfl))) (mvT hZ (hw _ (List.mem_of_getElem? (i := 6) rfl))) (by decide) (backOf (W := 1) (rm1_2 l Z a0 hw [] b372 h372 n0 Z391 F_most_b372 F_keys_b372 F_hashes_b372 F_values_b372 F_shift_b372 F_size_b372 E_b372 g_b372) hZ (hw _ (List.mem_of_getElem? (i := 6) rfl)) (hw _ (List.mem_of_getElem? (i := 3) rfl)) (by decide) (by decide)) (g := (mkF m 110 #[.val (.int p0), .val (.int p1), .val (.int p2), .val (.int p3), .val (.int p4), .val (.int (2 : Int32)), .val (.int g2), .val (.int g3), .val (.ref b255), .val (.ref b262), .val (.ref b274), .val (.ref b291), .val (.ref b313), .val (.ref b340), .unset, .unset, .unset, .unset, .unset, .unset, .unset] [(.int (2 : Int32)), (.ref b372), (.ref b372)])) rfl (by rw [hml]; rfl) (Steps.refl _) (a := b372) (argsL := [(.int (2 : Int32))]) (rest := [(.ref b372)]) (lenOf pd_0 rfl) rfl (by show 2 * 0 + _ ≤ _; exact Nat.le_of_eq rfl) (hb hby at_110) (fun _ _ => ⟨rfl, e372, (by decide : 7 + 3 ≤ _), (by decide : 12 + 12 ≤ _)⟩)
      dsimp only [Pt.U, Pt.locs, Pt.cells, Pt.slots] at X392 l392 y392 z392 st392 hQ392
      subst l392 y392 z392
      obtain ⟨N392, KK392, hR392⟩ := hQ392
      have NA392 := Fr.app N371 N392
      have f393 := f379.keep KK392
      have f394 := f380.keep KK392 (ninS ne373 nin0)
      have f395 := f381.keep KK392
      have f396 := f382.keep KK392 (ninS ne374 nin0)
      have f397 := f383.keep KK392
      have f398 := f384.keep KK392 (ninS ne375 nin0)
      have f399 := f385.keep KK392
      have f400 := f386.keep KK392 (ninS ne376 nin0)
      have f401 := f387.keep KK392
      have f402 := f388.keep KK392 (ninS ne377 nin0)
      have f403 := f389.keep KK392
      have f404 := f390.keep KK392 (ninS ne378 nin0)
      have f405 := E_b372.keep KK392
      have K412 : Keep h0 T392.heap [] := K391.trans KK392 (allS (Or.inr sz_b372) all0)
      have Z412 : n0 ≤ T392.heap.size := Nat.le_trans Z391 KK392.1
      obtain ⟨r392_0_0, r392_0_1, r392_0_2, kk392_0_0, kk392_0_1, kk392_0_2, rfl, g_r392_0_0, le_r392_0_0, g_r392_0_1, le_r392_0_1, g_r392_0_2, le_r392_0_2, nn392_0_0, nn392_0_1, nn392_0_2, v392_0_0, v392_0_1, v392_0_2, v392_0_3, v392_0_4, v392_0_5, v392_0_6, v392_0_7, v392_0_8, v392_0_9, oo392_0_0, oo392_0_1⟩ := hR392
      have ne413 : b255 ≠ r392_0_0 := Nat.ne_of_lt (Nat.lt_of_lt_of_le f379.lt le_r392_0_0)
      have ne414 : b262 ≠ r392_0_0 := Nat.ne_of_lt (Nat.lt_of_lt_of_le f381.lt le_r392_0_0)
      have ne415 : b274 ≠ r392_0_0 := Nat.ne_of_lt (Nat.lt_of_lt_of_le f383.lt le_r392_0_0)
      have ne416 : b291 ≠ r392_0_0 := Nat.ne_of_lt (Nat.lt_of_lt_of_le f385.lt le_r392_0_0)
      have ne417 : b313 ≠ r392_0_0 := Nat.ne_of_lt (Nat.lt_of_lt_of_le f387.lt le_r392_0_0)
      have ne418 : b340 ≠ r392_0_0 := Nat.ne_of_lt (Nat.lt_of_lt_of_le f389.lt le_r392_0_0)
      have ne419 : b372 ≠ r392_0_0 := Nat.ne_of_lt (Nat.lt_of_lt_of_le E_b372.lt le_r392_0_0)
      have sz_r392_0_0 : h0.size ≤ r392_0_0 := Nat.le_trans K391.1 le_r392_0_0
      have ne420 : b255 ≠ r392_0_1 := Nat.ne_of_lt (Nat.lt_of_lt_of_le f379.lt le_r392_0_1)
      have ne421 : b262 ≠ r392_0_1 := Nat.ne_of_lt (Nat.lt_of_lt_of_le f381.lt le_r392_0_1)
      have ne422 : b274 ≠ r392_0_1 := Nat.ne_of_lt (Nat.lt_of_lt_of_le f383.lt le_r392_0_1)
      have ne423 : b291 ≠ r392_0_1 := Nat.ne_of_lt (Nat.lt_of_lt_of_le f385.lt le_r392_0_1)
      have ne424 : b313 ≠ r392_0_1 := Nat.ne_of_lt (Nat.lt_of_lt_of_le f387.lt le_r392_0_1)
      have ne425 : b340 ≠ r392_0_1 := Nat.ne_of_lt (Nat.lt_of_lt_of_le f389.lt le_r392_0_1)
      have ne426 : b372 ≠ r392_0_1 := Nat.ne_of_lt (Nat.lt_of_lt_of_le E_b372.lt le_r392_0_1)
      have sz_r392_0_1 : h0.size ≤ r392_0_1 := Nat.le_trans K391.1 le_r392_0_1
      have ne427 : b255 ≠ r392_0_2 := Nat.ne_of_lt (Nat.lt_of_lt_of_le f379.lt le_r392_0_2)
      have ne428 : b262 ≠ r392_0_2 := Nat.ne_of_lt (Nat.lt_of_lt_of_le f381.lt le_r392_0_2)
      have ne429 : b274 ≠ r392_0_2 := Nat.ne_of_lt (Nat.lt_of_lt_of_le f383.lt le_r392_0_2)
      have ne430 : b291 ≠ r392_0_2 := Nat.ne_of_lt (Nat.lt_of_lt_of_le f385.lt le_r392_0_2)
      have ne431 : b313 ≠ r392_0_2 := Nat.ne_of_lt (Nat.lt_of_lt_of_le f387.lt le_r392_0_2)
      have ne432 : b340 ≠ r392_0_2 := Nat.ne_of_lt (Nat.lt_of_lt_of_le f389.lt le_r392_0_2)
      have ne433 : b372 ≠ r392_0_2 := Nat.ne_of_lt (Nat.lt_of_lt_of_le E_b372.lt le_r392_0_2)
      have sz_r392_0_2 : h0.size ≤ r392_0_2 := Nat.le_trans K391.1 le_r392_0_2
      refine Goes.back st392 ?_
      show Goes _ _ _ _ _ _ _ (T392.setTop (mkF m 113 #[.val (.int p0), .val (.int p1), .val (.int p2), .val (.int p3), .val (.int p4), .val (.int (2 : Int32)), .val (.int g2), .val (.int g3), .val (.ref b255), .val (.ref b262), .val (.ref b274), .val (.ref b291), .val (.ref b313), .val (.ref b340), .unset, .unset, .unset, .unset, .unset, .unset, .unset] [(.ref b372)]))
      have hN8 : 4 = 2 ∨ 4 = 4 ∨ 4 = 8 := (Or.inr (Or.inl rfl))
      have hS8 : (4 = 2 ∧ (30 : Int32) = 31) ∨ (4 = 4 ∧ (30 : Int32) = 30) ∨ (4 = 8 ∧ (30 : Int32) = 29) := (Or.inr (Or.inl ⟨rfl, rfl⟩))
      obtain ⟨f1, hf1⟩ : ∃ z : Fin 4, z.val = (own_f p1 (30 : Int32)).toNatClampNeg := ⟨⟨_, (own_first (N := 4) p1 hS8).2⟩, rfl⟩
      obtain ⟨f2, hf2⟩ : ∃ z : Fin 4, z.val = (own_f g2 (30 : Int32)).toNatClampNeg := ⟨⟨_, (own_first (N := 4) g2 hS8).2⟩, rfl⟩
      obtain ⟨f3, hf3⟩ : ∃ z : Fin 4, z.val = (own_f g3 (30 : Int32)).toNatClampNeg := ⟨⟨_, (own_first (N := 4) g3 hS8).2⟩, rfl⟩
      have ea : decide (p1 = g2) = true → f1 = f2 := fun z => Fin.ext (by rw [hf1, hf2, of_decide_eq_true z])
      have eb : decide (p1 = g3) = true → f1 = f3 := fun z => Fin.ext (by rw [hf1, hf3, of_decide_eq_true z])
      have ec : decide (g2 = g3) = true → f2 = f3 := fun z => Fin.ext (by rw [hf2, hf3, of_decide_eq_true z])
      have eab : decide (p1 = g2) = true → decide (p1 = g3) = decide (g2 = g3) := fun z => by rw [of_decide_eq_true z]
      have eba : decide (p1 = g3) = true → decide (p1 = g2) = decide (g2 = g3) := fun z => by rw [of_decide_eq_true z]; simp only [eq_comm]
      obtain ⟨⟨q2, pr2⟩, fd1, fd2, fd3⟩ := own_one4 f1 f2 f3 (decide (p1 = g2)) (decide (p1 = g3)) (decide (g2 = g3)) ec eb
      show Goes _ _ _ _ _ _ _ (T392.setTop (mkF m 113 #[.val (.int p0), .val (.int p1), .val (.int p2), .val (.int p3), .val (.int p4), .val (.int (2 : Int32)), .val (.int g2), .val (.int g3), .val (.ref b255), .val (.ref b262), .val (.ref b274), .val (.ref b291), .val (.ref b313), .val (.ref b340), .unset, .unset, .unset, .unset, .unset, .unset, .unset] [(.ref b372)]))
      refine Goes.step (fun _ k => XS.astore X392.here hx rfl (hb hby at_113) rfl rfl (l' := #[.val (.int p0), .val (.int p1), .val (.int p2), .val (.int p3), .val (.int p4), .val (.int (2 : Int32)), .val (.int g2), .val (.int g3), .val (.ref b255), .val (.ref b262), .val (.ref b274), .val (.ref b291), .val (.ref b313), .val (.ref b340), .val (.ref b372), .unset, .unset, .unset, .unset, .unset, .unset]) rfl k) ?_
      show Goes _ _ _ _ _ _ _ (T392.setTop (mkF m 115 #[.val (.int p0), .val (.int p1), .val (.int p2), .val (.int p3), .val (.int p4), .val (.int (2 : Int32)), .val (.int g2), .val (.int g3), .val (.ref b255), .val (.ref b262), .val (.ref b274), .val (.ref b291), .val (.ref b313), .val (.ref b340), .val (.ref b372), .unset, .unset, .unset, .unset, .unset, .unset] []))
      refine Goes.step (fun _ k => XS.aload X392.here hx rfl (hb hby at_115) rfl rfl k) ?_
      show Goes _ _ _ _ _ _ _ (T392.setTop (mkF m 117 #[.val (.int p0), .val (.int p1), .val (.int p2), .val (.int p3), .val (.int p4), .val (.int (2 : Int32)), .val (.int g2), .val (.int g3), .val (.ref b255), .val (.ref b262), .val (.ref b274), .val (.ref b291), .val (.ref b313), .val (.ref b340), .val (.ref b372), .unset, .unset, .unset, .unset, .unset, .unset] [(.ref b372)]))
      refine Goes.step (fun _ k => XS.iloadN X392.here hx rfl (hb hby at_117) rfl  k) ?_
      show Goes _ _ _ _ _ _ _ (T392.setTop (mkF m 118 #[.val (.int p0), .val (.int p1), .val (.int p2), .val (.int p3), .val (.int p4), .val (.int (2 : Int32)), .val (.int g2), .val (.int g3), .val (.ref b255), .val (.ref b262), .val (.ref b274), .val (.ref b291), .val (.ref b313), .val (.ref b340), .val (.ref b372), .unset, .unset, .unset, .unset, .unset, .unset] [(.int p1), (.ref b372)]))
      refine Goes.step (fun _ k => XS.aload X392.here hx rfl (hb hby at_118) rfl rfl k) ?_
      show Goes _ _ _ _ _ _ _ (T392.setTop (mkF m 120 #[.val (.int p0), .val (.int p1), .val (.int p2), .val (.int p3), .val (.int p4), .val (.int (2 : Int32)), .val (.int g2), .val (.int g3), .val (.ref b255), .val (.ref b262), .val (.ref b274), .val (.ref b291), .val (.ref b313), .val (.ref b340), .val (.ref b372), .unset, .unset, .unset, .unset, .unset, .unset] [(.ref b255), (.int p1), (.ref b372)]))
      refine Goes.step (fun _ k => XS.aload X392.here hx rfl (hb hby at_120) rfl rfl k) ?_
      show Goes _ _ _ _ _ _ _ (T392.setTop (mkF m 122 #[.val (.int p0), .val (.int p1), .val (.int p2), .val (.int p3), .val (.int p4), .val (.int (2 : Int32)), .val (.int g2), .val (.int g3), .val (.ref b255), .val (.ref b262), .val (.ref b274), .val (.ref b291), .val (.ref b313), .val (.ref b340), .val (.ref b372), .unset, .unset, .unset, .unset, .unset, .unset] [(.ref b291), (.ref b255), (.int p1), (.ref b372)]))
      obtain ⟨cq434, kq434, q434a, q434b, q434c⟩ := isOf hZ rfl v392_0_6
      obtain ⟨_, _, ⟨T434, L434, k434, n434⟩, -, X434, ⟨Lc434, hQ434, l434, y434, z434⟩, st434⟩ := X392.virtualBack hx (y := (⟨"com/example/nehaba/nehaba/input/KeptValues", "put", "(ILjava/lang/Object;Ljava/lang/Object;)Ljava/lang/Object;"⟩ : MethodName)) (z := (⟨"com/example/nehaba/nehaba/input/KeptValues", "put", "(ILjava/lang/Object;Ljava/lang/Object;)Ljava/lang/Object;"⟩ : MethodName)) hown (mvT hZ (hw _ (List.mem_of_getElem? (i := 33) rfl))) (mvT hZ (hw _ (List.mem_of_getElem? (i := 34) rfl))) (notFace_of_selects (args := #[]) (mvT hZ (hw _ (List.mem_of_getElem? (i := 36) rfl)))) (mvT hZ (hw _ (List.mem_of_getElem? (i := 36) rfl))) (mvT hZ (hw _ (List.mem_of_getElem? (i := 35) rfl))) (by decide) (backOf (W := 0) (rm5_n l Z a0 hw [] b372 p1 b255 b291 r392_0_0 r392_0_1 r392_0_2 kk392_0_0 kk392_0_1 kk392_0_2 4 own_t0 (fun _ => (0 : Int32)) (own_K b255 b262 b274) (own_K b291 b313 b340) (30 : Int32) (2 : Int32) (0 : Int32) 0 9 f1.val T392.heap n0 Z412 v392_0_6 v392_0_1 v392_0_2 v392_0_3 v392_0_0 v392_0_5 v392_0_4 v392_0_7 v392_0_8 v392_0_9 oo392_0_0 oo392_0_1 (Ins.of_exa f393 (hw _ (List.mem_of_getElem? (i := 45) rfl))) (Ins.of_exa f399 (hw _ (List.mem_of_getElem? (i := 45) rfl))) rfl rfl g_b372 g_r392_0_0 g_r392_0_1 g_r392_0_2 (Ne.symm ne419) (Ne.symm ne426) nn392_0_0 (Ne.symm ne433) nn392_0_1 nn392_0_2 (by decide) hN8 hS8 (by rw [← hf1]; exact own_probe0 _ _)) hZ (hw _ (List.mem_of_getElem? (i := 37) rfl)) (hw _ (List.mem_of_getElem? (i := 3) rfl)) (by decide) (by decide)) q434a q434c (g := (mkF m 122 #[.val (.int p0), .val (.int p1), .val (.int p2), .val (.int p3), .val (.int p4), .val (.int (2 : Int32)), .val (.int g2), .val (.int g3), .val (.ref b255), .val (.ref b262), .val (.ref b274), .val (.ref b291), .val (.ref b313), .val (.ref b340), .val (.ref b372), .unset, .unset, .unset, .unset, .unset, .unset] [(.ref b291), (.ref b255), (.int p1), (.ref b372)])) rfl (by rw [hml]; rfl) (Steps.refl _) (argsL := [(.int p1), (.ref b255), (.ref b291)]) (rest := []) (lenOf pd_3 rfl) rfl (by show 2 * 0 + _ ≤ _; exact Nat.le_of_eq rfl) (hb hby at_122) (fun _ _ => ⟨rfl, rfl, (by decide : 10 + 0 ≤ _), (by decide : 24 + 0 ≤ _)⟩)
      dsimp only [Pt.U, Pt.locs, Pt.cells, Pt.slots] at X434 l434 y434 z434 st434 hQ434
      subst l434 y434 z434
      obtain ⟨N434, KK434, rfl, pf434_0, pf434_1, pf434_2, pf434_3, pf434_4, pf434_5, pf434_6, pf434_7, pf434_8, pf434_9⟩ := hQ434
      have NA434 := Fr.app NA392 N434
      have f435 := f393.keep KK434
      have f436 := f394.keep KK434 (ninS ne373 (ninS ne413 (ninS ne420 (ninS ne427 nin0))))
      have f437 := f395.keep KK434
      have f438 := f396.keep KK434 (ninS ne374 (ninS ne414 (ninS ne421 (ninS ne428 nin0))))
      have f439 := f397.keep KK434
      have f440 := f398.keep KK434 (ninS ne375 (ninS ne415 (ninS ne422 (ninS ne429 nin0))))
      have f441 := f399.keep KK434
      have f442 := f400.keep KK434 (ninS ne376 (ninS ne416 (ninS ne423 (ninS ne430 nin0))))
      have f443 := f401.keep KK434
      have f444 := f402.keep KK434 (ninS ne377 (ninS ne417 (ninS ne424 (ninS ne431 nin0))))
      have f445 := f403.keep KK434
      have f446 := f404.keep KK434 (ninS ne378 (ninS ne418 (ninS ne425 (ninS ne432 nin0))))
      have f447 := v392_0_6.keep KK434
      have K457 : Keep h0 T434.heap [] := K412.trans KK434 (allS (Or.inr sz_b372) (allS (Or.inr sz_r392_0_0) (allS (Or.inr sz_r392_0_1) (allS (Or.inr sz_r392_0_2) all0))))
      have Z457 : n0 ≤ T434.heap.size := Nat.le_trans Z412 KK434.1
      refine Goes.back st434 ?_
      show Goes _ _ _ _ _ _ _ (T434.setTop (mkF m 125 #[.val (.int p0), .val (.int p1), .val (.int p2), .val (.int p3), .val (.int p4), .val (.int (2 : Int32)), .val (.int g2), .val (.int g3), .val (.ref b255), .val (.ref b262), .val (.ref b274), .val (.ref b291), .val (.ref b313), .val (.ref b340), .val (.ref b372), .unset, .unset, .unset, .unset, .unset, .unset] [(.ref b291)]))
      refine Goes.step (fun _ k => XS.astore X434.here hx rfl (hb hby at_125) rfl rfl (l' := #[.val (.int p0), .val (.int p1), .val (.int p2), .val (.int p3), .val (.int p4), .val (.int (2 : Int32)), .val (.int g2), .val (.int g3), .val (.ref b255), .val (.ref b262), .val (.ref b274), .val (.ref b291), .val (.ref b313), .val (.ref b340), .val (.ref b372), .val (.ref b291), .unset, .unset, .unset, .unset, .unset]) rfl k) ?_
      show Goes _ _ _ _ _ _ _ (T434.setTop (mkF m 127 #[.val (.int p0), .val (.int p1), .val (.int p2), .val (.int p3), .val (.int p4), .val (.int (2 : Int32)), .val (.int g2), .val (.int g3), .val (.ref b255), .val (.ref b262), .val (.ref b274), .val (.ref b291), .val (.ref b313), .val (.ref b340), .val (.ref b372), .val (.ref b291), .unset, .unset, .unset, .unset, .unset] []))
      refine Goes.step (fun _ k => XS.aload X434.here hx rfl (hb hby at_127) rfl rfl k) ?_
      show Goes _ _ _ _ _ _ _ (T434.setTop (mkF m 129 #[.val (.int p0), .val (.int p1), .val (.int p2), .val (.int p3), .val (.int p4), .val (.int (2 : Int32)), .val (.int g2), .val (.int g3), .val (.ref b255), .val (.ref b262), .val (.ref b274), .val (.ref b291), .val (.ref b313), .val (.ref b340), .val (.ref b372), .val (.ref b291), .unset, .unset, .unset, .unset, .unset] [(.ref b372)]))
      refine Goes.step (fun _ k => XS.iload X434.here hx rfl (hb hby at_129) rfl  k) ?_
      show Goes _ _ _ _ _ _ _ (T434.setTop (mkF m 131 #[.val (.int p0), .val (.int p1), .val (.int p2), .val (.int p3), .val (.int p4), .val (.int (2 : Int32)), .val (.int g2), .val (.int g3), .val (.ref b255), .val (.ref b262), .val (.ref b274), .val (.ref b291), .val (.ref b313), .val (.ref b340), .val (.ref b372), .val (.ref b291), .unset, .unset, .unset, .unset, .unset] [(.int g2), (.ref b372)]))
      refine Goes.step (fun _ k => XS.aload X434.here hx rfl (hb hby at_131) rfl rfl k) ?_
      show Goes _ _ _ _ _ _ _ (T434.setTop (mkF m 133 #[.val (.int p0), .val (.int p1), .val (.int p2), .val (.int p3), .val (.int p4), .val (.int (2 : Int32)), .val (.int g2), .val (.int g3), .val (.ref b255), .val (.ref b262), .val (.ref b274), .val (.ref b291), .val (.ref b313), .val (.ref b340), .val (.ref b372), .val (.ref b291), .unset, .unset, .unset, .unset, .unset] [(.ref b262), (.int g2), (.ref b372)]))
      refine Goes.step (fun _ k => XS.aload X434.here hx rfl (hb hby at_133) rfl rfl k) ?_
      show Goes _ _ _ _ _ _ _ (T434.setTop (mkF m 135 #[.val (.int p0), .val (.int p1), .val (.int p2), .val (.int p3), .val (.int p4), .val (.int (2 : Int32)), .val (.int g2), .val (.int g3), .val (.ref b255), .val (.ref b262), .val (.ref b274), .val (.ref b291), .val (.ref b313), .val (.ref b340), .val (.ref b372), .val (.ref b291), .unset, .unset, .unset, .unset, .unset] [(.ref b313), (.ref b262), (.int g2), (.ref b372)]))
      obtain ⟨cq458, kq458, q458a, q458b, q458c⟩ := isOf hZ rfl pf434_0
      obtain ⟨_, _, ⟨T458, L458, k458, n458⟩, -, X458, ⟨Lc458, hQ458, l458, y458, z458⟩, st458⟩ := X434.virtualBack hx (y := (⟨"com/example/nehaba/nehaba/input/KeptValues", "put", "(ILjava/lang/Object;Ljava/lang/Object;)Ljava/lang/Object;"⟩ : MethodName)) (z := (⟨"com/example/nehaba/nehaba/input/KeptValues", "put", "(ILjava/lang/Object;Ljava/lang/Object;)Ljava/lang/Object;"⟩ : MethodName)) hown (mvT hZ (hw _ (List.mem_of_getElem? (i := 33) rfl))) (mvT hZ (hw _ (List.mem_of_getElem? (i := 34) rfl))) (notFace_of_selects (args := #[]) (mvT hZ (hw _ (List.mem_of_getElem? (i := 36) rfl)))) (mvT hZ (hw _ (List.mem_of_getElem? (i := 36) rfl))) (mvT hZ (hw _ (List.mem_of_getElem? (i := 35) rfl))) (by decide) (backOf (W := 0) (rm5_n l Z a0 hw [] b372 g2 b262 b313 r392_0_0 r392_0_1 r392_0_2 kk392_0_0 kk392_0_1 kk392_0_2 4 (own_put own_t0 f1.val 0) (own_hp (fun _ => (0 : Int32)) f1.val p1) (own_K b255 b262 b274) (own_K b291 b313 b340) (30 : Int32) (2 : Int32) (1 : Int32) 1 9 q2.val T434.heap n0 Z457 pf434_0 pf434_1 pf434_2 pf434_3 pf434_4 pf434_5 pf434_6 pf434_7 pf434_8 pf434_9 oo392_0_0 oo392_0_1 (Ins.of_exa f437 (hw _ (List.mem_of_getElem? (i := 45) rfl))) (Ins.of_exa f443 (hw _ (List.mem_of_getElem? (i := 45) rfl))) rfl rfl g_b372 g_r392_0_0 g_r392_0_1 g_r392_0_2 (Ne.symm ne419) (Ne.symm ne426) nn392_0_0 (Ne.symm ne433) nn392_0_1 nn392_0_2 (by decide) hN8 hS8 (by rw [← hf2]; exact pr2)) hZ (hw _ (List.mem_of_getElem? (i := 37) rfl)) (hw _ (List.mem_of_getElem? (i := 3) rfl)) (by decide) (by decide)) q458a q458c (g := (mkF m 135 #[.val (.int p0), .val (.int p1), .val (.int p2), .val (.int p3), .val (.int p4), .val (.int (2 : Int32)), .val (.int g2), .val (.int g3), .val (.ref b255), .val (.ref b262), .val (.ref b274), .val (.ref b291), .val (.ref b313), .val (.ref b340), .val (.ref b372), .val (.ref b291), .unset, .unset, .unset, .unset, .unset] [(.ref b313), (.ref b262), (.int g2), (.ref b372)])) rfl (by rw [hml]; rfl) (Steps.refl _) (argsL := [(.int g2), (.ref b262), (.ref b313)]) (rest := []) (lenOf pd_3 rfl) rfl (by show 2 * 0 + _ ≤ _; exact Nat.le_of_eq rfl) (hb hby at_135) (fun _ _ => ⟨rfl, rfl, (by decide : 10 + 0 ≤ _), (by decide : 24 + 0 ≤ _)⟩)
      dsimp only [Pt.U, Pt.locs, Pt.cells, Pt.slots] at X458 l458 y458 z458 st458 hQ458
      subst l458 y458 z458
      obtain ⟨N458, KK458, rfl, pf458_0, pf458_1, pf458_2, pf458_3, pf458_4, pf458_5, pf458_6, pf458_7, pf458_8, pf458_9⟩ := hQ458
      have NA458 := Fr.app NA434 N458
      have f459 := f435.keep KK458
      have f460 := f436.keep KK458 (ninS ne373 (ninS ne413 (ninS ne420 (ninS ne427 nin0))))
      have f461 := f437.keep KK458
      have f462 := f438.keep KK458 (ninS ne374 (ninS ne414 (ninS ne421 (ninS ne428 nin0))))
      have f463 := f439.keep KK458
      have f464 := f440.keep KK458 (ninS ne375 (ninS ne415 (ninS ne422 (ninS ne429 nin0))))
      have f465 := f441.keep KK458
      have f466 := f442.keep KK458 (ninS ne376 (ninS ne416 (ninS ne423 (ninS ne430 nin0))))
      have f467 := f443.keep KK458
      have f468 := f444.keep KK458 (ninS ne377 (ninS ne417 (ninS ne424 (ninS ne431 nin0))))
      have f469 := f445.keep KK458
      have f470 := f446.keep KK458 (ninS ne378 (ninS ne418 (ninS ne425 (ninS ne432 nin0))))
      have f471 := pf434_0.keep KK458
      have K481 : Keep h0 T458.heap [] := K457.trans KK458 (allS (Or.inr sz_b372) (allS (Or.inr sz_r392_0_0) (allS (Or.inr sz_r392_0_1) (allS (Or.inr sz_r392_0_2) all0))))
      have Z481 : n0 ≤ T458.heap.size := Nat.le_trans Z457 KK458.1
      refine Goes.back st458 ?_
      show Goes _ _ _ _ _ _ _ (T458.setTop (mkF m 138 #[.val (.int p0), .val (.int p1), .val (.int p2), .val (.int p3), .val (.int p4), .val (.int (2 : Int32)), .val (.int g2), .val (.int g3), .val (.ref b255), .val (.ref b262), .val (.ref b274), .val (.ref b291), .val (.ref b313), .val (.ref b340), .val (.ref b372), .val (.ref b291), .unset, .unset, .unset, .unset, .unset] [(.ref b313)]))
      refine Goes.step (fun _ k => XS.astore X458.here hx rfl (hb hby at_138) rfl rfl (l' := #[.val (.int p0), .val (.int p1), .val (.int p2), .val (.int p3), .val (.int p4), .val (.int (2 : Int32)), .val (.int g2), .val (.int g3), .val (.ref b255), .val (.ref b262), .val (.ref b274), .val (.ref b291), .val (.ref b313), .val (.ref b340), .val (.ref b372), .val (.ref b291), .val (.ref b313), .unset, .unset, .unset, .unset]) rfl k) ?_
      show Goes _ _ _ _ _ _ _ (T458.setTop (mkF m 140 #[.val (.int p0), .val (.int p1), .val (.int p2), .val (.int p3), .val (.int p4), .val (.int (2 : Int32)), .val (.int g2), .val (.int g3), .val (.ref b255), .val (.ref b262), .val (.ref b274), .val (.ref b291), .val (.ref b313), .val (.ref b340), .val (.ref b372), .val (.ref b291), .val (.ref b313), .unset, .unset, .unset, .unset] []))
      refine Goes.step (fun _ k => XS.aload X458.here hx rfl (hb hby at_140) rfl rfl k) ?_
      show Goes _ _ _ _ _ _ _ (T458.setTop (mkF m 142 #[.val (.int p0), .val (.int p1), .val (.int p2), .val (.int p3), .val (.int p4), .val (.int (2 : Int32)), .val (.int g2), .val (.int g3), .val (.ref b255), .val (.ref b262), .val (.ref b274), .val (.ref b291), .val (.ref b313), .val (.ref b340), .val (.ref b372), .val (.ref b291), .val (.ref b313), .unset, .unset, .unset, .unset] [(.ref b372)]))
      refine Goes.step (fun _ k => XS.iload X458.here hx rfl (hb hby at_142) rfl  k) ?_
      show Goes _ _ _ _ _ _ _ (T458.setTop (mkF m 144 #[.val (.int p0), .val (.int p1), .val (.int p2), .val (.int p3), .val (.int p4), .val (.int (2 : Int32)), .val (.int g2), .val (.int g3), .val (.ref b255), .val (.ref b262), .val (.ref b274), .val (.ref b291), .val (.ref b313), .val (.ref b340), .val (.ref b372), .val (.ref b291), .val (.ref b313), .unset, .unset, .unset, .unset] [(.int g3), (.ref b372)]))
      refine Goes.step (fun _ k => XS.aload X458.here hx rfl (hb hby at_144) rfl rfl k) ?_
      show Goes _ _ _ _ _ _ _ (T458.setTop (mkF m 146 #[.val (.int p0), .val (.int p1), .val (.int p2), .val (.int p3), .val (.int p4), .val (.int (2 : Int32)), .val (.int g2), .val (.int g3), .val (.ref b255), .val (.ref b262), .val (.ref b274), .val (.ref b291), .val (.ref b313), .val (.ref b340), .val (.ref b372), .val (.ref b291), .val (.ref b313), .unset, .unset, .unset, .unset] [(.ref b274), (.int g3), (.ref b372)]))
      refine Goes.step (fun _ k => XS.aload X458.here hx rfl (hb hby at_146) rfl rfl k) ?_
      show Goes _ _ _ _ _ _ _ (T458.setTop (mkF m 148 #[.val (.int p0), .val (.int p1), .val (.int p2), .val (.int p3), .val (.int p4), .val (.int (2 : Int32)), .val (.int g2), .val (.int g3), .val (.ref b255), .val (.ref b262), .val (.ref b274), .val (.ref b291), .val (.ref b313), .val (.ref b340), .val (.ref b372), .val (.ref b291), .val (.ref b313), .unset, .unset, .unset, .unset] [(.ref b340), (.ref b274), (.int g3), (.ref b372)]))
      obtain ⟨cq482, kq482, q482a, q482b, q482c⟩ := isOf hZ rfl pf458_0
      obtain ⟨_, _, ⟨T482, L482, k482, n482⟩, -, X482, ⟨Lc482, hQ482, l482, y482, z482⟩, st482⟩ := X458.virtualBack hx (y := (⟨"com/example/nehaba/nehaba/input/KeptValues", "put", "(ILjava/lang/Object;Ljava/lang/Object;)Ljava/lang/Object;"⟩ : MethodName)) (z := (⟨"com/example/nehaba/nehaba/input/KeptValues", "put", "(ILjava/lang/Object;Ljava/lang/Object;)Ljava/lang/Object;"⟩ : MethodName)) hown (mvT hZ (hw _ (List.mem_of_getElem? (i := 33) rfl))) (mvT hZ (hw _ (List.mem_of_getElem? (i := 34) rfl))) (notFace_of_selects (args := #[]) (mvT hZ (hw _ (List.mem_of_getElem? (i := 36) rfl)))) (mvT hZ (hw _ (List.mem_of_getElem? (i := 36) rfl))) (mvT hZ (hw _ (List.mem_of_getElem? (i := 35) rfl))) (by decide) (backOf (W := 0) (rm5_f4 l Z a0 hw [] b372 g3 b274 b340 r392_0_0 r392_0_1 r392_0_2 kk392_0_0 kk392_0_1 kk392_0_2 (own_put (own_put own_t0 f1.val 0) q2.val 1) (own_hp (own_hp (fun _ => (0 : Int32)) f1.val p1) q2.val g2) (own_K b255 b262 b274) (own_K b291 b313 b340) (30 : Int32) (2 : Int32) (2 : Int32) 2 9 f3.val T458.heap n0 Z481 pf458_0 pf458_1 pf458_2 pf458_3 pf458_4 pf458_5 pf458_6 pf458_7 pf458_8 pf458_9 oo392_0_0 oo392_0_1 (Ins.of_exa f463 (hw _ (List.mem_of_getElem? (i := 45) rfl))) (Ins.of_exa f469 (hw _ (List.mem_of_getElem? (i := 45) rfl))) rfl rfl g_b372 g_r392_0_0 g_r392_0_1 g_r392_0_2 (Ne.symm ne419) (Ne.symm ne426) nn392_0_0 (Ne.symm ne433) nn392_0_1 nn392_0_2 rfl hS8 hf3.symm) hZ (hw _ (List.mem_of_getElem? (i := 37) rfl)) (hw _ (List.mem_of_getElem? (i := 3) rfl)) (by decide) (by decide)) q482a q482c (g := (mkF m 148 #[.val (.int p0), .val (.int p1), .val (.int p2), .val (.int p3), .val (.int p4), .val (.int (2 : Int32)), .val (.int g2), .val (.int g3), .val (.ref b255), .val (.ref b262), .val (.ref b274), .val (.ref b291), .val (.ref b313), .val (.ref b340), .val (.ref b372), .val (.ref b291), .val (.ref b313), .unset, .unset, .unset, .unset] [(.ref b340), (.ref b274), (.int g3), (.ref b372)])) rfl (by rw [hml]; rfl) (Steps.refl _) (argsL := [(.int g3), (.ref b274), (.ref b340)]) (rest := []) (lenOf pd_3 rfl) rfl (by show 2 * 0 + _ ≤ _; exact Nat.le_of_eq rfl) (hb hby at_148) (fun _ _ => ⟨rfl, rfl, (by decide : 10 + 0 ≤ _), (by decide : 24 + 0 ≤ _)⟩)
      dsimp only [Pt.U, Pt.locs, Pt.cells, Pt.slots] at X482 l482 y482 z482 st482 hQ482
      subst l482 y482 z482
      obtain ⟨N482, KK482, rfl, pf482_0, pf482_1, pf482_2, pf482_3, pf482_4, pf482_5, pf482_6, pf482_7, pf482_8, pf482_9⟩ := hQ482
      have NA482 := Fr.app NA458 N482
      have f483 := f459.keep KK482
      have f484 := f460.keep KK482 (ninS ne373 (ninS ne413 (ninS ne420 (ninS ne427 nin0))))
      have f485 := f461.keep KK482
      have f486 := f462.keep KK482 (ninS ne374 (ninS ne414 (ninS ne421 (ninS ne428 nin0))))
      have f487 := f463.keep KK482
      have f488 := f464.keep KK482 (ninS ne375 (ninS ne415 (ninS ne422 (ninS ne429 nin0))))
      have f489 := f465.keep KK482
      have f490 := f466.keep KK482 (ninS ne376 (ninS ne416 (ninS ne423 (ninS ne430 nin0))))
      have f491 := f467.keep KK482
      have f492 := f468.keep KK482 (ninS ne377 (ninS ne417 (ninS ne424 (ninS ne431 nin0))))
      have f493 := f469.keep KK482
      have f494 := f470.keep KK482 (ninS ne378 (ninS ne418 (ninS ne425 (ninS ne432 nin0))))
      have f495 := pf458_0.keep KK482
      have K505 : Keep h0 T482.heap [] := K481.trans KK482 (allS (Or.inr sz_b372) (allS (Or.inr sz_r392_0_0) (allS (Or.inr sz_r392_0_1) (allS (Or.inr sz_r392_0_2) all0))))
      have Z505 : n0 ≤ T482.heap.size := Nat.le_trans Z481 KK482.1
      refine Goes.back st482 ?_
      show Goes _ _ _ _ _ _ _ (T482.setTop (mkF m 151 #[.val (.int p0), .val (.int p1), .val (.int p2), .val (.int p3), .val (.int p4), .val (.int (2 : Int32)), .val (.int g2), .val (.int g3), .val (.ref b255), .val (.ref b262), .val (.ref b274), .val (.ref b291), .val (.ref b313), .val (.ref b340), .val (.ref b372), .val (.ref b291), .val (.ref b313), .unset, .unset, .unset, .unset] [(.ref b340)]))
      refine Goes.step (fun _ k => XS.astore X482.here hx rfl (hb hby at_151) rfl rfl (l' := #[.val (.int p0), .val (.int p1), .val (.int p2), .val (.int p3), .val (.int p4), .val (.int (2 : Int32)), .val (.int g2), .val (.int g3), .val (.ref b255), .val (.ref b262), .val (.ref b274), .val (.ref b291), .val (.ref b313), .val (.ref b340), .val (.ref b372), .val (.ref b291), .val (.ref b313), .val (.ref b340), .unset, .unset, .unset]) rfl k) ?_
      show Goes _ _ _ _ _ _ _ (T482.setTop (mkF m 153 #[.val (.int p0), .val (.int p1), .val (.int p2), .val (.int p3), .val (.int p4), .val (.int (2 : Int32)), .val (.int g2), .val (.int g3), .val (.ref b255), .val (.ref b262), .val (.ref b274), .val (.ref b291), .val (.ref b313), .val (.ref b340), .val (.ref b372), .val (.ref b291), .val (.ref b313), .val (.ref b340), .unset, .unset, .unset] []))
      refine Goes.step (fun _ k => XS.iload X482.here hx rfl (hb hby at_153) rfl  k) ?_
      show Goes _ _ _ _ _ _ _ (T482.setTop (mkF m 155 #[.val (.int p0), .val (.int p1), .val (.int p2), .val (.int p3), .val (.int p4), .val (.int (2 : Int32)), .val (.int g2), .val (.int g3), .val (.ref b255), .val (.ref b262), .val (.ref b274), .val (.ref b291), .val (.ref b313), .val (.ref b340), .val (.ref b372), .val (.ref b291), .val (.ref b313), .val (.ref b340), .unset, .unset, .unset] [(.int (2 : Int32))]))
      refine Goes.step (fun _ k => XS.iconst X482.here hx rfl (hb hby at_155) k) ?_
      show Goes _ _ _ _ _ _ _ (T482.setTop (mkF m 156 #[.val (.int p0), .val (.int p1), .val (.int p2), .val (.int p3), .val (.int p4), .val (.int (2 : Int32)), .val (.int g2), .val (.int g3), .val (.ref b255), .val (.ref b262), .val (.ref b274), .val (.ref b291), .val (.ref b313), .val (.ref b340), .val (.ref b372), .val (.ref b291), .val (.ref b313), .val (.ref b340), .unset, .unset, .unset] [(.int (3 : Int32)), (.int (2 : Int32))]))
      refine Goes.step (fun _ k => XS.icmpYes X482.here hx rfl (pc0 := 156) (pc' := 163) rfl (hb hby at_156) rfl (tlt (by decide : (2 : Int32) < (3 : Int32))).1 (by decide) (by decide) k) ?_
      show Goes _ _ _ _ _ _ _ (T482.setTop (mkF m 163 #[.val (.int p0), .val (.int p1), .val (.int p2), .val (.int p3), .val (.int p4), .val (.int (2 : Int32)), .val (.int g2), .val (.int g3), .val (.ref b255), .val (.ref b262), .val (.ref b274), .val (.ref b291), .val (.ref b313), .val (.ref b340), .val (.ref b372), .val (.ref b291), .val (.ref b313), .val (.ref b340), .unset, .unset, .unset] []))
      refine Goes.step (fun _ k => XS.iconst X482.here hx rfl (hb hby at_163) k) ?_
      show Goes _ _ _ _ _ _ _ (T482.setTop (mkF m 164 #[.val (.int p0), .val (.int p1), .val (.int p2), .val (.int p3), .val (.int p4), .val (.int (2 : Int32)), .val (.int g2), .val (.int g3), .val (.ref b255), .val (.ref b262), .val (.ref b274), .val (.ref b291), .val (.ref b313), .val (.ref b340), .val (.ref b372), .val (.ref b291), .val (.ref b313), .val (.ref b340), .unset, .unset, .unset] [(.int (0 : Int32))]))
      refine Goes.step (fun _ k => XS.istore X482.here hx rfl (hb hby at_164) rfl (l' := #[.val (.int p0), .val (.int p1), .val (.int p2), .val (.int p3), .val (.int p4), .val (.int (2 : Int32)), .val (.int g2), .val (.int g3), .val (.ref b255), .val (.ref b262), .val (.ref b274), .val (.ref b291), .val (.ref b313), .val (.ref b340), .val (.ref b372), .val (.ref b291), .val (.ref b313), .val (.ref b340), .val (.int (0 : Int32)), .unset, .unset]) rfl k) ?_
      show Goes _ _ _ _ _ _ _ (T482.setTop (mkF m 166 #[.val (.int p0), .val (.int p1), .val (.int p2), .val (.int p3), .val (.int p4), .val (.int (2 : Int32)), .val (.int g2), .val (.int g3), .val (.ref b255), .val (.ref b262), .val (.ref b274), .val (.ref b291), .val (.ref b313), .val (.ref b340), .val (.ref b372), .val (.ref b291), .val (.ref b313), .val (.ref b340), .val (.int (0 : Int32)), .unset, .unset] []))
      refine Goes.step (fun _ k => XS.iload X482.here hx rfl (hb hby at_166) rfl  k) ?_
      show Goes _ _ _ _ _ _ _ (T482.setTop (mkF m 168 #[.val (.int p0), .val (.int p1), .val (.int p2), .val (.int p3), .val (.int p4), .val (.int (2 : Int32)), .val (.int g2), .val (.int g3), .val (.ref b255), .val (.ref b262), .val (.ref b274), .val (.ref b291), .val (.ref b313), .val (.ref b340), .val (.ref b372), .val (.ref b291), .val (.ref b313), .val (.ref b340), .val (.int (0 : Int32)), .unset, .unset] [(.int (0 : Int32))]))
      refine Goes.step (fun _ k => XS.ifYes X482.here hx rfl (pc0 := 168) (pc' := 176) rfl (hb hby at_168) rfl ((if0 _ _).trans (teq (by decide : (0 : Int32) = (0 : Int32))).1) (by decide) (by decide) k) ?_
      show Goes _ _ _ _ _ _ _ (T482.setTop (mkF m 176 #[.val (.int p0), .val (.int p1), .val (.int p2), .val (.int p3), .val (.int p4), .val (.int (2 : Int32)), .val (.int g2), .val (.int g3), .val (.ref b255), .val (.ref b262), .val (.ref b274), .val (.ref b291), .val (.ref b313), .val (.ref b340), .val (.ref b372), .val (.ref b291), .val (.ref b313), .val (.ref b340), .val (.int (0 : Int32)), .unset, .unset] []))
      refine Goes.step (fun _ k => XS.aconstNull X482.here hx rfl (hb hby at_176) k) ?_
      show Goes _ _ _ _ _ _ _ (T482.setTop (mkF m 177 #[.val (.int p0), .val (.int p1), .val (.int p2), .val (.int p3), .val (.int p4), .val (.int (2 : Int32)), .val (.int g2), .val (.int g3), .val (.ref b255), .val (.ref b262), .val (.ref b274), .val (.ref b291), .val (.ref b313), .val (.ref b340), .val (.ref b372), .val (.ref b291), .val (.ref b313), .val (.ref b340), .val (.int (0 : Int32)), .unset, .unset] [.null]))
      refine Goes.step (fun _ k => XS.astore X482.here hx rfl (hb hby at_177) rfl rfl (l' := #[.val (.int p0), .val (.int p1), .val (.int p2), .val (.int p3), .val (.int p4), .val (.int (2 : Int32)), .val (.int g2), .val (.int g3), .val (.ref b255), .val (.ref b262), .val (.ref b274), .val (.ref b291), .val (.ref b313), .val (.ref b340), .val (.ref b372), .val (.ref b291), .val (.ref b313), .val (.ref b340), .val (.int (0 : Int32)), .val .null, .unset]) rfl k) ?_
      show Goes _ _ _ _ _ _ _ (T482.setTop (mkF m 179 #[.val (.int p0), .val (.int p1), .val (.int p2), .val (.int p3), .val (.int p4), .val (.int (2 : Int32)), .val (.int g2), .val (.int g3), .val (.ref b255), .val (.ref b262), .val (.ref b274), .val (.ref b291), .val (.ref b313), .val (.ref b340), .val (.ref b372), .val (.ref b291), .val (.ref b313), .val (.ref b340), .val (.int (0 : Int32)), .val .null, .unset] []))
      refine Goes.step (fun _ k => XS.iload X482.here hx rfl (hb hby at_179) rfl  k) ?_
      show Goes _ _ _ _ _ _ _ (T482.setTop (mkF m 181 #[.val (.int p0), .val (.int p1), .val (.int p2), .val (.int p3), .val (.int p4), .val (.int (2 : Int32)), .val (.int g2), .val (.int g3), .val (.ref b255), .val (.ref b262), .val (.ref b274), .val (.ref b291), .val (.ref b313), .val (.ref b340), .val (.ref b372), .val (.ref b291), .val (.ref b313), .val (.ref b340), .val (.int (0 : Int32)), .val .null, .unset] [(.int (0 : Int32))]))
      refine Goes.step (fun _ k => XS.ifYes X482.here hx rfl (pc0 := 181) (pc' := 189) rfl (hb hby at_181) rfl ((if0 _ _).trans (teq (by decide : (0 : Int32) = (0 : Int32))).1) (by decide) (by decide) k) ?_
      show Goes _ _ _ _ _ _ _ (T482.setTop (mkF m 189 #[.val (.int p0), .val (.int p1), .val (.int p2), .val (.int p3), .val (.int p4), .val (.int (2 : Int32)), .val (.int g2), .val (.int g3), .val (.ref b255), .val (.ref b262), .val (.ref b274), .val (.ref b291), .val (.ref b313), .val (.ref b340), .val (.ref b372), .val (.ref b291), .val (.ref b313), .val (.ref b340), .val (.int (0 : Int32)), .val .null, .unset] []))
      refine Goes.step (fun _ k => XS.aconstNull X482.here hx rfl (hb hby at_189) k) ?_
      show Goes _ _ _ _ _ _ _ (T482.setTop (mkF m 190 #[.val (.int p0), .val (.int p1), .val (.int p2), .val (.int p3), .val (.int p4), .val (.int (2 : Int32)), .val (.int g2), .val (.int g3), .val (.ref b255), .val (.ref b262), .val (.ref b274), .val (.ref b291), .val (.ref b313), .val (.ref b340), .val (.ref b372), .val (.ref b291), .val (.ref b313), .val (.ref b340), .val (.int (0 : Int32)), .val .null, .unset] [.null]))
      refine Goes.step (fun _ k => XS.astore X482.here hx rfl (hb hby at_190) rfl rfl (l' := #[.val (.int p0), .val (.int p1), .val (.int p2), .val (.int p3), .val (.int p4), .val (.int (2 : Int32)), .val (.int g2), .val (.int g3), .val (.ref b255), .val (.ref b262), .val (.ref b274), .val (.ref b291), .val (.ref b313), .val (.ref b340), .val (.ref b372), .val (.ref b291), .val (.ref b313), .val (.ref b340), .val (.int (0 : Int32)), .val .null, .val .null]) rfl k) ?_
      show Goes _ _ _ _ _ _ _ (T482.setTop (mkF m 192 #[.val (.int p0), .val (.int p1), .val (.int p2), .val (.int p3), .val (.int p4), .val (.int (2 : Int32)), .val (.int g2), .val (.int g3), .val (.ref b255), .val (.ref b262), .val (.ref b274), .val (.ref b291), .val (.ref b313), .val (.ref b340), .val (.ref b372), .val (.ref b291), .val (.ref b313), .val (.ref b340), .val (.int (0 : Int32)), .val .null, .val .null] []))
      refine Goes.step (fun _ k => XS.aload X482.here hx rfl (hb hby at_192) rfl rfl k) ?_
      show Goes _ _ _ _ _ _ _ (T482.setTop (mkF m 194 #[.val (.int p0), .val (.int p1), .val (.int p2), .val (.int p3), .val (.int p4), .val (.int (2 : Int32)), .val (.int g2), .val (.int g3), .val (.ref b255), .val (.ref b262), .val (.ref b274), .val (.ref b291), .val (.ref b313), .val (.ref b340), .val (.ref b372), .val (.ref b291), .val (.ref b313), .val (.ref b340), .val (.int (0 : Int32)), .val .null, .val .null] [(.ref b291)]))
      refine Goes.step (fun _ k => XS.aload X482.here hx rfl (hb hby at_194) rfl rfl k) ?_
      show Goes _ _ _ _ _ _ _ (T482.setTop (mkF m 196 #[.val (.int p0), .val (.int p1), .val (.int p2), .val (.int p3), .val (.int p4), .val (.int (2 : Int32)), .val (.int g2), .val (.int g3), .val (.ref b255), .val (.ref b262), .val (.ref b274), .val (.ref b291), .val (.ref b313), .val (.ref b340), .val (.ref b372), .val (.ref b291), .val (.ref b313), .val (.ref b340), .val (.int (0 : Int32)), .val .null, .val .null] [(.ref b291), (.ref b291)]))
      refine Goes.step (fun _ k => Jvm.RoadKit.acmp X482 hx rfl rfl rfl (pc0 := 196) (pc' := 199) (same := true) rfl (hb hby at_196) rfl (decide_eq_true rfl) (by decide) (by decide) k) ?_
      show Goes _ _ _ _ _ _ _ (T482.setTop (mkF m 199 #[.val (.int p0), .val (.int p1), .val (.int p2), .val (.int p3), .val (.int p4), .val (.int (2 : Int32)), .val (.int g2), .val (.int g3), .val (.ref b255), .val (.ref b262), .val (.ref b274), .val (.ref b291), .val (.ref b313), .val (.ref b340), .val (.ref b372), .val (.ref b291), .val (.ref b313), .val (.ref b340), .val (.int (0 : Int32)), .val .null, .val .null] []))
      refine Goes.step (fun _ k => XS.aload X482.here hx rfl (hb hby at_199) rfl rfl k) ?_
      show Goes _ _ _ _ _ _ _ (T482.setTop (mkF m 201 #[.val (.int p0), .val (.int p1), .val (.int p2), .val (.int p3), .val (.int p4), .val (.int (2 : Int32)), .val (.int g2), .val (.int g3), .val (.ref b255), .val (.ref b262), .val (.ref b274), .val (.ref b291), .val (.ref b313), .val (.ref b340), .val (.ref b372), .val (.ref b291), .val (.ref b313), .val (.ref b340), .val (.int (0 : Int32)), .val .null, .val .null] [(.ref b313)]))
      refine Goes.step (fun _ k => XS.aload X482.here hx rfl (hb hby at_201) rfl rfl k) ?_
      show Goes _ _ _ _ _ _ _ (T482.setTop (mkF m 203 #[.val (.int p0), .val (.int p1), .val (.int p2), .val (.int p3), .val (.int p4), .val (.int (2 : Int32)), .val (.int g2), .val (.int g3), .val (.ref b255), .val (.ref b262), .val (.ref b274), .val (.ref b291), .val (.ref b313), .val (.ref b340), .val (.ref b372), .val (.ref b291), .val (.ref b313), .val (.ref b340), .val (.int (0 : Int32)), .val .null, .val .null] [(.ref b313), (.ref b313)]))
      refine Goes.step (fun _ k => Jvm.RoadKit.acmp X482 hx rfl rfl rfl (pc0 := 203) (pc' := 206) (same := true) rfl (hb hby at_203) rfl (decide_eq_true rfl) (by decide) (by decide) k) ?_
      show Goes _ _ _ _ _ _ _ (T482.setTop (mkF m 206 #[.val (.int p0), .val (.int p1), .val (.int p2), .val (.int p3), .val (.int p4), .val (.int (2 : Int32)), .val (.int g2), .val (.int g3), .val (.ref b255), .val (.ref b262), .val (.ref b274), .val (.ref b291), .val (.ref b313), .val (.ref b340), .val (.ref b372), .val (.ref b291), .val (.ref b313), .val (.ref b340), .val (.int (0 : Int32)), .val .null, .val .null] []))
      refine Goes.step (fun _ k => XS.aload X482.here hx rfl (hb hby at_206) rfl rfl k) ?_
      show Goes _ _ _ _ _ _ _ (T482.setTop (mkF m 208 #[.val (.int p0), .val (.int p1), .val (.int p2), .val (.int p3), .val (.int p4), .val (.int (2 : Int32)), .val (.int g2), .val (.int g3), .val (.ref b255), .val (.ref b262), .val (.ref b274), .val (.ref b291), .val (.ref b313), .val (.ref b340), .val (.ref b372), .val (.ref b291), .val (.ref b313), .val (.ref b340), .val (.int (0 : Int32)), .val .null, .val .null] [(.ref b340)]))
      refine Goes.step (fun _ k => XS.aload X482.here hx rfl (hb hby at_208) rfl rfl k) ?_
      show Goes _ _ _ _ _ _ _ (T482.setTop (mkF m 210 #[.val (.int p0), .val (.int p1), .val (.int p2), .val (.int p3), .val (.int p4), .val (.int (2 : Int32)), .val (.int g2), .val (.int g3), .val (.ref b255), .val (.ref b262), .val (.ref b274), .val (.ref b291), .val (.ref b313), .val (.ref b340), .val (.ref b372), .val (.ref b291), .val (.ref b313), .val (.ref b340), .val (.int (0 : Int32)), .val .null, .val .null] [(.ref b340), (.ref b340)]))
      refine Goes.step (fun _ k => Jvm.RoadKit.acmp X482 hx rfl rfl rfl (pc0 := 210) (pc' := 213) (same := true) rfl (hb hby at_210) rfl (decide_eq_true rfl) (by decide) (by decide) k) ?_
      show Goes _ _ _ _ _ _ _ (T482.setTop (mkF m 213 #[.val (.int p0), .val (.int p1), .val (.int p2), .val (.int p3), .val (.int p4), .val (.int (2 : Int32)), .val (.int g2), .val (.int g3), .val (.ref b255), .val (.ref b262), .val (.ref b274), .val (.ref b291), .val (.ref b313), .val (.ref b340), .val (.ref b372), .val (.ref b291), .val (.ref b313), .val (.ref b340), .val (.int (0 : Int32)), .val .null, .val .null] []))
      refine Goes.step (fun _ k => XS.aload X482.here hx rfl (hb hby at_213) rfl rfl k) ?_
      show Goes _ _ _ _ _ _ _ (T482.setTop (mkF m 215 #[.val (.int p0), .val (.int p1), .val (.int p2), .val (.int p3), .val (.int p4), .val (.int (2 : Int32)), .val (.int g2), .val (.int g3), .val (.ref b255), .val (.ref b262), .val (.ref b274), .val (.ref b291), .val (.ref b313), .val (.ref b340), .val (.ref b372), .val (.ref b291), .val (.ref b313), .val (.ref b340), .val (.int (0 : Int32)), .val .null, .val .null] [(.ref b372)]))
      refine Goes.step (fun _ k => XS.iloadN X482.here hx rfl (hb hby at_215) rfl  k) ?_
      show Goes _ _ _ _ _ _ _ (T482.setTop (mkF m 216 #[.val (.int p0), .val (.int p1), .val (.int p2), .val (.int p3), .val (.int p4), .val (.int (2 : Int32)), .val (.int g2), .val (.int g3), .val (.ref b255), .val (.ref b262), .val (.ref b274), .val (.ref b291), .val (.ref b313), .val (.ref b340), .val (.ref b372), .val (.ref b291), .val (.ref b313), .val (.ref b340), .val (.int (0 : Int32)), .val .null, .val .null] [(.int p1), (.ref b372)]))
      refine Goes.step (fun _ k => XS.aload X482.here hx rfl (hb hby at_216) rfl rfl k) ?_
      show Goes _ _ _ _ _ _ _ (T482.setTop (mkF m 218 #[.val (.int p0), .val (.int p1), .val (.int p2), .val (.int p3), .val (.int p4), .val (.int (2 : Int32)), .val (.int g2), .val (.int g3), .val (.ref b255), .val (.ref b262), .val (.ref b274), .val (.ref b291), .val (.ref b313), .val (.ref b340), .val (.ref b372), .val (.ref b291), .val (.ref b313), .val (.ref b340), .val (.int (0 : Int32)), .val .null, .val .null] [(.ref b255), (.int p1), (.ref b372)]))
      have hH1 : ∀ p j, (own_put own_t0 f3.val 2) p = some j → (own_hp (own_hp (own_hp (fun _ => (0 : Int32)) f1.val p1) q2.val g2) f3.val g3) p = (own_H p1 g2 g3) j := (own_hH own_hH0 (by rfl))
      have lt1 : ∀ p j, (own_put own_t0 f3.val 2) p = some j → j < 3 := (own_lt3 own_lt30 (by decide))
      have inj1 : ∀ j, (∃ p, (own_put own_t0 f3.val 2) p = some j) → (own_K b255 b262 b274) j = b255 → j = 0 := fun j hj hk => by by_cases u0 : j = 0 <;> by_cases u1 : j = 1 <;> simp [own_K, u0, u1] at hk <;> first | exact u0 | exact u1 | exact absurd hk (Ne.symm ne263) | exact absurd hk (Ne.symm ne275) | omega
      have fr1 : findP (own_put own_t0 f3.val 2) (fun j => decide ((own_H p1 g2 g3) j = p1)) 4 0 (own_f p1 (30 : Int32)).toNatClampNeg = some none := by rw [own_e0, ← hf1]; exact fd1
      obtain ⟨_, _, ⟨T506, L506, k506, n506⟩, -, X506, ⟨Lc506, hQ506, l506, y506, z506⟩, st506⟩ := Jvm.LawKit.callS X482 hx (y := (⟨"com/example/nehaba/nehaba/input/KeptValuesPutPinLaw", "find", "(Lcom/example/nehaba/nehaba/input/KeptValues;ILjava/lang/Object;)Ljava/lang/Object;"⟩ : MethodName)) hown (mvT hZ (hw _ (List.mem_of_getElem? (i := 50) rfl))) (mvT hZ (hw _ (List.mem_of_getElem? (i := 51) rfl))) (mvT hZ (hw _ (List.mem_of_getElem? (i := 52) rfl))) (mvT hZ (hw _ (List.mem_of_getElem? (i := 53) rfl))) (by decide) (backOf (W := 0) (rm8 l Z a0 hw [] b372 p1 b255 r392_0_0 r392_0_1 r392_0_2 kk392_0_0 kk392_0_1 kk392_0_2 4 (own_put own_t0 f3.val 2) (own_hp (own_hp (own_hp (fun _ => (0 : Int32)) f1.val p1) q2.val g2) f3.val g3) (own_K b255 b262 b274) (own_K b291 b313 b340) (30 : Int32) (2 : Int32) (1 : Int32) (own_H p1 g2 g3) 0 none T482.heap n0 Z505 pf482_0 pf482_1 pf482_2 pf482_3 pf482_4 pf482_5 pf482_6 pf482_7 pf482_8 pf482_9 hN8 hH1 hS8 rfl inj1 fr1) hZ (hw _ (List.mem_of_getElem? (i := 53) rfl)) (hw _ (List.mem_of_getElem? (i := 52) rfl)) (by decide) (by decide)) (g := (mkF m 218 #[.val (.int p0), .val (.int p1), .val (.int p2), .val (.int p3), .val (.int p4), .val (.int (2 : Int32)), .val (.int g2), .val (.int g3), .val (.ref b255), .val (.ref b262), .val (.ref b274), .val (.ref b291), .val (.ref b313), .val (.ref b340), .val (.ref b372), .val (.ref b291), .val (.ref b313), .val (.ref b340), .val (.int (0 : Int32)), .val .null, .val .null] [(.ref b255), (.int p1), (.ref b372)])) rfl (by rw [hml]; rfl) (argsL := [(.ref b372), (.int p1), (.ref b255)]) (rest := []) (lenOf pd_5 rfl) rfl (by show 2 * 0 + _ ≤ _; exact Nat.le_of_eq rfl) (hb hby at_218) (fun _ _ => ⟨rfl, rfl, (by decide : 10 + 0 ≤ _), (by decide : 24 + 0 ≤ _)⟩)
      dsimp only [Pt.U, Pt.locs, Pt.cells, Pt.slots] at X506 l506 y506 z506 st506 hQ506
      subst l506 y506 z506
      obtain ⟨N506, eh506, rfl⟩ := hQ506
      have NA506 := Fr.app NA482 N506
      refine Goes.step st506 ?_
      show Goes _ _ _ _ _ _ _ (T506.setTop (mkF m 221 #[.val (.int p0), .val (.int p1), .val (.int p2), .val (.int p3), .val (.int p4), .val (.int (2 : Int32)), .val (.int g2), .val (.int g3), .val (.ref b255), .val (.ref b262), .val (.ref b274), .val (.ref b291), .val (.ref b313), .val (.ref b340), .val (.ref b372), .val (.ref b291), .val (.ref b313), .val (.ref b340), .val (.int (0 : Int32)), .val .null, .val .null] [.null]))
      refine Goes.step (fun _ k => XS.aload X506.here hx rfl (hb hby at_221) rfl rfl k) ?_
      show Goes _ _ _ _ _ _ _ (T506.setTop (mkF m 223 #[.val (.int p0), .val (.int p1), .val (.int p2), .val (.int p3), .val (.int p4), .val (.int (2 : Int32)), .val (.int g2), .val (.int g3), .val (.ref b255), .val (.ref b262), .val (.ref b274), .val (.ref b291), .val (.ref b313), .val (.ref b340), .val (.ref b372), .val (.ref b291), .val (.ref b313), .val (.ref b340), .val (.int (0 : Int32)), .val .null, .val .null] [.null, .null]))
      refine Goes.step (fun _ k => Jvm.RoadKit.acmp X506 hx rfl rfl rfl (pc0 := 223) (pc' := 226) (same := true) rfl (hb hby at_223) rfl (decide_eq_true rfl) (by decide) (by decide) k) ?_
      show Goes _ _ _ _ _ _ _ (T506.setTop (mkF m 226 #[.val (.int p0), .val (.int p1), .val (.int p2), .val (.int p3), .val (.int p4), .val (.int (2 : Int32)), .val (.int g2), .val (.int g3), .val (.ref b255), .val (.ref b262), .val (.ref b274), .val (.ref b291), .val (.ref b313), .val (.ref b340), .val (.ref b372), .val (.ref b291), .val (.ref b313), .val (.ref b340), .val (.int (0 : Int32)), .val .null, .val .null] []))
      refine Goes.step (fun _ k => XS.aload X506.here hx rfl (hb hby at_226) rfl rfl k) ?_
      show Goes _ _ _ _ _ _ _ (T506.setTop (mkF m 228 #[.val (.int p0), .val (.int p1), .val (.int p2), .val (.int p3), .val (.int p4), .val (.int (2 : Int32)), .val (.int g2), .val (.int g3), .val (.ref b255), .val (.ref b262), .val (.ref b274), .val (.ref b291), .val (.ref b313), .val (.ref b340), .val (.ref b372), .val (.ref b291), .val (.ref b313), .val (.ref b340), .val (.int (0 : Int32)), .val .null, .val .null] [(.ref b372)]))
      refine Goes.step (fun _ k => XS.iload X506.here hx rfl (hb hby at_228) rfl  k) ?_
      show Goes _ _ _ _ _ _ _ (T506.setTop (mkF m 230 #[.val (.int p0), .val (.int p1), .val (.int p2), .val (.int p3), .val (.int p4), .val (.int (2 : Int32)), .val (.int g2), .val (.int g3), .val (.ref b255), .val (.ref b262), .val (.ref b274), .val (.ref b291), .val (.ref b313), .val (.ref b340), .val (.ref b372), .val (.ref b291), .val (.ref b313), .val (.ref b340), .val (.int (0 : Int32)), .val .null, .val .null] [(.int g2), (.ref b372)]))
      refine Goes.step (fun _ k => XS.aload X506.here hx rfl (hb hby at_230) rfl rfl k) ?_
      show Goes _ _ _ _ _ _ _ (T506.setTop (mkF m 232 #[.val (.int p0), .val (.int p1), .val (.int p2), .val (.int p3), .val (.int p4), .val (.int (2 : Int32)), .val (.int g2), .val (.int g3), .val (.ref b255), .val (.ref b262), .val (.ref b274), .val (.ref b291), .val (.ref b313), .val (.ref b340), .val (.ref b372), .val (.ref b291), .val (.ref b313), .val (.ref b340), .val (.int (0 : Int32)), .val .null, .val .null] [(.ref b262), (.int g2), (.ref b372)]))
      have hH2 : ∀ p j, (own_put own_t0 f3.val 2) p = some j → (own_hp (own_hp (own_hp (fun _ => (0 : Int32)) f1.val p1) q2.val g2) f3.val g3) p = (own_H p1 g2 g3) j := (own_hH own_hH0 (by rfl))
      have lt2 : ∀ p j, (own_put own_t0 f3.val 2) p = some j → j < 3 := (own_lt3 own_lt30 (by decide))
      have inj2 : ∀ j, (∃ p, (own_put own_t0 f3.val 2) p = some j) → (own_K b255 b262 b274) j = b262 → j = 1 := fun j hj hk => by by_cases u0 : j = 0 <;> by_cases u1 : j = 1 <;> simp [own_K, u0, u1] at hk <;> first | exact u0 | exact u1 | exact absurd hk ne263 | exact absurd hk (Ne.symm ne276) | omega
      have fr2 : findP (own_put own_t0 f3.val 2) (fun j => decide ((own_H p1 g2 g3) j = g2)) 4 1 (own_f g2 (30 : Int32)).toNatClampNeg = some none := by rw [own_e1, ← hf2]; exact fd2
      obtain ⟨_, _, ⟨T507, L507, k507, n507⟩, -, X507, ⟨Lc507, hQ507, l507, y507, z507⟩, st507⟩ := Jvm.LawKit.callS X506 hx (y := (⟨"com/example/nehaba/nehaba/input/KeptValuesPutPinLaw", "find", "(Lcom/example/nehaba/nehaba/input/KeptValues;ILjava/lang/Object;)Ljava/lang/Object;"⟩ : MethodName)) hown (mvT hZ (hw _ (List.mem_of_getElem? (i := 50) rfl))) (mvT hZ (hw _ (List.mem_of_getElem? (i := 51) rfl))) (mvT hZ (hw _ (List.mem_of_getElem? (i := 52) rfl))) (mvT hZ (hw _ (List.mem_of_getElem? (i := 53) rfl))) (by decide) (backOf (W := 0) (rm8 l Z a0 hw [] b372 g2 b262 r392_0_0 r392_0_1 r392_0_2 kk392_0_0 kk392_0_1 kk392_0_2 4 (own_put own_t0 f3.val 2) (own_hp (own_hp (own_hp (fun _ => (0 : Int32)) f1.val p1) q2.val g2) f3.val g3) (own_K b255 b262 b274) (own_K b291 b313 b340) (30 : Int32) (2 : Int32) (1 : Int32) (own_H p1 g2 g3) 1 none T482.heap n0 Z505 pf482_0 pf482_1 pf482_2 pf482_3 pf482_4 pf482_5 pf482_6 pf482_7 pf482_8 pf482_9 hN8 hH2 hS8 rfl inj2 fr2) hZ (hw _ (List.mem_of_getElem? (i := 53) rfl)) (hw _ (List.mem_of_getElem? (i := 52) rfl)) (by decide) (by decide)) (g := (mkF m 232 #[.val (.int p0), .val (.int p1), .val (.int p2), .val (.int p3), .val (.int p4), .val (.int (2 : Int32)), .val (.int g2), .val (.int g3), .val (.ref b255), .val (.ref b262), .val (.ref b274), .val (.ref b291), .val (.ref b313), .val (.ref b340), .val (.ref b372), .val (.ref b291), .val (.ref b313), .val (.ref b340), .val (.int (0 : Int32)), .val .null, .val .null] [(.ref b262), (.int g2), (.ref b372)])) rfl (by rw [hml]; rfl) (argsL := [(.ref b372), (.int g2), (.ref b262)]) (rest := []) (lenOf pd_5 rfl) rfl (by show 2 * 0 + _ ≤ _; exact Nat.le_of_eq rfl) (hb hby at_232) (fun _ _ => ⟨rfl, eh506, (by decide : 10 + 0 ≤ _), (by decide : 24 + 0 ≤ _)⟩)
      dsimp only [Pt.U, Pt.locs, Pt.cells, Pt.slots] at X507 l507 y507 z507 st507 hQ507
      subst l507 y507 z507
      obtain ⟨N507, eh507, rfl⟩ := hQ507
      have NA507 := Fr.app NA506 N507
      refine Goes.step st507 ?_
      show Goes _ _ _ _ _ _ _ (T507.setTop (mkF m 235 #[.val (.int p0), .val (.int p1), .val (.int p2), .val (.int p3), .val (.int p4), .val (.int (2 : Int32)), .val (.int g2), .val (.int g3), .val (.ref b255), .val (.ref b262), .val (.ref b274), .val (.ref b291), .val (.ref b313), .val (.ref b340), .val (.ref b372), .val (.ref b291), .val (.ref b313), .val (.ref b340), .val (.int (0 : Int32)), .val .null, .val .null] [.null]))
      refine Goes.step (fun _ k => XS.aload X507.here hx rfl (hb hby at_235) rfl rfl k) ?_
      show Goes _ _ _ _ _ _ _ (T507.setTop (mkF m 237 #[.val (.int p0), .val (.int p1), .val (.int p2), .val (.int p3), .val (.int p4), .val (.int (2 : Int32)), .val (.int g2), .val (.int g3), .val (.ref b255), .val (.ref b262), .val (.ref b274), .val (.ref b291), .val (.ref b313), .val (.ref b340), .val (.ref b372), .val (.ref b291), .val (.ref b313), .val (.ref b340), .val (.int (0 : Int32)), .val .null, .val .null] [.null, .null]))
      refine Goes.step (fun _ k => Jvm.RoadKit.acmp X507 hx rfl rfl rfl (pc0 := 237) (pc' := 240) (same := true) rfl (hb hby at_237) rfl (decide_eq_true rfl) (by decide) (by decide) k) ?_
      show Goes _ _ _ _ _ _ _ (T507.setTop (mkF m 240 #[.val (.int p0), .val (.int p1), .val (.int p2), .val (.int p3), .val (.int p4), .val (.int (2 : Int32)), .val (.int g2), .val (.int g3), .val (.ref b255), .val (.ref b262), .val (.ref b274), .val (.ref b291), .val (.ref b313), .val (.ref b340), .val (.ref b372), .val (.ref b291), .val (.ref b313), .val (.ref b340), .val (.int (0 : Int32)), .val .null, .val .null] []))
      refine Goes.step (fun _ k => XS.aload X507.here hx rfl (hb hby at_240) rfl rfl k) ?_
      show Goes _ _ _ _ _ _ _ (T507.setTop (mkF m 242 #[.val (.int p0), .val (.int p1), .val (.int p2), .val (.int p3), .val (.int p4), .val (.int (2 : Int32)), .val (.int g2), .val (.int g3), .val (.ref b255), .val (.ref b262), .val (.ref b274), .val (.ref b291), .val (.ref b313), .val (.ref b340), .val (.ref b372), .val (.ref b291), .val (.ref b313), .val (.ref b340), .val (.int (0 : Int32)), .val .null, .val .null] [(.ref b372)]))
      refine Goes.step (fun _ k => XS.iload X507.here hx rfl (hb hby at_242) rfl  k) ?_
      show Goes _ _ _ _ _ _ _ (T507.setTop (mkF m 244 #[.val (.int p0), .val (.int p1), .val (.int p2), .val (.int p3), .val (.int p4), .val (.int (2 : Int32)), .val (.int g2), .val (.int g3), .val (.ref b255), .val (.ref b262), .val (.ref b274), .val (.ref b291), .val (.ref b313), .val (.ref b340), .val (.ref b372), .val (.ref b291), .val (.ref b313), .val (.ref b340), .val (.int (0 : Int32)), .val .null, .val .null] [(.int g3), (.ref b372)]))
      refine Goes.step (fun _ k => XS.aload X507.here hx rfl (hb hby at_244) rfl rfl k) ?_
      show Goes _ _ _ _ _ _ _ (T507.setTop (mkF m 246 #[.val (.int p0), .val (.int p1), .val (.int p2), .val (.int p3), .val (.int p4), .val (.int (2 : Int32)), .val (.int g2), .val (.int g3), .val (.ref b255), .val (.ref b262), .val (.ref b274), .val (.ref b291), .val (.ref b313), .val (.ref b340), .val (.ref b372), .val (.ref b291), .val (.ref b313), .val (.ref b340), .val (.int (0 : Int32)), .val .null, .val .null] [(.ref b274), (.int g3), (.ref b372)]))
      have hH3 : ∀ p j, (own_put own_t0 f3.val 2) p = some j → (own_hp (own_hp (own_hp (fun _ => (0 : Int32)) f1.val p1) q2.val g2) f3.val g3) p = (own_H p1 g2 g3) j := (own_hH own_hH0 (by rfl))
      have lt3 : ∀ p j, (own_put own_t0 f3.val 2) p = some j → j < 3 := (own_lt3 own_lt30 (by decide))
      have inj3 : ∀ j, (∃ p, (own_put own_t0 f3.val 2) p = some j) → (own_K b255 b262 b274) j = b274 → j = 2 := fun j ⟨p, hj⟩ hk => by have h3 := lt3 p j hj; rcases (show j = 0 ∨ j = 1 ∨ j = 2 by omega) with rfl | rfl | rfl <;> simp [own_K] at hk <;> first | rfl | exact absurd hk ne275 | exact absurd hk ne276
      have fr3 : findP (own_put own_t0 f3.val 2) (fun j => decide ((own_H p1 g2 g3) j = g3)) 4 2 (own_f g3 (30 : Int32)).toNatClampNeg = some (some 2) := by rw [own_findCongr lt3 (own_e2 _ _ _), ← hf3]; exact fd3
      obtain ⟨_, _, ⟨T508, L508, k508, n508⟩, -, X508, ⟨Lc508, hQ508, l508, y508, z508⟩, st508⟩ := Jvm.LawKit.callS X507 hx (y := (⟨"com/example/nehaba/nehaba/input/KeptValuesPutPinLaw", "find", "(Lcom/example/nehaba/nehaba/input/KeptValues;ILjava/lang/Object;)Ljava/lang/Object;"⟩ : MethodName)) hown (mvT hZ (hw _ (List.mem_of_getElem? (i := 50) rfl))) (mvT hZ (hw _ (List.mem_of_getElem? (i := 51) rfl))) (mvT hZ (hw _ (List.mem_of_getElem? (i := 52) rfl))) (mvT hZ (hw _ (List.mem_of_getElem? (i := 53) rfl))) (by decide) (backOf (W := 0) (rm8 l Z a0 hw [] b372 g3 b274 r392_0_0 r392_0_1 r392_0_2 kk392_0_0 kk392_0_1 kk392_0_2 4 (own_put own_t0 f3.val 2) (own_hp (own_hp (own_hp (fun _ => (0 : Int32)) f1.val p1) q2.val g2) f3.val g3) (own_K b255 b262 b274) (own_K b291 b313 b340) (30 : Int32) (2 : Int32) (1 : Int32) (own_H p1 g2 g3) 2 (some 2) T482.heap n0 Z505 pf482_0 pf482_1 pf482_2 pf482_3 pf482_4 pf482_5 pf482_6 pf482_7 pf482_8 pf482_9 hN8 hH3 hS8 rfl inj3 fr3) hZ (hw _ (List.mem_of_getElem? (i := 53) rfl)) (hw _ (List.mem_of_getElem? (i := 52) rfl)) (by decide) (by decide)) (g := (mkF m 246 #[.val (.int p0), .val (.int p1), .val (.int p2), .val (.int p3), .val (.int p4), .val (.int (2 : Int32)), .val (.int g2), .val (.int g3), .val (.ref b255), .val (.ref b262), .val (.ref b274), .val (.ref b291), .val (.ref b313), .val (.ref b340), .val (.ref b372), .val (.ref b291), .val (.ref b313), .val (.ref b340), .val (.int (0 : Int32)), .val .null, .val .null] [(.ref b274), (.int g3), (.ref b372)])) rfl (by rw [hml]; rfl) (argsL := [(.ref b372), (.int g3), (.ref b274)]) (rest := []) (lenOf pd_5 rfl) rfl (by show 2 * 0 + _ ≤ _; exact Nat.le_of_eq rfl) (hb hby at_246) (fun _ _ => ⟨rfl, eh507, (by decide : 10 + 0 ≤ _), (by decide : 24 + 0 ≤ _)⟩)
      dsimp only [Pt.U, Pt.locs, Pt.cells, Pt.slots] at X508 l508 y508 z508 st508 hQ508
      subst l508 y508 z508
      obtain ⟨N508, eh508, rfl⟩ := hQ508
      have NA508 := Fr.app NA507 N508
      refine Goes.step st508 ?_
      show Goes _ _ _ _ _ _ _ (T508.setTop (mkF m 249 #[.val (.int p0), .val (.int p1), .val (.int p2), .val (.int p3), .val (.int p4), .val (.int (2 : Int32)), .val (.int g2), .val (.int g3), .val (.ref b255), .val (.ref b262), .val (.ref b274), .val (.ref b291), .val (.ref b313), .val (.ref b340), .val (.ref b372), .val (.ref b291), .val (.ref b313), .val (.ref b340), .val (.int (0 : Int32)), .val .null, .val .null] [(.ref b340)]))
      refine Goes.step (fun _ k => XS.aload X508.here hx rfl (hb hby at_249) rfl rfl k) ?_
      show Goes _ _ _ _ _ _ _ (T508.setTop (mkF m 251 #[.val (.int p0), .val (.int p1), .val (.int p2), .val (.int p3), .val (.int p4), .val (.int (2 : Int32)), .val (.int g2), .val (.int g3), .val (.ref b255), .val (.ref b262), .val (.ref b274), .val (.ref b291), .val (.ref b313), .val (.ref b340), .val (.ref b372), .val (.ref b291), .val (.ref b313), .val (.ref b340), .val (.int (0 : Int32)), .val .null, .val .null] [(.ref b340), (.ref b340)]))
      refine Goes.step (fun _ k => Jvm.RoadKit.acmp X508 hx rfl rfl rfl (pc0 := 251) (pc' := 254) (same := true) rfl (hb hby at_251) rfl (decide_eq_true rfl) (by decide) (by decide) k) ?_
      show Goes _ _ _ _ _ _ _ (T508.setTop (mkF m 254 #[.val (.int p0), .val (.int p1), .val (.int p2), .val (.int p3), .val (.int p4), .val (.int (2 : Int32)), .val (.int g2), .val (.int g3), .val (.ref b255), .val (.ref b262), .val (.ref b274), .val (.ref b291), .val (.ref b313), .val (.ref b340), .val (.ref b372), .val (.ref b291), .val (.ref b313), .val (.ref b340), .val (.int (0 : Int32)), .val .null, .val .null] []))
      refine Goes.step (fun _ k => XS.iconst X508.here hx rfl (hb hby at_254) k) ?_
      show Goes _ _ _ _ _ _ _ (T508.setTop (mkF m 255 #[.val (.int p0), .val (.int p1), .val (.int p2), .val (.int p3), .val (.int p4), .val (.int (2 : Int32)), .val (.int g2), .val (.int g3), .val (.ref b255), .val (.ref b262), .val (.ref b274), .val (.ref b291), .val (.ref b313), .val (.ref b340), .val (.ref b372), .val (.ref b291), .val (.ref b313), .val (.ref b340), .val (.int (0 : Int32)), .val .null, .val .null] [(.int (1 : Int32))]))
      refine Goes.step (fun _ k => XS.goto X508.here hx rfl (pc0 := 255) (pc' := 259) rfl (hb hby at_255) (by decide) (by decide) k) ?_
      show Goes _ _ _ _ _ _ _ (T508.setTop (mkF m 259 #[.val (.int p0), .val (.int p1), .val (.int p2), .val (.int p3), .val (.int p4), .val (.int (2 : Int32)), .val (.int g2), .val (.int g3), .val (.ref b255), .val (.ref b262), .val (.ref b274), .val (.ref b291), .val (.ref b313), .val (.ref b340), .val (.ref b372), .val (.ref b291), .val (.ref b313), .val (.ref b340), .val (.int (0 : Int32)), .val .null, .val .null] [(.int (1 : Int32))]))
      exact Goes.ret X508 hx (BodyLoose.notSynchronized Bd) Bd.returns rfl (Or.inl ⟨rfl, by simp, _, rfl⟩) (hb hby at_259) (by show Q0 Z p0 p1 p2 p3 p4 h0 n0 (some (.int (1 : Int32))) T508.heap _; rw [eh508]; exact ⟨rfl, NA508⟩) (by decide) (by decide)
    · show Goes _ _ _ _ _ _ _ (s₁.setTop (mkF m 47 #[.val (.int p0), .val (.int p1), .val (.int p2), .val (.int p3), .val (.int p4), .val (.int (3 : Int32)), .val (.int g2), .val (.int g3), .unset, .unset, .unset, .unset, .unset, .unset, .unset, .unset, .unset, .unset, .unset, .unset, .unset] []))
      refine Goes.step (fun _ k => XS.iconst X0.here hx rfl (hb hby at_47) k) ?_
      show Goes _ _ _ _ _ _ _ (s₁.setTop (mkF m 48 #[.val (.int p0), .val (.int p1), .val (.int p2), .val (.int p3), .val (.int p4), .val (.int (3 : Int32)), .val (.int g2), .val (.int g3), .unset, .unset, .unset, .unset, .unset, .unset, .unset, .unset, .unset, .unset, .unset, .unset, .unset] [(.int (1 : Int32))]))
      obtain ⟨T509, h509, k509, X509, e509, E509, A509, XA509, st509⟩ := newPE X0 hx hZ (hw _ (List.mem_of_getElem? (i := 0) rfl)) e0 (g := (mkF m 48 #[.val (.int p0), .val (.int p1), .val (.int p2), .val (.int p3), .val (.int p4), .val (.int (3 : Int32)), .val (.int g2), .val (.int g3), .unset, .unset, .unset, .unset, .unset, .unset, .unset, .unset, .unset, .unset, .unset, .unset, .unset] [(.int (1 : Int32))])) rfl (hb hby at_48) rfl (by decide) (cap := 1) (by decide) (by decide) (by decide) (by decide) (ad := "[I") (by decide)
      obtain ⟨b509, g509⟩ : ∃ z, z = h0.size := ⟨_, rfl⟩
      rw [← g509] at A509 st509 XA509
      refine Goes.step st509 ?_
      have g_b509 : n0 ≤ b509 := Nat.le_trans Z0 (Nat.le_of_eq g509.symm)
      have sz_b509 : h0.size ≤ b509 := Nat.le_trans K0.1 (Nat.le_of_eq g509.symm)
      have K510 : Keep h0 h509 [] := K0.ext E509
      have Z510 : n0 ≤ h509.size := Nat.le_trans Z0 E509.1
      have E_b509 := XA509
      have V_b509 : Arv Z h509 b509 k509 .int (1 : Int32) [(.int (0 : Int32))] (.int (0 : Int32)) := (Arv.new A509 (by decide)).pad (pad_rep [] (.int (0 : Int32)) 1)
      show Goes _ _ _ _ _ _ _ (T509.setTop (mkF m 50 #[.val (.int p0), .val (.int p1), .val (.int p2), .val (.int p3), .val (.int p4), .val (.int (3 : Int32)), .val (.int g2), .val (.int g3), .unset, .unset, .unset, .unset, .unset, .unset, .unset, .unset, .unset, .unset, .unset, .unset, .unset] [(.ref b509)]))
      refine Goes.step (fun _ k => XS.dup X509.here hx rfl (hb hby at_50) rfl rfl k) ?_
      show Goes _ _ _ _ _ _ _ (T509.setTop (mkF m 51 #[.val (.int p0), .val (.int p1), .val (.int p2), .val (.int p3), .val (.int p4), .val (.int (3 : Int32)), .val (.int g2), .val (.int g3), .unset, .unset, .unset, .unset, .unset, .unset, .unset, .unset, .unset, .unset, .unset, .unset, .unset] [(.ref b509), (.ref b509)]))
      refine Goes.step (fun _ k => XS.iconst X509.here hx rfl (hb hby at_51) k) ?_
      show Goes _ _ _ _ _ _ _ (T509.setTop (mkF m 52 #[.val (.int p0), .val (.int p1), .val (.int p2), .val (.int p3), .val (.int p4), .val (.int (3 : Int32)), .val (.int g2), .val (.int g3), .unset, .unset, .unset, .unset, .unset, .unset, .unset, .unset, .unset, .unset, .unset, .unset, .unset] [(.int (0 : Int32)), (.ref b509), (.ref b509)]))
      refine Goes.step (fun _ k => XS.iconst X509.here hx rfl (hb hby at_52) k) ?_
      show Goes _ _ _ _ _ _ _ (T509.setTop (mkF m 53 #[.val (.int p0), .val (.int p1), .val (.int p2), .val (.int p3), .val (.int p4), .val (.int (3 : Int32)), .val (.int g2), .val (.int g3), .unset, .unset, .unset, .unset, .unset, .unset, .unset, .unset, .unset, .unset, .unset, .unset, .unset] [(.int (1 : Int32)), (.int (0 : Int32)), (.ref b509), (.ref b509)]))
      obtain ⟨cl511, Ar511, q511, S511, P511, H511, G511⟩ := id V_b509
      have hin511 : ¬ ((0 : Int32) < 0 ∨ cl511.slots.size ≤ ((0 : Int32)).toNatClampNeg) := inb_of S511 ⟨by decide, by decide⟩
      obtain ⟨T512, h512, X512, e512, W512, st512⟩ := stI X509 hx hZ e509 Ar511 (j := (0 : Int32)) hin511 (g := (mkF m 53 #[.val (.int p0), .val (.int p1), .val (.int p2), .val (.int p3), .val (.int p4), .val (.int (3 : Int32)), .val (.int g2), .val (.int g3), .unset, .unset, .unset, .unset, .unset, .unset, .unset, .unset, .unset, .unset, .unset, .unset, .unset] [(.int (1 : Int32)), (.int (0 : Int32)), (.ref b509), (.ref b509)])) rfl rfl (hb hby at_53)
      refine Goes.step st512 ?_
      have V512 := Arv.set Ar511 q511 S511 P511 H511 G511 rfl W512 0 rfl (Nat.le_of_ble_eq_true rfl)
      have f513 := E_b509.wr W512
      have f514 := V512
      have K515 : Keep h0 h512 [] := K510.wr W512 (Or.inr sz_b509)
      have Z515 : n0 ≤ h512.size := by rw [Wr.size W512]; exact Z510
      have N515 := Fr.snoc X512 N0 g_b509
      show Goes _ _ _ _ _ _ _ (T512.setTop (mkF m 54 #[.val (.int p0), .val (.int p1), .val (.int p2), .val (.int p3), .val (.int p4), .val (.int (3 : Int32)), .val (.int g2), .val (.int g3), .unset, .unset, .unset, .unset, .unset, .unset, .unset, .unset, .unset, .unset, .unset, .unset, .unset] [(.ref b509)]))
      refine Goes.step (fun _ k => XS.astore X512.here hx rfl (hb hby at_54) rfl rfl (l' := #[.val (.int p0), .val (.int p1), .val (.int p2), .val (.int p3), .val (.int p4), .val (.int (3 : Int32)), .val (.int g2), .val (.int g3), .val (.ref b509), .unset, .unset, .unset, .unset, .unset, .unset, .unset, .unset, .unset, .unset, .unset, .unset]) rfl k) ?_
      show Goes _ _ _ _ _ _ _ (T512.setTop (mkF m 56 #[.val (.int p0), .val (.int p1), .val (.int p2), .val (.int p3), .val (.int p4), .val (.int (3 : Int32)), .val (.int g2), .val (.int g3), .val (.ref b509), .unset, .unset, .unset, .unset, .unset, .unset, .unset, .unset, .unset, .unset, .unset, .unset] []))
      refine Goes.step (fun _ k => XS.iconst X512.here hx rfl (hb hby at_56) k) ?_
      show Goes _ _ _ _ _ _ _ (T512.setTop (mkF m 57 #[.val (.int p0), .val (.int p1), .val (.int p2), .val (.int p3), .val (.int p4), .val (.int (3 : Int32)), .val (.int g2), .val (.int g3), .val (.ref b509), .unset, .unset, .unset, .unset, .unset, .unset, .unset, .unset, .unset, .unset, .unset, .unset] [(.int (1 : Int32))]))
      obtain ⟨T516, h516, k516, X516, e516, E516, A516, XA516, st516⟩ := newPE X512 hx hZ (hw _ (List.mem_of_getElem? (i := 0) rfl)) e512 (g := (mkF m 57 #[.val (.int p0), .val (.int p1), .val (.int p2), .val (.int p3), .val (.int p4), .val (.int (3 : Int32)), .val (.int g2), .val (.int g3), .val (.ref b509), .unset, .unset, .unset, .unset, .unset, .unset, .unset, .unset, .unset, .unset, .unset, .unset] [(.int (1 : Int32))])) rfl (hb hby at_57) rfl (by decide) (cap := 1) (by decide) (by decide) (by decide) (by decide) (ad := "[I") (by decide)
      obtain ⟨b516, g516⟩ : ∃ z, z = h512.size := ⟨_, rfl⟩
      rw [← g516] at A516 st516 XA516
      refine Goes.step st516 ?_
      have g_b516 : n0 ≤ b516 := Nat.le_trans Z515 (Nat.le_of_eq g516.symm)
      have sz_b516 : h0.size ≤ b516 := Nat.le_trans K515.1 (Nat.le_of_eq g516.symm)
      have ne517 : b509 ≠ b516 := Nat.ne_of_lt (Nat.lt_of_lt_of_le f513.lt (Nat.le_of_eq g516.symm))
      have f518 := f513.ext E516
      have f519 := f514.ext E516
      have K520 : Keep h0 h516 [] := K515.ext E516
      have Z520 : n0 ≤ h516.size := Nat.le_trans Z515 E516.1
      have E_b516 := XA516
      have V_b516 : Arv Z h516 b516 k516 .int (1 : Int32) [(.int (0 : Int32))] (.int (0 : Int32)) := (Arv.new A516 (by decide)).pad (pad_rep [] (.int (0 : Int32)) 1)
      show Goes _ _ _ _ _ _ _ (T516.setTop (mkF m 59 #[.val (.int p0), .val (.int p1), .val (.int p2), .val (.int p3), .val (.int p4), .val (.int (3 : Int32)), .val (.int g2), .val (.int g3), .val (.ref b509), .unset, .unset, .unset, .unset, .unset, .unset, .unset, .unset, .unset, .unset, .unset, .unset] [(.ref b516)]))
      refine Goes.step (fun _ k => XS.dup X516.here hx rfl (hb hby at_59) rfl rfl k) ?_
      show Goes _ _ _ _ _ _ _ (T516.setTop (mkF m 60 #[.val (.int p0), .val (.int p1), .val (.int p2), .val (.int p3), .val (.int p4), .val (.int (3 : Int32)), .val (.int g2), .val (.int g3), .val (.ref b509), .unset, .unset, .unset, .unset, .unset, .unset, .unset, .unset, .unset, .unset, .unset, .unset] [(.ref b516), (.ref b516)]))
      refine Goes.step (fun _ k => XS.iconst X516.here hx rfl (hb hby at_60) k) ?_
      show Goes _ _ _ _ _ _ _ (T516.setTop (mkF m 61 #[.val (.int p0), .val (.int p1), .val (.int p2), .val (.int p3), .val (.int p4), .val (.int (3 : Int32)), .val (.int g2), .val (.int g3), .val (.ref b509), .unset, .unset, .unset, .unset, .unset, .unset, .unset, .unset, .unset, .unset, .unset, .unset] [(.int (0 : Int32)), (.ref b516), (.ref b516)]))
      refine Goes.step (fun _ k => XS.iconst X516.here hx rfl (hb hby at_61) k) ?_
      show Goes _ _ _ _ _ _ _ (T516.setTop (mkF m 62 #[.val (.int p0), .val (.int p1), .val (.int p2), .val (.int p3), .val (.int p4), .val (.int (3 : Int32)), .val (.int g2), .val (.int g3), .val (.ref b509), .unset, .unset, .unset, .unset, .unset, .unset, .unset, .unset, .unset, .unset, .unset, .unset] [(.int (2 : Int32)), (.int (0 : Int32)), (.ref b516), (.ref b516)]))
      obtain ⟨cl521, Ar521, q521, S521, P521, H521, G521⟩ := id V_b516
      have hin521 : ¬ ((0 : Int32) < 0 ∨ cl521.slots.size ≤ ((0 : Int32)).toNatClampNeg) := inb_of S521 ⟨by decide, by decide⟩
      obtain ⟨T522, h522, X522, e522, W522, st522⟩ := stI X516 hx hZ e516 Ar521 (j := (0 : Int32)) hin521 (g := (mkF m 62 #[.val (.int p0), .val (.int p1), .val (.int p2), .val (.int p3), .val (.int p4), .val (.int (3 : Int32)), .val (.int g2), .val (.int g3), .val (.ref b509), .unset, .unset, .unset, .unset, .unset, .unset, .unset, .unset, .unset, .unset, .unset, .unset] [(.int (2 : Int32)), (.int (0 : Int32)), (.ref b516), (.ref b516)])) rfl rfl (hb hby at_62)
      refine Goes.step st522 ?_
      have V522 := Arv.set Ar521 q521 S521 P521 H521 G521 rfl W522 0 rfl (Nat.le_of_ble_eq_true rfl)
      have f523 := f518.wr W522
      have f524 := f519.other W522 ne517
      have f525 := E_b516.wr W522
      have f526 := V522
      have K527 : Keep h0 h522 [] := K520.wr W522 (Or.inr sz_b516)
      have Z527 : n0 ≤ h522.size := by rw [Wr.size W522]; exact Z520
      have N527 := Fr.snoc X522 N515 g_b516
      show Goes _ _ _ _ _ _ _ (T522.setTop (mkF m 63 #[.val (.int p0), .val (.int p1), .val (.int p2), .val (.int p3), .val (.int p4), .val (.int (3 : Int32)), .val (.int g2), .val (.int g3), .val (.ref b509), .unset, .unset, .unset, .unset, .unset, .unset, .unset, .unset, .unset, .unset, .unset, .unset] [(.ref b516)]))
      refine Goes.step (fun _ k => XS.astore X522.here hx rfl (hb hby at_63) rfl rfl (l' := #[.val (.int p0), .val (.int p1), .val (.int p2), .val (.int p3), .val (.int p4), .val (.int (3 : Int32)), .val (.int g2), .val (.int g3), .val (.ref b509), .val (.ref b516), .unset, .unset, .unset, .unset, .unset, .unset, .unset, .unset, .unset, .unset, .unset]) rfl k) ?_
      show Goes _ _ _ _ _ _ _ (T522.setTop (mkF m 65 #[.val (.int p0), .val (.int p1), .val (.int p2), .val (.int p3), .val (.int p4), .val (.int (3 : Int32)), .val (.int g2), .val (.int g3), .val (.ref b509), .val (.ref b516), .unset, .unset, .unset, .unset, .unset, .unset, .unset, .unset, .unset, .unset, .unset] []))
      refine Goes.step (fun _ k => XS.iconst X522.here hx rfl (hb hby at_65) k) ?_
      show Goes _ _ _ _ _ _ _ (T522.setTop (mkF m 66 #[.val (.int p0), .val (.int p1), .val (.int p2), .val (.int p3), .val (.int p4), .val (.int (3 : Int32)), .val (.int g2), .val (.int g3), .val (.ref b509), .val (.ref b516), .unset, .unset, .unset, .unset, .unset, .unset, .unset, .unset, .unset, .unset, .unset] [(.int (1 : Int32))]))
      obtain ⟨T528, h528, k528, X528, e528, E528, A528, XA528, st528⟩ := newPE X522 hx hZ (hw _ (List.mem_of_getElem? (i := 0) rfl)) e522 (g := (mkF m 66 #[.val (.int p0), .val (.int p1), .val (.int p2), .val (.int p3), .val (.int p4), .val (.int (3 : Int32)), .val (.int g2), .val (.int g3), .val (.ref b509), .val (.ref b516), .unset, .unset, .unset, .unset, .unset, .unset, .unset, .unset, .unset, .unset, .unset] [(.int (1 : Int32))])) rfl (hb hby at_66) rfl (by decide) (cap := 1) (by decide) (by decide) (by decide) (by decide) (ad := "[I") (by decide)
      obtain ⟨b528, g528⟩ : ∃ z, z = h522.size := ⟨_, rfl⟩
      rw [← g528] at A528 st528 XA528
      refine Goes.step st528 ?_
      have g_b528 : n0 ≤ b528 := Nat.le_trans Z527 (Nat.le_of_eq g528.symm)
      have sz_b528 : h0.size ≤ b528 := Nat.le_trans K527.1 (Nat.le_of_eq g528.symm)
      have ne529 : b509 ≠ b528 := Nat.ne_of_lt (Nat.lt_of_lt_of_le f523.lt (Nat.le_of_eq g528.symm))
      have ne530 : b516 ≠ b528 := Nat.ne_of_lt (Nat.lt_of_lt_of_le f525.lt (Nat.le_of_eq g528.symm))
      have f531 := f523.ext E528
      have f532 := f524.ext E528
      have f533 := f525.ext E528
      have f534 := f526.ext E528
      have K535 : Keep h0 h528 [] := K527.ext E528
      have Z535 : n0 ≤ h528.size := Nat.le_trans Z527 E528.1
      have E_b528 := XA528
      have V_b528 : Arv Z h528 b528 k528 .int (1 : Int32) [(.int (0 : Int32))] (.int (0 : Int32)) := (Arv.new A528 (by decide)).pad (pad_rep [] (.int (0 : Int32)) 1)
      show Goes _ _ _ _ _ _ _ (T528.setTop (mkF m 68 #[.val (.int p0), .val (.int p1), .val (.int p2), .val (.int p3), .val (.int p4), .val (.int (3 : Int32)), .val (.int g2), .val (.int g3), .val (.ref b509), .val (.ref b516), .unset, .unset, .unset, .unset, .unset, .unset, .unset, .unset, .unset, .unset, .unset] [(.ref b528)]))
      refine Goes.step (fun _ k => XS.dup X528.here hx rfl (hb hby at_68) rfl rfl k) ?_
      show Goes _ _ _ _ _ _ _ (T528.setTop (mkF m 69 #[.val (.int p0), .val (.int p1), .val (.int p2), .val (.int p3), .val (.int p4), .val (.int (3 : Int32)), .val (.int g2), .val (.int g3), .val (.ref b509), .val (.ref b516), .unset, .unset, .unset, .unset, .unset, .unset, .unset, .unset, .unset, .unset, .unset] [(.ref b528), (.ref b528)]))
      refine Goes.step (fun _ k => XS.iconst X528.here hx rfl (hb hby at_69) k) ?_
      show Goes _ _ _ _ _ _ _ (T528.setTop (mkF m 70 #[.val (.int p0), .val (.int p1), .val (.int p2), .val (.int p3), .val (.int p4), .val (.int (3 : Int32)), .val (.int g2), .val (.int g3), .val (.ref b509), .val (.ref b516), .unset, .unset, .unset, .unset, .unset, .unset, .unset, .unset, .unset, .unset, .unset] [(.int (0 : Int32)), (.ref b528), (.ref b528)]))
      refine Goes.step (fun _ k => XS.iconst X528.here hx rfl (hb hby at_70) k) ?_
      show Goes _ _ _ _ _ _ _ (T528.setTop (mkF m 71 #[.val (.int p0), .val (.int p1), .val (.int p2), .val (.int p3), .val (.int p4), .val (.int (3 : Int32)), .val (.int g2), .val (.int g3), .val (.ref b509), .val (.ref b516), .unset, .unset, .unset, .unset, .unset, .unset, .unset, .unset, .unset, .unset, .unset] [(.int (3 : Int32)), (.int (0 : Int32)), (.ref b528), (.ref b528)]))
      obtain ⟨cl536, Ar536, q536, S536, P536, H536, G536⟩ := id V_b528
      have hin536 : ¬ ((0 : Int32) < 0 ∨ cl536.slots.size ≤ ((0 : Int32)).toNatClampNeg) := inb_of S536 ⟨by decide, by decide⟩
      obtain ⟨T537, h537, X537, e537, W537, st537⟩ := stI X528 hx hZ e528 Ar536 (j := (0 : Int32)) hin536 (g := (mkF m 71 #[.val (.int p0), .val (.int p1), .val (.int p2), .val (.int p3), .val (.int p4), .val (.int (3 : Int32)), .val (.int g2), .val (.int g3), .val (.ref b509), .val (.ref b516), .unset, .unset, .unset, .unset, .unset, .unset, .unset, .unset, .unset, .unset, .unset] [(.int (3 : Int32)), (.int (0 : Int32)), (.ref b528), (.ref b528)])) rfl rfl (hb hby at_71)
      refine Goes.step st537 ?_
      have V537 := Arv.set Ar536 q536 S536 P536 H536 G536 rfl W537 0 rfl (Nat.le_of_ble_eq_true rfl)
      have f538 := f531.wr W537
      have f539 := f532.other W537 ne529
      have f540 := f533.wr W537
      have f541 := f534.other W537 ne530
      have f542 := E_b528.wr W537
      have f543 := V537
      have K544 : Keep h0 h537 [] := K535.wr W537 (Or.inr sz_b528)
      have Z544 : n0 ≤ h537.size := by rw [Wr.size W537]; exact Z535
      have N544 := Fr.snoc X537 N527 g_b528
      show Goes _ _ _ _ _ _ _ (T537.setTop (mkF m 72 #[.val (.int p0), .val (.int p1), .val (.int p2), .val (.int p3), .val (.int p4), .val (.int (3 : Int32)), .val (.int g2), .val (.int g3), .val (.ref b509), .val (.ref b516), .unset, .unset, .unset, .unset, .unset, .unset, .unset, .unset, .unset, .unset, .unset] [(.ref b528)]))
      refine Goes.step (fun _ k => XS.astore X537.here hx rfl (hb hby at_72) rfl rfl (l' := #[.val (.int p0), .val (.int p1), .val (.int p2), .val (.int p3), .val (.int p4), .val (.int (3 : Int32)), .val (.int g2), .val (.int g3), .val (.ref b509), .val (.ref b516), .val (.ref b528), .unset, .unset, .unset, .unset, .unset, .unset, .unset, .unset, .unset, .unset]) rfl k) ?_
      show Goes _ _ _ _ _ _ _ (T537.setTop (mkF m 74 #[.val (.int p0), .val (.int p1), .val (.int p2), .val (.int p3), .val (.int p4), .val (.int (3 : Int32)), .val (.int g2), .val (.int g3), .val (.ref b509), .val (.ref b516), .val (.ref b528), .unset, .unset, .unset, .unset, .unset, .unset, .unset, .unset, .unset, .unset] []))
      refine Goes.step (fun _ k => XS.iconst X537.here hx rfl (hb hby at_74) k) ?_
      show Goes _ _ _ _ _ _ _ (T537.setTop (mkF m 75 #[.val (.int p0), .val (.int p1), .val (.int p2), .val (.int p3), .val (.int p4), .val (.int (3 : Int32)), .val (.int g2), .val (.int g3), .val (.ref b509), .val (.ref b516), .val (.ref b528), .unset, .unset, .unset, .unset, .unset, .unset, .unset, .unset, .unset, .unset] [(.int (1 : Int32))]))
      obtain ⟨T545, h545, k545, X545, e545, E545, A545, XA545, st545⟩ := newPE X537 hx hZ (hw _ (List.mem_of_getElem? (i := 0) rfl)) e537 (g := (mkF m 75 #[.val (.int p0), .val (.int p1), .val (.int p2), .val (.int p3), .val (.int p4), .val (.int (3 : Int32)), .val (.int g2), .val (.int g3), .val (.ref b509), .val (.ref b516), .val (.ref b528), .unset, .unset, .unset, .unset, .unset, .unset, .unset, .unset, .unset, .unset] [(.int (1 : Int32))])) rfl (hb hby at_75) rfl (by decide) (cap := 1) (by decide) (by decide) (by decide) (by decide) (ad := "[I") (by decide)
      obtain ⟨b545, g545⟩ : ∃ z, z = h537.size := ⟨_, rfl⟩
      rw [← g545] at A545 st545 XA545
      refine Goes.step st545 ?_
      have g_b545 : n0 ≤ b545 := Nat.le_trans Z544 (Nat.le_of_eq g545.symm)
      have sz_b545 : h0.size ≤ b545 := Nat.le_trans K544.1 (Nat.le_of_eq g545.symm)
      have ne546 : b509 ≠ b545 := Nat.ne_of_lt (Nat.lt_of_lt_of_le f538.lt (Nat.le_of_eq g545.symm))
      have ne547 : b516 ≠ b545 := Nat.ne_of_lt (Nat.lt_of_lt_of_le f540.lt (Nat.le_of_eq g545.symm))
      have ne548 : b528 ≠ b545 := Nat.ne_of_lt (Nat.lt_of_lt_of_le f542.lt (Nat.le_of_eq g545.symm))
      have f549 := f538.ext E545
      have f550 := f539.ext E545
      have f551 := f540.ext E545
      have f552 := f541.ext E545
      have f553 := f542.ext E545
      have f554 := f543.ext E545
      have K555 : Keep h0 h545 [] := K544.ext E545
      have Z555 : n0 ≤ h545.size := Nat.le_trans Z544 E545.1
      have E_b545 := XA545
      have V_b545 : Arv Z h545 b545 k545 .int (1 : Int32) [(.int (0 : Int32))] (.int (0 : Int32)) := (Arv.new A545 (by decide)).pad (pad_rep [] (.int (0 : Int32)) 1)
      show Goes _ _ _ _ _ _ _ (T545.setTop (mkF m 77 #[.val (.int p0), .val (.int p1), .val (.int p2), .val (.int p3), .val (.int p4), .val (.int (3 : Int32)), .val (.int g2), .val (.int g3), .val (.ref b509), .val (.ref b516), .val (.ref b528), .unset, .unset, .unset, .unset, .unset, .unset, .unset, .unset, .unset, .unset] [(.ref b545)]))
      refine Goes.step (fun _ k => XS.dup X545.here hx rfl (hb hby at_77) rfl rfl k) ?_
      show Goes _ _ _ _ _ _ _ (T545.setTop (mkF m 78 #[.val (.int p0), .val (.int p1), .val (.int p2), .val (.int p3), .val (.int p4), .val (.int (3 : Int32)), .val (.int g2), .val (.int g3), .val (.ref b509), .val (.ref b516), .val (.ref b528), .unset, .unset, .unset, .unset, .unset, .unset, .unset, .unset, .unset, .unset] [(.ref b545), (.ref b545)]))
      refine Goes.step (fun _ k => XS.iconst X545.here hx rfl (hb hby at_78) k) ?_
      show Goes _ _ _ _ _ _ _ (T545.setTop (mkF m 79 #[.val (.int p0), .val (.int p1), .val (.int p2), .val (.int p3), .val (.int p4), .val (.int (3 : Int32)), .val (.int g2), .val (.int g3), .val (.ref b509), .val (.ref b516), .val (.ref b528), .unset, .unset, .unset, .unset, .unset, .unset, .unset, .unset, .unset, .unset] [(.int (0 : Int32)), (.ref b545), (.ref b545)]))
      refine Goes.step (fun _ k => XS.bipush X545.here hx rfl (hb hby at_79) k) ?_
      show Goes _ _ _ _ _ _ _ (T545.setTop (mkF m 81 #[.val (.int p0), .val (.int p1), .val (.int p2), .val (.int p3), .val (.int p4), .val (.int (3 : Int32)), .val (.int g2), .val (.int g3), .val (.ref b509), .val (.ref b516), .val (.ref b528), .unset, .unset, .unset, .unset, .unset, .unset, .unset, .unset, .unset, .unset] [(.int (11 : Int32)), (.int (0 : Int32)), (.ref b545), (.ref b545)]))
      obtain ⟨cl556, Ar556, q556, S556, P556, H556, G556⟩ := id V_b545
      have hin556 : ¬ ((0 : Int32) < 0 ∨ cl556.slots.size ≤ ((0 : Int32)).toNatClampNeg) := inb_of S556 ⟨by decide, by decide⟩
      obtain ⟨T557, h557, X557, e557, W557, st557⟩ := stI X545 hx hZ e545 Ar556 (j := (0 : Int32)) hin556 (g := (mkF m 81 #[.val (.int p0), .val (.int p1), .val (.int p2), .val (.int p3), .val (.int p4), .val (.int (3 : Int32)), .val (.int g2), .val (.int g3), .val (.ref b509), .val (.ref b516), .val (.ref b528), .unset, .unset, .unset, .unset, .unset, .unset, .unset, .unset, .unset, .unset] [(.int (11 : Int32)), (.int (0 : Int32)), (.ref b545), (.ref b545)])) rfl rfl (hb hby at_81)
      refine Goes.step st557 ?_
      have V557 := Arv.set Ar556 q556 S556 P556 H556 G556 rfl W557 0 rfl (Nat.le_of_ble_eq_true rfl)
      have f558 := f549.wr W557
      have f559 := f550.other W557 ne546
      have f560 := f551.wr W557
      have f561 := f552.other W557 ne547
      have f562 := f553.wr W557
      have f563 := f554.other W557 ne548
      have f564 := E_b545.wr W557
      have f565 := V557
      have K566 : Keep h0 h557 [] := K555.wr W557 (Or.inr sz_b545)
      have Z566 : n0 ≤ h557.size := by rw [Wr.size W557]; exact Z555
      have N566 := Fr.snoc X557 N544 g_b545
      show Goes _ _ _ _ _ _ _ (T557.setTop (mkF m 82 #[.val (.int p0), .val (.int p1), .val (.int p2), .val (.int p3), .val (.int p4), .val (.int (3 : Int32)), .val (.int g2), .val (.int g3), .val (.ref b509), .val (.ref b516), .val (.ref b528), .unset, .unset, .unset, .unset, .unset, .unset, .unset, .unset, .unset, .unset] [(.ref b545)]))
      refine Goes.step (fun _ k => XS.astore X557.here hx rfl (hb hby at_82) rfl rfl (l' := #[.val (.int p0), .val (.int p1), .val (.int p2), .val (.int p3), .val (.int p4), .val (.int (3 : Int32)), .val (.int g2), .val (.int g3), .val (.ref b509), .val (.ref b516), .val (.ref b528), .val (.ref b545), .unset, .unset, .unset, .unset, .unset, .unset, .unset, .unset, .unset]) rfl k) ?_
      show Goes _ _ _ _ _ _ _ (T557.setTop (mkF m 84 #[.val (.int p0), .val (.int p1), .val (.int p2), .val (.int p3), .val (.int p4), .val (.int (3 : Int32)), .val (.int g2), .val (.int g3), .val (.ref b509), .val (.ref b516), .val (.ref b528), .val (.ref b545), .unset, .unset, .unset, .unset, .unset, .unset, .unset, .unset, .unset] []))
      refine Goes.step (fun _ k => XS.iconst X557.here hx rfl (hb hby at_84) k) ?_
      show Goes _ _ _ _ _ _ _ (T557.setTop (mkF m 85 #[.val (.int p0), .val (.int p1), .val (.int p2), .val (.int p3), .val (.int p4), .val (.int (3 : Int32)), .val (.int g2), .val (.int g3), .val (.ref b509), .val (.ref b516), .val (.ref b528), .val (.ref b545), .unset, .unset, .unset, .unset, .unset, .unset, .unset, .unset, .unset] [(.int (1 : Int32))]))
      obtain ⟨T567, h567, k567, X567, e567, E567, A567, XA567, st567⟩ := newPE X557 hx hZ (hw _ (List.mem_of_getElem? (i := 0) rfl)) e557 (g := (mkF m 85 #[.val (.int p0), .val (.int p1), .val (.int p2), .val (.int p3), .val (.int p4), .val (.int (3 : Int32)), .val (.int g2), .val (.int g3), .val (.ref b509), .val (.ref b516), .val (.ref b528), .val (.ref b545), .unset, .unset, .unset, .unset, .unset, .unset, .unset, .unset, .unset] [(.int (1 : Int32))])) rfl (hb hby at_85) rfl (by decide) (cap := 1) (by decide) (by decide) (by decide) (by decide) (ad := "[I") (by decide)
      obtain ⟨b567, g567⟩ : ∃ z, z = h557.size := ⟨_, rfl⟩
      rw [← g567] at A567 st567 XA567
      refine Goes.step st567 ?_
      have g_b567 : n0 ≤ b567 := Nat.le_trans Z566 (Nat.le_of_eq g567.symm)
      have sz_b567 : h0.size ≤ b567 := Nat.le_trans K566.1 (Nat.le_of_eq g567.symm)
      have ne568 : b509 ≠ b567 := Nat.ne_of_lt (Nat.lt_of_lt_of_le f558.lt (Nat.le_of_eq g567.symm))
      have ne569 : b516 ≠ b567 := Nat.ne_of_lt (Nat.lt_of_lt_of_le f560.lt (Nat.le_of_eq g567.symm))
      have ne570 : b528 ≠ b567 := Nat.ne_of_lt (Nat.lt_of_lt_of_le f562.lt (Nat.le_of_eq g567.symm))
      have ne571 : b545 ≠ b567 := Nat.ne_of_lt (Nat.lt_of_lt_of_le f564.lt (Nat.le_of_eq g567.symm))
      have f572 := f558.ext E567
      have f573 := f559.ext E567
      have f574 := f560.ext E567
      have f575 := f561.ext E567
      have f576 := f562.ext E567
      have f577 := f563.ext E567
      have f578 := f564.ext E567
      have f579 := f565.ext E567
      have K580 : Keep h0 h567 [] := K566.ext E567
      have Z580 : n0 ≤ h567.size := Nat.le_trans Z566 E567.1
      have E_b567 := XA567
      have V_b567 : Arv Z h567 b567 k567 .int (1 : Int32) [(.int (0 : Int32))] (.int (0 : Int32)) := (Arv.new A567 (by decide)).pad (pad_rep [] (.int (0 : Int32)) 1)
      show Goes _ _ _ _ _ _ _ (T567.setTop (mkF m 87 #[.val (.int p0), .val (.int p1), .val (.int p2), .val (.int p3), .val (.int p4), .val (.int (3 : Int32)), .val (.int g2), .val (.int g3), .val (.ref b509), .val (.ref b516), .val (.ref b528), .val (.ref b545), .unset, .unset, .unset, .unset, .unset, .unset, .unset, .unset, .unset] [(.ref b567)]))
      refine Goes.step (fun _ k => XS.dup X567.here hx rfl (hb hby at_87) rfl rfl k) ?_
      show Goes _ _ _ _ _ _ _ (T567.setTop (mkF m 88 #[.val (.int p0), .val (.int p1), .val (.int p2), .val (.int p3), .val (.int p4), .val (.int (3 : Int32)), .val (.int g2), .val (.int g3), .val (.ref b509), .val (.ref b516), .val (.ref b528), .val (.ref b545), .unset, .unset, .unset, .unset, .unset, .unset, .unset, .unset, .unset] [(.ref b567), (.ref b567)]))
      refine Goes.step (fun _ k => XS.iconst X567.here hx rfl (hb hby at_88) k) ?_
      show Goes _ _ _ _ _ _ _ (T567.setTop (mkF m 89 #[.val (.int p0), .val (.int p1), .val (.int p2), .val (.int p3), .val (.int p4), .val (.int (3 : Int32)), .val (.int g2), .val (.int g3), .val (.ref b509), .val (.ref b516), .val (.ref b528), .val (.ref b545), .unset, .unset, .unset, .unset, .unset, .unset, .unset, .unset, .unset] [(.int (0 : Int32)), (.ref b567), (.ref b567)]))
      refine Goes.step (fun _ k => XS.bipush X567.here hx rfl (hb hby at_89) k) ?_
      show Goes _ _ _ _ _ _ _ (T567.setTop (mkF m 91 #[.val (.int p0), .val (.int p1), .val (.int p2), .val (.int p3), .val (.int p4), .val (.int (3 : Int32)), .val (.int g2), .val (.int g3), .val (.ref b509), .val (.ref b516), .val (.ref b528), .val (.ref b545), .unset, .unset, .unset, .unset, .unset, .unset, .unset, .unset, .unset] [(.int (12 : Int32)), (.int (0 : Int32)), (.ref b567), (.ref b567)]))
      obtain ⟨cl581, Ar581, q581, S581, P581, H581, G581⟩ := id V_b567
      have hin581 : ¬ ((0 : Int32) < 0 ∨ cl581.slots.size ≤ ((0 : Int32)).toNatClampNeg) := inb_of S581 ⟨by decide, by decide⟩
      obtain ⟨T582, h582, X582, e582, W582, st582⟩ := stI X567 hx hZ e567 Ar581 (j := (0 : Int32)) hin581 (g := (mkF m 91 #[.val (.int p0), .val (.int p1), .val (.int p2), .val (.int p3), .val (.int p4), .val (.int (3 : Int32)), .val (.int g2), .val (.int g3), .val (.ref b509), .val (.ref b516), .val (.ref b528), .val (.ref b545), .unset, .unset, .unset, .unset, .unset, .unset, .unset, .unset, .unset] [(.int (12 : Int32)), (.int (0 : Int32)), (.ref b567), (.ref b567)])) rfl rfl (hb hby at_91)
      refine Goes.step st582 ?_
      have V582 := Arv.set Ar581 q581 S581 P581 H581 G581 rfl W582 0 rfl (Nat.le_of_ble_eq_true rfl)
      have f583 := f572.wr W582
      have f584 := f573.other W582 ne568
      have f585 := f574.wr W582
      have f586 := f575.other W582 ne569
      have f587 := f576.wr W582
      have f588 := f577.other W582 ne570
      have f589 := f578.wr W582
      have f590 := f579.other W582 ne571
      have f591 := E_b567.wr W582
      have f592 := V582
      have K593 : Keep h0 h582 [] := K580.wr W582 (Or.inr sz_b567)
      have Z593 : n0 ≤ h582.size := by rw [Wr.size W582]; exact Z580
      have N593 := Fr.snoc X582 N566 g_b567
      show Goes _ _ _ _ _ _ _ (T582.setTop (mkF m 92 #[.val (.int p0), .val (.int p1), .val (.int p2), .val (.int p3), .val (.int p4), .val (.int (3 : Int32)), .val (.int g2), .val (.int g3), .val (.ref b509), .val (.ref b516), .val (.ref b528), .val (.ref b545), .unset, .unset, .unset, .unset, .unset, .unset, .unset, .unset, .unset] [(.ref b567)]))
      refine Goes.step (fun _ k => XS.astore X582.here hx rfl (hb hby at_92) rfl rfl (l' := #[.val (.int p0), .val (.int p1), .val (.int p2), .val (.int p3), .val (.int p4), .val (.int (3 : Int32)), .val (.int g2), .val (.int g3), .val (.ref b509), .val (.ref b516), .val (.ref b528), .val (.ref b545), .val (.ref b567), .unset, .unset, .unset, .unset, .unset, .unset, .unset, .unset]) rfl k) ?_
      show Goes _ _ _ _ _ _ _ (T582.setTop (mkF m 94 #[.val (.int p0), .val (.int p1), .val (.int p2), .val (.int p3), .val (.int p4), .val (.int (3 : Int32)), .val (.int g2), .val (.int g3), .val (.ref b509), .val (.ref b516), .val (.ref b528), .val (.ref b545), .val (.ref b567), .unset, .unset, .unset, .unset, .unset, .unset, .unset, .unset] []))
      refine Goes.step (fun _ k => XS.iconst X582.here hx rfl (hb hby at_94) k) ?_
      show Goes _ _ _ _ _ _ _ (T582.setTop (mkF m 95 #[.val (.int p0), .val (.int p1), .val (.int p2), .val (.int p3), .val (.int p4), .val (.int (3 : Int32)), .val (.int g2), .val (.int g3), .val (.ref b509), .val (.ref b516), .val (.ref b528), .val (.ref b545), .val (.ref b567), .unset, .unset, .unset, .unset, .unset, .unset, .unset, .unset] [(.int (1 : Int32))]))
      obtain ⟨T594, h594, k594, X594, e594, E594, A594, XA594, st594⟩ := newPE X582 hx hZ (hw _ (List.mem_of_getElem? (i := 0) rfl)) e582 (g := (mkF m 95 #[.val (.int p0), .val (.int p1), .val (.int p2), .val (.int p3), .val (.int p4), .val (.int (3 : Int32)), .val (.int g2), .val (.int g3), .val (.ref b509), .val (.ref b516), .val (.ref b528), .val (.ref b545), .val (.ref b567), .unset, .unset, .unset, .unset, .unset, .unset, .unset, .unset] [(.int (1 : Int32))])) rfl (hb hby at_95) rfl (by decide) (cap := 1) (by decide) (by decide) (by decide) (by decide) (ad := "[I") (by decide)
      obtain ⟨b594, g594⟩ : ∃ z, z = h582.size := ⟨_, rfl⟩
      rw [← g594] at A594 st594 XA594
      refine Goes.step st594 ?_
      have g_b594 : n0 ≤ b594 := Nat.le_trans Z593 (Nat.le_of_eq g594.symm)
      have sz_b594 : h0.size ≤ b594 := Nat.le_trans K593.1 (Nat.le_of_eq g594.symm)
      have ne595 : b509 ≠ b594 := Nat.ne_of_lt (Nat.lt_of_lt_of_le f583.lt (Nat.le_of_eq g594.symm))
      have ne596 : b516 ≠ b594 := Nat.ne_of_lt (Nat.lt_of_lt_of_le f585.lt (Nat.le_of_eq g594.symm))
      have ne597 : b528 ≠ b594 := Nat.ne_of_lt (Nat.lt_of_lt_of_le f587.lt (Nat.le_of_eq g594.symm))
      have ne598 : b545 ≠ b594 := Nat.ne_of_lt (Nat.lt_of_lt_of_le f589.lt (Nat.le_of_eq g594.symm))
      have ne599 : b567 ≠ b594 := Nat.ne_of_lt (Nat.lt_of_lt_of_le f591.lt (Nat.le_of_eq g594.symm))
      have f600 := f583.ext E594
      have f601 := f584.ext E594
      have f602 := f585.ext E594
      have f603 := f586.ext E594
      have f604 := f587.ext E594
      have f605 := f588.ext E594
      have f606 := f589.ext E594
      have f607 := f590.ext E594
      have f608 := f591.ext E594
      have f609 := f592.ext E594
      have K610 : Keep h0 h594 [] := K593.ext E594
      have Z610 : n0 ≤ h594.size := Nat.le_trans Z593 E594.1
      have E_b594 := XA594
      have V_b594 : Arv Z h594 b594 k594 .int (1 : Int32) [(.int (0 : Int32))] (.int (0 : Int32)) := (Arv.new A594 (by decide)).pad (pad_rep [] (.int (0 : Int32)) 1)
      show Goes _ _ _ _ _ _ _ (T594.setTop (mkF m 97 #[.val (.int p0), .val (.int p1), .val (.int p2), .val (.int p3), .val (.int p4), .val (.int (3 : Int32)), .val (.int g2), .val (.int g3), .val (.ref b509), .val (.ref b516), .val (.ref b528), .val (.ref b545), .val (.ref b567), .unset, .unset, .unset, .unset, .unset, .unset, .unset, .unset] [(.ref b594)]))
      refine Goes.step (fun _ k => XS.dup X594.here hx rfl (hb hby at_97) rfl rfl k) ?_
      show Goes _ _ _ _ _ _ _ (T594.setTop (mkF m 98 #[.val (.int p0), .val (.int p1), .val (.int p2), .val (.int p3), .val (.int p4), .val (.int (3 : Int32)), .val (.int g2), .val (.int g3), .val (.ref b509), .val (.ref b516), .val (.ref b528), .val (.ref b545), .val (.ref b567), .unset, .unset, .unset, .unset, .unset, .unset, .unset, .unset] [(.ref b594), (.ref b594)]))
      refine Goes.step (fun _ k => XS.iconst X594.here hx rfl (hb hby at_98) k) ?_
      show Goes _ _ _ _ _ _ _ (T594.setTop (mkF m 99 #[.val (.int p0), .val (.int p1), .val (.int p2), .val (.int p3), .val (.int p4), .val (.int (3 : Int32)), .val (.int g2), .val (.int g3), .val (.ref b509), .val (.ref b516), .val (.ref b528), .val (.ref b545), .val (.ref b567), .unset, .unset, .unset, .unset, .unset, .unset, .unset, .unset] [(.int (0 : Int32)), (.ref b594), (.ref b594)]))
      refine Goes.step (fun _ k => XS.bipush X594.here hx rfl (hb hby at_99) k) ?_
      show Goes _ _ _ _ _ _ _ (T594.setTop (mkF m 101 #[.val (.int p0), .val (.int p1), .val (.int p2), .val (.int p3), .val (.int p4), .val (.int (3 : Int32)), .val (.int g2), .val (.int g3), .val (.ref b509), .val (.ref b516), .val (.ref b528), .val (.ref b545), .val (.ref b567), .unset, .unset, .unset, .unset, .unset, .unset, .unset, .unset] [(.int (13 : Int32)), (.int (0 : Int32)), (.ref b594), (.ref b594)]))
      obtain ⟨cl611, Ar611, q611, S611, P611, H611, G611⟩ := id V_b594
      have hin611 : ¬ ((0 : Int32) < 0 ∨ cl611.slots.size ≤ ((0 : Int32)).toNatClampNeg) := inb_of S611 ⟨by decide, by decide⟩
      obtain ⟨T612, h612, X612, e612, W612, st612⟩ := stI X594 hx hZ e594 Ar611 (j := (0 : Int32)) hin611 (g := (mkF m 101 #[.val (.int p0), .val (.int p1), .val (.int p2), .val (.int p3), .val (.int p4), .val (.int (3 : Int32)), .val (.int g2), .val (.int g3), .val (.ref b509), .val (.ref b516), .val (.ref b528), .val (.ref b545), .val (.ref b567), .unset, .unset, .unset, .unset, .unset, .unset, .unset, .unset] [(.int (13 : Int32)), (.int (0 : Int32)), (.ref b594), (.ref b594)])) rfl rfl (hb hby at_101)
      refine Goes.step st612 ?_
      have V612 := Arv.set Ar611 q611 S611 P611 H611 G611 rfl W612 0 rfl (Nat.le_of_ble_eq_true rfl)
      have f613 := f600.wr W612
      have f614 := f601.other W612 ne595
      have f615 := f602.wr W612
      have f616 := f603.other W612 ne596
      have f617 := f604.wr W612
      have f618 := f605.other W612 ne597
      have f619 := f606.wr W612
      have f620 := f607.other W612 ne598
      have f621 := f608.wr W612
      have f622 := f609.other W612 ne599
      have f623 := E_b594.wr W612
      have f624 := V612
      have K625 : Keep h0 h612 [] := K610.wr W612 (Or.inr sz_b594)
      have Z625 : n0 ≤ h612.size := by rw [Wr.size W612]; exact Z610
      have N625 := Fr.snoc X612 N593 g_b594
      show Goes _ _ _ _ _ _ _ (T612.setTop (mkF m 102 #[.val (.int p0), .val (.int p1), .val (.int p2), .val (.int p3), .val (.int p4), .val (.int (3 : Int32)), .val (.int g2), .val (.int g3), .val (.ref b509), .val (.ref b516), .val (.ref b528), .val (.ref b545), .val (.ref b567), .unset, .unset, .unset, .unset, .unset, .unset, .unset, .unset] [(.ref b594)]))
      refine Goes.step (fun _ k => XS.astore X612.here hx rfl (hb hby at_102) rfl rfl (l' := #[.val (.int p0), .val (.int p1), .val (.int p2), .val (.int p3), .val (.int p4), .val (.int (3 : Int32)), .val (.int g2), .val (.int g3), .val (.ref b509), .val (.ref b516), .val (.ref b528), .val (.ref b545), .val (.ref b567), .val (.ref b594), .unset, .unset, .unset, .unset, .unset, .unset, .unset]) rfl k) ?_
      show Goes _ _ _ _ _ _ _ (T612.setTop (mkF m 104 #[.val (.int p0), .val (.int p1), .val (.int p2), .val (.int p3), .val (.int p4), .val (.int (3 : Int32)), .val (.int g2), .val (.int g3), .val (.ref b509), .val (.ref b516), .val (.ref b528), .val (.ref b545), .val (.ref b567), .val (.ref b594), .unset, .unset, .unset, .unset, .unset, .unset, .unset] []))
      obtain ⟨T626, h626, X626, e626, E626, A626, D626, -, st626⟩ := newO X612 hx hZ hown (hw _ (List.mem_of_getElem? (i := 1) rfl)) (hw _ (List.mem_of_getElem? (i := 2) rfl)) (hw _ (List.mem_of_getElem? (i := 3) rfl)) e612 (g := (mkF m 104 #[.val (.int p0), .val (.int p1), .val (.int p2), .val (.int p3), .val (.int p4), .val (.int (3 : Int32)), .val (.int g2), .val (.int g3), .val (.ref b509), .val (.ref b516), .val (.ref b528), .val (.ref b545), .val (.ref b567), .val (.ref b594), .unset, .unset, .unset, .unset, .unset, .unset, .unset] [])) rfl (hb hby at_104) (by decide) (by decide)
      obtain ⟨b626, g626⟩ : ∃ z, z = h612.size := ⟨_, rfl⟩
      rw [← g626] at A626 D626 st626
      refine Goes.step st626 ?_
      have g_b626 : n0 ≤ b626 := Nat.le_trans Z625 (Nat.le_of_eq g626.symm)
      have sz_b626 : h0.size ≤ b626 := Nat.le_trans K625.1 (Nat.le_of_eq g626.symm)
      have ne627 : b509 ≠ b626 := Nat.ne_of_lt (Nat.lt_of_lt_of_le f613.lt (Nat.le_of_eq g626.symm))
      have ne628 : b516 ≠ b626 := Nat.ne_of_lt (Nat.lt_of_lt_of_le f615.lt (Nat.le_of_eq g626.symm))
      have ne629 : b528 ≠ b626 := Nat.ne_of_lt (Nat.lt_of_lt_of_le f617.lt (Nat.le_of_eq g626.symm))
      have ne630 : b545 ≠ b626 := Nat.ne_of_lt (Nat.lt_of_lt_of_le f619.lt (Nat.le_of_eq g626.symm))
      have ne631 : b567 ≠ b626 := Nat.ne_of_lt (Nat.lt_of_lt_of_le f621.lt (Nat.le_of_eq g626.symm))
      have ne632 : b594 ≠ b626 := Nat.ne_of_lt (Nat.lt_of_lt_of_le f623.lt (Nat.le_of_eq g626.symm))
      have f633 := f613.ext E626
      have f634 := f614.ext E626
      have f635 := f615.ext E626
      have f636 := f616.ext E626
      have f637 := f617.ext E626
      have f638 := f618.ext E626
      have f639 := f619.ext E626
      have f640 := f620.ext E626
      have f641 := f621.ext E626
      have f642 := f622.ext E626
      have f643 := f623.ext E626
      have f644 := f624.ext E626
      have K645 : Keep h0 h626 [] := K625.ext E626
      have Z645 : n0 ≤ h626.size := Nat.le_trans Z625 E626.1
      have E_b626 := A626
      have F_most_b626 : Fld Z h626 b626 "com/example/nehaba/nehaba/input/KeptValues" "most" "I" (.int (0 : Int32)) := D626 (Or.inr (hw _ (List.mem_of_getElem? (i := 12) rfl))) (ty := .int) (by decide)
      have F_keys_b626 : Fld Z h626 b626 "com/example/nehaba/nehaba/input/KeptValues" "keys" "[Ljava/lang/Object;" .null := D626 (Or.inr (hw _ (List.mem_of_getElem? (i := 25) rfl))) (ty := (.array (.object "java/lang/Object"))) (by decide)
      have F_hashes_b626 : Fld Z h626 b626 "com/example/nehaba/nehaba/input/KeptValues" "hashes" "[I" .null := D626 (Or.inr (hw _ (List.mem_of_getElem? (i := 27) rfl))) (ty := (.array .int)) (by decide)
      have F_values_b626 : Fld Z h626 b626 "com/example/nehaba/nehaba/input/KeptValues" "values" "[Ljava/lang/Object;" .null := D626 (Or.inr (hw _ (List.mem_of_getElem? (i := 29) rfl))) (ty := (.array (.object "java/lang/Object"))) (by decide)
      have F_shift_b626 : Fld Z h626 b626 "com/example/nehaba/nehaba/input/KeptValues" "shift" "I" (.int (0 : Int32)) := D626 (Or.inr (hw _ (List.mem_of_getElem? (i := 32) rfl))) (ty := .int) (by decide)
      have F_size_b626 : Fld Z h626 b626 "com/example/nehaba/nehaba/input/KeptValues" "size" "I" (.int (0 : Int32)) := D626 (Or.inl (hw _ (List.mem_of_getElem? (i := 39) rfl))) (ty := .int) (by decide)
      show Goes _ _ _ _ _ _ _ (T626.setTop (mkF m 107 #[.val (.int p0), .val (.int p1), .val (.int p2), .val (.int p3), .val (.int p4), .val (.int (3 : Int32)), .val (.int g2), .val (.int g3), .val (.ref b509), .val (.ref b516), .val (.ref b528), .val (.ref b545), .val (.ref b567), .val (.ref b594), .unset, .unset, .unset, .unset, .unset, .unset, .unset] [(.ref b626)]))
      refine Goes.step (fun _ k => XS.dup X626.here hx rfl (hb hby at_107) rfl rfl k) ?_
      show Goes _ _ _ _ _ _ _ (T626.setTop (mkF m 108 #[.val (.int p0), .val (.int p1), .val (.int p2), .val (.int p3), .val (.int p4), .val (.int (3 : Int32)), .val (.int g2), .val (.int g3), .val (.ref b509), .val (.ref b516), .val (.ref b528), .val (.ref b545), .val (.ref b567), .val (.ref b594), .unset, .unset, .unset, .unset, .unset, .unset, .unset] [(.ref b626), (.ref b626)]))
      refine Goes.step (fun _ k => XS.iload X626.here hx rfl (hb hby at_108) rfl  k) ?_
      show Goes _ _ _ _ _ _ _ (T626.setTop (mkF m 110 #[.val (.int p0), .val (.int p1), .val (.int p2), .val (.int p3), .val (.int p4), .val (.int (3 : Int32)), .val (.int g2), .val (.int g3), .val (.ref b509), .val (.ref b516), .val (.ref b528), .val (.ref b545), .val (.ref b567), .val (.ref b594), .unset, .unset, .unset, .unset, .unset, .unset, .unset] [(.int (3 : Int32)), (.ref b626), (.ref b626)]))
      obtain ⟨_, _, ⟨T646, L646, k646, n646⟩, -, X646, ⟨Lc646, hQ646, l646, y646, z646⟩, st646⟩ := X626.specialBack hx (y := (⟨"com/example/nehaba/nehaba/input/KeptValues", "<init>", "(I)V"⟩ : MethodName)) rfl hown (mvT hZ (hw _ (List.mem_of_getElem? (i := 4) rfl))) (mvT hZ (hw _ (List.mem_of_getElem? (i := 5) rfl))) (mvT hZ (hw _ (List.mem_of_getElem? (i := 6) rfl))) (by decide) (backOf (W := 1) (rm1_3 l Z a0 hw [] b626 h626 n0 Z645 F_most_b626 F_keys_b626 F_hashes_b626 F_values_b626 F_shift_b626 F_size_b626 E_b626 g_b626) hZ (hw _ (List.mem_of_getElem? (i := 6) rfl)) (hw _ (List.mem_of_getElem? (i := 3) rfl)) (by decide) (by decide)) (g := (mkF m 110 #[.val (.int p0), .val (.int p1), .val (.int p2), .val (.int p3), .val (.int p4), .val (.int (3 : Int32)), .val (.int g2), .val (.int g3), .val (.ref b509), .val (.ref b516), .val (.ref b528), .val (.ref b545), .val (.ref b567), .val (.ref b594), .unset, .unset, .unset, .unset, .unset, .unset, .unset] [(.int (3 : Int32)), (.ref b626), (.ref b626)])) rfl (by rw [hml]; rfl) (Steps.refl _) (a := b626) (argsL := [(.int (3 : Int32))]) (rest := [(.ref b626)]) (lenOf pd_0 rfl) rfl (by show 2 * 0 + _ ≤ _; exact Nat.le_of_eq rfl) (hb hby at_110) (fun _ _ => ⟨rfl, e626, (by decide : 7 + 3 ≤ _), (by decide : 12 + 24 ≤ _)⟩)
      dsimp only [Pt.U, Pt.locs, Pt.cells, Pt.slots] at X646 l646 y646 z646 st646 hQ646
      subst l646 y646 z646
      obtain ⟨N646, KK646, hR646⟩ := hQ646
      have NA646 := Fr.app N625 N646
      have f647 := f633.keep KK646
      have f648 := f634.keep KK646 (ninS ne627 nin0)
      have f649 := f635.keep KK646
      have f650 := f636.keep KK646 (ninS ne628 nin0)
      have f651 := f637.keep KK646
      have f652 := f638.keep KK646 (ninS ne629 nin0)
      have f653 := f639.keep KK646
      have f654 := f640.keep KK646 (ninS ne630 nin0)
      have f655 := f641.keep KK646
      have f656 := f642.keep KK646 (ninS ne631 nin0)
      have f657 := f643.keep KK646
      have f658 := f644.keep KK646 (ninS ne632 nin0)
      have f659 := E_b626.keep KK646
      have K666 : Keep h0 T646.heap [] := K645.trans KK646 (allS (Or.inr sz_b626) all0)
      have Z666 : n0 ≤ T646.heap.size := Nat.le_trans Z645 KK646.1
      obtain ⟨r646_0_0, r646_0_1, r646_0_2, kk646_0_0, kk646_0_1, kk646_0_2, rfl, g_r646_0_0, le_r646_0_0, g_r646_0_1, le_r646_0_1, g_r646_0_2, le_r646_0_2, nn646_0_0, nn646_0_1, nn646_0_2, v646_0_0, v646_0_1, v646_0_2, v646_0_3, v646_0_4, v646_0_5, v646_0_6, v646_0_7, v646_0_8, v646_0_9, oo646_0_0, oo646_0_1⟩ := hR646
      have ne667 : b509 ≠ r646_0_0 := Nat.ne_of_lt (Nat.lt_of_lt_of_le f633.lt le_r646_0_0)
      have ne668 : b516 ≠ r646_0_0 := Nat.ne_of_lt (Nat.lt_of_lt_of_le f635.lt le_r646_0_0)
      have ne669 : b528 ≠ r646_0_0 := Nat.ne_of_lt (Nat.lt_of_lt_of_le f637.lt le_r646_0_0)
      have ne670 : b545 ≠ r646_0_0 := Nat.ne_of_lt (Nat.lt_of_lt_of_le f639.lt le_r646_0_0)
      have ne671 : b567 ≠ r646_0_0 := Nat.ne_of_lt (Nat.lt_of_lt_of_le f641.lt le_r646_0_0)
      have ne672 : b594 ≠ r646_0_0 := Nat.ne_of_lt (Nat.lt_of_lt_of_le f643.lt le_r646_0_0)
      have ne673 : b626 ≠ r646_0_0 := Nat.ne_of_lt (Nat.lt_of_lt_of_le E_b626.lt le_r646_0_0)
      have sz_r646_0_0 : h0.size ≤ r646_0_0 := Nat.le_trans K645.1 le_r646_0_0
      have ne674 : b509 ≠ r646_0_1 := Nat.ne_of_lt (Nat.lt_of_lt_of_le f633.lt le_r646_0_1)
      have ne675 : b516 ≠ r646_0_1 := Nat.ne_of_lt (Nat.lt_of_lt_of_le f635.lt le_r646_0_1)
      have ne676 : b528 ≠ r646_0_1 := Nat.ne_of_lt (Nat.lt_of_lt_of_le f637.lt le_r646_0_1)
      have ne677 : b545 ≠ r646_0_1 := Nat.ne_of_lt (Nat.lt_of_lt_of_le f639.lt le_r646_0_1)
      have ne678 : b567 ≠ r646_0_1 := Nat.ne_of_lt (Nat.lt_of_lt_of_le f641.lt le_r646_0_1)
      have ne679 : b594 ≠ r646_0_1 := Nat.ne_of_lt (Nat.lt_of_lt_of_le f643.lt le_r646_0_1)
      have ne680 : b626 ≠ r646_0_1 := Nat.ne_of_lt (Nat.lt_of_lt_of_le E_b626.lt le_r646_0_1)
      have sz_r646_0_1 : h0.size ≤ r646_0_1 := Nat.le_trans K645.1 le_r646_0_1
      have ne681 : b509 ≠ r646_0_2 := Nat.ne_of_lt (Nat.lt_of_lt_of_le f633.lt le_r646_0_2)
      have ne682 : b516 ≠ r646_0_2 := Nat.ne_of_lt (Nat.lt_of_lt_of_le f635.lt le_r646_0_2)
      have ne683 : b528 ≠ r646_0_2 := Nat.ne_of_lt (Nat.lt_of_lt_of_le f637.lt le_r646_0_2)
      have ne684 : b545 ≠ r646_0_2 := Nat.ne_of_lt (Nat.lt_of_lt_of_le f639.lt le_r646_0_2)
      have ne685 : b567 ≠ r646_0_2 := Nat.ne_of_lt (Nat.lt_of_lt_of_le f641.lt le_r646_0_2)
      have ne686 : b594 ≠ r646_0_2 := Nat.ne_of_lt (Nat.lt_of_lt_of_le f643.lt le_r646_0_2)
      have ne687 : b626 ≠ r646_0_2 := Nat.ne_of_lt (Nat.lt_of_lt_of_le E_b626.lt le_r646_0_2)
      have sz_r646_0_2 : h0.size ≤ r646_0_2 := Nat.le_trans K645.1 le_r646_0_2
      refine Goes.back st646 ?_
      show Goes _ _ _ _ _ _ _ (T646.setTop (mkF m 113 #[.val (.int p0), .val (.int p1), .val (.int p2), .val (.int p3), .val (.int p4), .val (.int (3 : Int32)), .val (.int g2), .val (.int g3), .val (.ref b509), .val (.ref b516), .val (.ref b528), .val (.ref b545), .val (.ref b567), .val (.ref b594), .unset, .unset, .unset, .unset, .unset, .unset, .unset] [(.ref b626)]))
      have hN8 : 8 = 2 ∨ 8 = 4 ∨ 8 = 8 := (Or.inr (Or.inr rfl))
      have hS8 : (8 = 2 ∧ (29 : Int32) = 31) ∨ (8 = 4 ∧ (29 : Int32) = 30) ∨ (8 = 8 ∧ (29 : Int32) = 29) := (Or.inr (Or.inr ⟨rfl, rfl⟩))
      obtain ⟨f1, hf1⟩ : ∃ z : Fin 8, z.val = (own_f p1 (29 : Int32)).toNatClampNeg := ⟨⟨_, (own_first (N := 8) p1 hS8).2⟩, rfl⟩
      obtain ⟨f2, hf2⟩ : ∃ z : Fin 8, z.val = (own_f g2 (29 : Int32)).toNatClampNeg := ⟨⟨_, (own_first (N := 8) g2 hS8).2⟩, rfl⟩
      obtain ⟨f3, hf3⟩ : ∃ z : Fin 8, z.val = (own_f g3 (29 : Int32)).toNatClampNeg := ⟨⟨_, (own_first (N := 8) g3 hS8).2⟩, rfl⟩
      have ea : decide (p1 = g2) = true → f1 = f2 := fun z => Fin.ext (by rw [hf1, hf2, of_decide_eq_true z])
      have eb : decide (p1 = g3) = true → f1 = f3 := fun z => Fin.ext (by rw [hf1, hf3, of_decide_eq_true z])
      have ec : decide (g2 = g3) = true → f2 = f3 := fun z => Fin.ext (by rw [hf2, hf3, of_decide_eq_true z])
      have eab : decide (p1 = g2) = true → decide (p1 = g3) = decide (g2 = g3) := fun z => by rw [of_decide_eq_true z]
      have eba : decide (p1 = g3) = true → decide (p1 = g2) = decide (g2 = g3) := fun z => by rw [of_decide_eq_true z]; simp only [eq_comm]
      obtain ⟨q2, q3, pr2, pr3, fd1, fd2, fd3⟩ := own_all8 f1 f2 f3 (decide (p1 = g2)) (decide (p1 = g3)) (decide (g2 = g3)) ea eb ec eab eba
      show Goes _ _ _ _ _ _ _ (T646.setTop (mkF m 113 #[.val (.int p0), .val (.int p1), .val (.int p2), .val (.int p3), .val (.int p4), .val (.int (3 : Int32)), .val (.int g2), .val (.int g3), .val (.ref b509), .val (.ref b516), .val (.ref b528), .val (.ref b545), .val (.ref b567), .val (.ref b594), .unset, .unset, .unset, .unset, .unset, .unset, .unset] [(.ref b626)]))
      refine Goes.step (fun _ k => XS.astore X646.here hx rfl (hb hby at_113) rfl rfl (l' := #[.val (.int p0), .val (.int p1), .val (.int p2), .val (.int p3), .val (.int p4), .val (.int (3 : Int32)), .val (.int g2), .val (.int g3), .val (.ref b509), .val (.ref b516), .val (.ref b528), .val (.ref b545), .val (.ref b567), .val (.ref b594), .val (.ref b626), .unset, .unset, .unset, .unset, .unset, .unset]) rfl k) ?_
      show Goes _ _ _ _ _ _ _ (T646.setTop (mkF m 115 #[.val (.int p0), .val (.int p1), .val (.int p2), .val (.int p3), .val (.int p4), .val (.int (3 : Int32)), .val (.int g2), .val (.int g3), .val (.ref b509), .val (.ref b516), .val (.ref b528), .val (.ref b545), .val (.ref b567), .val (.ref b594), .val (.ref b626), .unset, .unset, .unset, .unset, .unset, .unset] []))
      refine Goes.step (fun _ k => XS.aload X646.here hx rfl (hb hby at_115) rfl rfl k) ?_
      show Goes _ _ _ _ _ _ _ (T646.setTop (mkF m 117 #[.val (.int p0), .val (.int p1), .val (.int p2), .val (.int p3), .val (.int p4), .val (.int (3 : Int32)), .val (.int g2), .val (.int g3), .val (.ref b509), .val (.ref b516), .val (.ref b528), .val (.ref b545), .val (.ref b567), .val (.ref b594), .val (.ref b626), .unset, .unset, .unset, .unset, .unset, .unset] [(.ref b626)]))
      refine Goes.step (fun _ k => XS.iloadN X646.here hx rfl (hb hby at_117) rfl  k) ?_
      show Goes _ _ _ _ _ _ _ (T646.setTop (mkF m 118 #[.val (.int p0), .val (.int p1), .val (.int p2), .val (.int p3), .val (.int p4), .val (.int (3 : Int32)), .val (.int g2), .val (.int g3), .val (.ref b509), .val (.ref b516), .val (.ref b528), .val (.ref b545), .val (.ref b567), .val (.ref b594), .val (.ref b626), .unset, .unset, .unset, .unset, .unset, .unset] [(.int p1), (.ref b626)]))
      refine Goes.step (fun _ k => XS.aload X646.here hx rfl (hb hby at_118) rfl rfl k) ?_
      show Goes _ _ _ _ _ _ _ (T646.setTop (mkF m 120 #[.val (.int p0), .val (.int p1), .val (.int p2), .val (.int p3), .val (.int p4), .val (.int (3 : Int32)), .val (.int g2), .val (.int g3), .val (.ref b509), .val (.ref b516), .val (.ref b528), .val (.ref b545), .val (.ref b567), .val (.ref b594), .val (.ref b626), .unset, .unset, .unset, .unset, .unset, .unset] [(.ref b509), (.int p1), (.ref b626)]))
      refine Goes.step (fun _ k => XS.aload X646.here hx rfl (hb hby at_120) rfl rfl k) ?_
      show Goes _ _ _ _ _ _ _ (T646.setTop (mkF m 122 #[.val (.int p0), .val (.int p1), .val (.int p2), .val (.int p3), .val (.int p4), .val (.int (3 : Int32)), .val (.int g2), .val (.int g3), .val (.ref b509), .val (.ref b516), .val (.ref b528), .val (.ref b545), .val (.ref b567), .val (.ref b594), .val (.ref b626), .unset, .unset, .unset, .unset, .unset, .unset] [(.ref b545), (.ref b509), (.int p1), (.ref b626)]))
      obtain ⟨cq688, kq688, q688a, q688b, q688c⟩ := isOf hZ rfl v646_0_6
      obtain ⟨_, _, ⟨T688, L688, k688, n688⟩, -, X688, ⟨Lc688, hQ688, l688, y688, z688⟩, st688⟩ := X646.virtualBack hx (y := (⟨"com/example/nehaba/nehaba/input/KeptValues", "put", "(ILjava/lang/Object;Ljava/lang/Object;)Ljava/lang/Object;"⟩ : MethodName)) (z := (⟨"com/example/nehaba/nehaba/input/KeptValues", "put", "(ILjava/lang/Object;Ljava/lang/Object;)Ljava/lang/Object;"⟩ : MethodName)) hown (mvT hZ (hw _ (List.mem_of_getElem? (i := 33) rfl))) (mvT hZ (hw _ (List.mem_of_getElem? (i := 34) rfl))) (notFace_of_selects (args := #[]) (mvT hZ (hw _ (List.mem_of_getElem? (i := 36) rfl)))) (mvT hZ (hw _ (List.mem_of_getElem? (i := 36) rfl))) (mvT hZ (hw _ (List.mem_of_getElem? (i := 35) rfl))) (by decide) (backOf (W := 0) (rm5_n l Z a0 hw [] b626 p1 b509 b545 r646_0_0 r646_0_1 r646_0_2 kk646_0_0 kk646_0_1 kk646_0_2 8 own_t0 (fun _ => (0 : Int32)) (own_K b509 b516 b528) (own_K b545 b567 b594) (29 : Int32) (3 : Int32) (0 : Int32) 0 9 f1.val T646.heap n0 Z666 v646_0_6 v646_0_1 v646_0_2 v646_0_3 v646_0_0 v646_0_5 v646_0_4 v646_0_7 v646_0_8 v646_0_9 oo646_0_0 oo646_0_1 (Ins.of_exa f647 (hw _ (List.mem_of_getElem? (i := 45) rfl))) (Ins.of_exa f653 (hw _ (List.mem_of_getElem? (i := 45) rfl))) rfl rfl g_b626 g_r646_0_0 g_r646_0_1 g_r646_0_2 (Ne.symm ne673) (Ne.symm ne680) nn646_0_0 (Ne.symm ne687) nn646_0_1 nn646_0_2 (by decide) hN8 hS8 (by rw [← hf1]; exact own_probe0 _ _)) hZ (hw _ (List.mem_of_getElem? (i := 37) rfl)) (hw _ (List.mem_of_getElem? (i := 3) rfl)) (by decide) (by decide)) q688a q688c (g := (mkF m 122 #[.val (.int p0), .val (.int p1), .val (.int p2), .val (.int p3), .val (.int p4), .val (.int (3 : Int32)), .val (.int g2), .val (.int g3), .val (.ref b509), .val (.ref b516), .val (.ref b528), .val (.ref b545), .val (.ref b567), .val (.ref b594), .val (.ref b626), .unset, .unset, .unset, .unset, .unset, .unset] [(.ref b545), (.ref b509), (.int p1), (.ref b626)])) rfl (by rw [hml]; rfl) (Steps.refl _) (argsL := [(.int p1), (.ref b509), (.ref b545)]) (rest := []) (lenOf pd_3 rfl) rfl (by show 2 * 0 + _ ≤ _; exact Nat.le_of_eq rfl) (hb hby at_122) (fun _ _ => ⟨rfl, rfl, (by decide : 10 + 0 ≤ _), (by decide : 36 + 0 ≤ _)⟩)
      dsimp only [Pt.U, Pt.locs, Pt.cells, Pt.slots] at X688 l688 y688 z688 st688 hQ688
      subst l688 y688 z688
      obtain ⟨N688, KK688, rfl, pf688_0, pf688_1, pf688_2, pf688_3, pf688_4, pf688_5, pf688_6, pf688_7, pf688_8, pf688_9⟩ := hQ688
      have NA688 := Fr.app NA646 N688
      have f689 := f647.keep KK688
      have f690 := f648.keep KK688 (ninS ne627 (ninS ne667 (ninS ne674 (ninS ne681 nin0))))
      have f691 := f649.keep KK688
      have f692 := f650.keep KK688 (ninS ne628 (ninS ne668 (ninS ne675 (ninS ne682 nin0))))
      have f693 := f651.keep KK688
      have f694 := f652.keep KK688 (ninS ne629 (ninS ne669 (ninS ne676 (ninS ne683 nin0))))
      have f695 := f653.keep KK688
      have f696 := f654.keep KK688 (ninS ne630 (ninS ne670 (ninS ne677 (ninS ne684 nin0))))
      have f697 := f655.keep KK688
      have f698 := f656.keep KK688 (ninS ne631 (ninS ne671 (ninS ne678 (ninS ne685 nin0))))
      have f699 := f657.keep KK688
      have f700 := f658.keep KK688 (ninS ne632 (ninS ne672 (ninS ne679 (ninS ne686 nin0))))
      have f701 := v646_0_6.keep KK688
      have K711 : Keep h0 T688.heap [] := K666.trans KK688 (allS (Or.inr sz_b626) (allS (Or.inr sz_r646_0_0) (allS (Or.inr sz_r646_0_1) (allS (Or.inr sz_r646_0_2) all0))))
      have Z711 : n0 ≤ T688.heap.size := Nat.le_trans Z666 KK688.1
      refine Goes.back st688 ?_
      show Goes _ _ _ _ _ _ _ (T688.setTop (mkF m 125 #[.val (.int p0), .val (.int p1), .val (.int p2), .val (.int p3), .val (.int p4), .val (.int (3 : Int32)), .val (.int g2), .val (.int g3), .val (.ref b509), .val (.ref b516), .val (.ref b528), .val (.ref b545), .val (.ref b567), .val (.ref b594), .val (.ref b626), .unset, .unset, .unset, .unset, .unset, .unset] [(.ref b545)]))
      refine Goes.step (fun _ k => XS.astore X688.here hx rfl (hb hby at_125) rfl rfl (l' := #[.val (.int p0), .val (.int p1), .val (.int p2), .val (.int p3), .val (.int p4), .val (.int (3 : Int32)), .val (.int g2), .val (.int g3), .val (.ref b509), .val (.ref b516), .val (.ref b528), .val (.ref b545), .val (.ref b567), .val (.ref b594), .val (.ref b626), .val (.ref b545), .unset, .unset, .unset, .unset, .unset]) rfl k) ?_
      show Goes _ _ _ _ _ _ _ (T688.setTop (mkF m 127 #[.val (.int p0), .val (.int p1), .val (.int p2), .val (.int p3), .val (.int p4), .val (.int (3 : Int32)), .val (.int g2), .val (.int g3), .val (.ref b509), .val (.ref b516), .val (.ref b528), .val (.ref b545), .val (.ref b567), .val (.ref b594), .val (.ref b626), .val (.ref b545), .unset, .unset, .unset, .unset, .unset] []))
      refine Goes.step (fun _ k => XS.aload X688.here hx rfl (hb hby at_127) rfl rfl k) ?_
      show Goes _ _ _ _ _ _ _ (T688.setTop (mkF m 129 #[.val (.int p0), .val (.int p1), .val (.int p2), .val (.int p3), .val (.int p4), .val (.int (3 : Int32)), .val (.int g2), .val (.int g3), .val (.ref b509), .val (.ref b516), .val (.ref b528), .val (.ref b545), .val (.ref b567), .val (.ref b594), .val (.ref b626), .val (.ref b545), .unset, .unset, .unset, .unset, .unset] [(.ref b626)]))
      refine Goes.step (fun _ k => XS.iload X688.here hx rfl (hb hby at_129) rfl  k) ?_
      show Goes _ _ _ _ _ _ _ (T688.setTop (mkF m 131 #[.val (.int p0), .val (.int p1), .val (.int p2), .val (.int p3), .val (.int p4), .val (.int (3 : Int32)), .val (.int g2), .val (.int g3), .val (.ref b509), .val (.ref b516), .val (.ref b528), .val (.ref b545), .val (.ref b567), .val (.ref b594), .val (.ref b626), .val (.ref b545), .unset, .unset, .unset, .unset, .unset] [(.int g2), (.ref b626)]))
      refine Goes.step (fun _ k => XS.aload X688.here hx rfl (hb hby at_131) rfl rfl k) ?_
      show Goes _ _ _ _ _ _ _ (T688.setTop (mkF m 133 #[.val (.int p0), .val (.int p1), .val (.int p2), .val (.int p3), .val (.int p4), .val (.int (3 : Int32)), .val (.int g2), .val (.int g3), .val (.ref b509), .val (.ref b516), .val (.ref b528), .val (.ref b545), .val (.ref b567), .val (.ref b594), .val (.ref b626), .val (.ref b545), .unset, .unset, .unset, .unset, .unset] [(.ref b516), (.int g2), (.ref b626)]))
      refine Goes.step (fun _ k => XS.aload X688.here hx rfl (hb hby at_133) rfl rfl k) ?_
      show Goes _ _ _ _ _ _ _ (T688.setTop (mkF m 135 #[.val (.int p0), .val (.int p1), .val (.int p2), .val (.int p3), .val (.int p4), .val (.int (3 : Int32)), .val (.int g2), .val (.int g3), .val (.ref b509), .val (.ref b516), .val (.ref b528), .val (.ref b545), .val (.ref b567), .val (.ref b594), .val (.ref b626), .val (.ref b545), .unset, .unset, .unset, .unset, .unset] [(.ref b567), (.ref b516), (.int g2), (.ref b626)]))
      obtain ⟨cq712, kq712, q712a, q712b, q712c⟩ := isOf hZ rfl pf688_0
      obtain ⟨_, _, ⟨T712, L712, k712, n712⟩, -, X712, ⟨Lc712, hQ712, l712, y712, z712⟩, st712⟩ := X688.virtualBack hx (y := (⟨"com/example/nehaba/nehaba/input/KeptValues", "put", "(ILjava/lang/Object;Ljava/lang/Object;)Ljava/lang/Object;"⟩ : MethodName)) (z := (⟨"com/example/nehaba/nehaba/input/KeptValues", "put", "(ILjava/lang/Object;Ljava/lang/Object;)Ljava/lang/Object;"⟩ : MethodName)) hown (mvT hZ (hw _ (List.mem_of_getElem? (i := 33) rfl))) (mvT hZ (hw _ (List.mem_of_getElem? (i := 34) rfl))) (notFace_of_selects (args := #[]) (mvT hZ (hw _ (List.mem_of_getElem? (i := 36) rfl)))) (mvT hZ (hw _ (List.mem_of_getElem? (i := 36) rfl))) (mvT hZ (hw _ (List.mem_of_getElem? (i := 35) rfl))) (by decide) (backOf (W := 0) (rm5_n l Z a0 hw [] b626 g2 b516 b567 r646_0_0 r646_0_1 r646_0_2 kk646_0_0 kk646_0_1 kk646_0_2 8 (own_put own_t0 f1.val 0) (own_hp (fun _ => (0 : Int32)) f1.val p1) (own_K b509 b516 b528) (own_K b545 b567 b594) (29 : Int32) (3 : Int32) (1 : Int32) 1 9 q2.val T688.heap n0 Z711 pf688_0 pf688_1 pf688_2 pf688_3 pf688_4 pf688_5 pf688_6 pf688_7 pf688_8 pf688_9 oo646_0_0 oo646_0_1 (Ins.of_exa f691 (hw _ (List.mem_of_getElem? (i := 45) rfl))) (Ins.of_exa f697 (hw _ (List.mem_of_getElem? (i := 45) rfl))) rfl rfl g_b626 g_r646_0_0 g_r646_0_1 g_r646_0_2 (Ne.symm ne673) (Ne.symm ne680) nn646_0_0 (Ne.symm ne687) nn646_0_1 nn646_0_2 (by decide) hN8 hS8 (by rw [← hf2]; exact pr2)) hZ (hw _ (List.mem_of_getElem? (i := 37) rfl)) (hw _ (List.mem_of_getElem? (i := 3) rfl)) (by decide) (by decide)) q712a q712c (g := (mkF m 135 #[.val (.int p0), .val (.int p1), .val (.int p2), .val (.int p3), .val (.int p4), .val (.int (3 : Int32)), .val (.int g2), .val (.int g3), .val (.ref b509), .val (.ref b516), .val (.ref b528), .val (.ref b545), .val (.ref b567), .val (.ref b594), .val (.ref b626), .val (.ref b545), .unset, .unset, .unset, .unset, .unset] [(.ref b567), (.ref b516), (.int g2), (.ref b626)])) rfl (by rw [hml]; rfl) (Steps.refl _) (argsL := [(.int g2), (.ref b516), (.ref b567)]) (rest := []) (lenOf pd_3 rfl) rfl (by show 2 * 0 + _ ≤ _; exact Nat.le_of_eq rfl) (hb hby at_135) (fun _ _ => ⟨rfl, rfl, (by decide : 10 + 0 ≤ _), (by decide : 36 + 0 ≤ _)⟩)
      dsimp only [Pt.U, Pt.locs, Pt.cells, Pt.slots] at X712 l712 y712 z712 st712 hQ712
      subst l712 y712 z712
      obtain ⟨N712, KK712, rfl, pf712_0, pf712_1, pf712_2, pf712_3, pf712_4, pf712_5, pf712_6, pf712_7, pf712_8, pf712_9⟩ := hQ712
      have NA712 := Fr.app NA688 N712
      have f713 := f689.keep KK712
      have f714 := f690.keep KK712 (ninS ne627 (ninS ne667 (ninS ne674 (ninS ne681 nin0))))
      have f715 := f691.keep KK712
      have f716 := f692.keep KK712 (ninS ne628 (ninS ne668 (ninS ne675 (ninS ne682 nin0))))
      have f717 := f693.keep KK712
      have f718 := f694.keep KK712 (ninS ne629 (ninS ne669 (ninS ne676 (ninS ne683 nin0))))
      have f719 := f695.keep KK712
      have f720 := f696.keep KK712 (ninS ne630 (ninS ne670 (ninS ne677 (ninS ne684 nin0))))
      have f721 := f697.keep KK712
      have f722 := f698.keep KK712 (ninS ne631 (ninS ne671 (ninS ne678 (ninS ne685 nin0))))
      have f723 := f699.keep KK712
      have f724 := f700.keep KK712 (ninS ne632 (ninS ne672 (ninS ne679 (ninS ne686 nin0))))
      have f725 := pf688_0.keep KK712
      have K735 : Keep h0 T712.heap [] := K711.trans KK712 (allS (Or.inr sz_b626) (allS (Or.inr sz_r646_0_0) (allS (Or.inr sz_r646_0_1) (allS (Or.inr sz_r646_0_2) all0))))
      have Z735 : n0 ≤ T712.heap.size := Nat.le_trans Z711 KK712.1
      refine Goes.back st712 ?_
      show Goes _ _ _ _ _ _ _ (T712.setTop (mkF m 138 #[.val (.int p0), .val (.int p1), .val (.int p2), .val (.int p3), .val (.int p4), .val (.int (3 : Int32)), .val (.int g2), .val (.int g3), .val (.ref b509), .val (.ref b516), .val (.ref b528), .val (.ref b545), .val (.ref b567), .val (.ref b594), .val (.ref b626), .val (.ref b545), .unset, .unset, .unset, .unset, .unset] [(.ref b567)]))
      refine Goes.step (fun _ k => XS.astore X712.here hx rfl (hb hby at_138) rfl rfl (l' := #[.val (.int p0), .val (.int p1), .val (.int p2), .val (.int p3), .val (.int p4), .val (.int (3 : Int32)), .val (.int g2), .val (.int g3), .val (.ref b509), .val (.ref b516), .val (.ref b528), .val (.ref b545), .val (.ref b567), .val (.ref b594), .val (.ref b626), .val (.ref b545), .val (.ref b567), .unset, .unset, .unset, .unset]) rfl k) ?_
      show Goes _ _ _ _ _ _ _ (T712.setTop (mkF m 140 #[.val (.int p0), .val (.int p1), .val (.int p2), .val (.int p3), .val (.int p4), .val (.int (3 : Int32)), .val (.int g2), .val (.int g3), .val (.ref b509), .val (.ref b516), .val (.ref b528), .val (.ref b545), .val (.ref b567), .val (.ref b594), .val (.ref b626), .val (.ref b545), .val (.ref b567), .unset, .unset, .unset, .unset] []))
      refine Goes.step (fun _ k => XS.aload X712.here hx rfl (hb hby at_140) rfl rfl k) ?_
      show Goes _ _ _ _ _ _ _ (T712.setTop (mkF m 142 #[.val (.int p0), .val (.int p1), .val (.int p2), .val (.int p3), .val (.int p4), .val (.int (3 : Int32)), .val (.int g2), .val (.int g3), .val (.ref b509), .val (.ref b516), .val (.ref b528), .val (.ref b545), .val (.ref b567), .val (.ref b594), .val (.ref b626), .val (.ref b545), .val (.ref b567), .unset, .unset, .unset, .unset] [(.ref b626)]))
      refine Goes.step (fun _ k => XS.iload X712.here hx rfl (hb hby at_142) rfl  k) ?_
      show Goes _ _ _ _ _ _ _ (T712.setTop (mkF m 144 #[.val (.int p0), .val (.int p1), .val (.int p2), .val (.int p3), .val (.int p4), .val (.int (3 : Int32)), .val (.int g2), .val (.int g3), .val (.ref b509), .val (.ref b516), .val (.ref b528), .val (.ref b545), .val (.ref b567), .val (.ref b594), .val (.ref b626), .val (.ref b545), .val (.ref b567), .unset, .unset, .unset, .unset] [(.int g3), (.ref b626)]))
      refine Goes.step (fun _ k => XS.aload X712.here hx rfl (hb hby at_144) rfl rfl k) ?_
      show Goes _ _ _ _ _ _ _ (T712.setTop (mkF m 146 #[.val (.int p0), .val (.int p1), .val (.int p2), .val (.int p3), .val (.int p4), .val (.int (3 : Int32)), .val (.int g2), .val (.int g3), .val (.ref b509), .val (.ref b516), .val (.ref b528), .val (.ref b545), .val (.ref b567), .val (.ref b594), .val (.ref b626), .val (.ref b545), .val (.ref b567), .unset, .unset, .unset, .unset] [(.ref b528), (.int g3), (.ref b626)]))
      refine Goes.step (fun _ k => XS.aload X712.here hx rfl (hb hby at_146) rfl rfl k) ?_
      show Goes _ _ _ _ _ _ _ (T712.setTop (mkF m 148 #[.val (.int p0), .val (.int p1), .val (.int p2), .val (.int p3), .val (.int p4), .val (.int (3 : Int32)), .val (.int g2), .val (.int g3), .val (.ref b509), .val (.ref b516), .val (.ref b528), .val (.ref b545), .val (.ref b567), .val (.ref b594), .val (.ref b626), .val (.ref b545), .val (.ref b567), .unset, .unset, .unset, .unset] [(.ref b594), (.ref b528), (.int g3), (.ref b626)]))
      obtain ⟨cq736, kq736, q736a, q736b, q736c⟩ := isOf hZ rfl pf712_0
      obtain ⟨_, _, ⟨T736, L736, k736, n736⟩, -, X736, ⟨Lc736, hQ736, l736, y736, z736⟩, st736⟩ := X712.virtualBack hx (y := (⟨"com/example/nehaba/nehaba/input/KeptValues", "put", "(ILjava/lang/Object;Ljava/lang/Object;)Ljava/lang/Object;"⟩ : MethodName)) (z := (⟨"com/example/nehaba/nehaba/input/KeptValues", "put", "(ILjava/lang/Object;Ljava/lang/Object;)Ljava/lang/Object;"⟩ : MethodName)) hown (mvT hZ (hw _ (List.mem_of_getElem? (i := 33) rfl))) (mvT hZ (hw _ (List.mem_of_getElem? (i := 34) rfl))) (notFace_of_selects (args := #[]) (mvT hZ (hw _ (List.mem_of_getElem? (i := 36) rfl)))) (mvT hZ (hw _ (List.mem_of_getElem? (i := 36) rfl))) (mvT hZ (hw _ (List.mem_of_getElem? (i := 35) rfl))) (by decide) (backOf (W := 0) (rm5_n l Z a0 hw [] b626 g3 b528 b594 r646_0_0 r646_0_1 r646_0_2 kk646_0_0 kk646_0_1 kk646_0_2 8 (own_put (own_put own_t0 f1.val 0) q2.val 1) (own_hp (own_hp (fun _ => (0 : Int32)) f1.val p1) q2.val g2) (own_K b509 b516 b528) (own_K b545 b567 b594) (29 : Int32) (3 : Int32) (2 : Int32) 2 9 q3.val T712.heap n0 Z735 pf712_0 pf712_1 pf712_2 pf712_3 pf712_4 pf712_5 pf712_6 pf712_7 pf712_8 pf712_9 oo646_0_0 oo646_0_1 (Ins.of_exa f717 (hw _ (List.mem_of_getElem? (i := 45) rfl))) (Ins.of_exa f723 (hw _ (List.mem_of_getElem? (i := 45) rfl))) rfl rfl g_b626 g_r646_0_0 g_r646_0_1 g_r646_0_2 (Ne.symm ne673) (Ne.symm ne680) nn646_0_0 (Ne.symm ne687) nn646_0_1 nn646_0_2 (by decide) hN8 hS8 (by rw [← hf3]; exact pr3)) hZ (hw _ (List.mem_of_getElem? (i := 37) rfl)) (hw _ (List.mem_of_getElem? (i := 3) rfl)) (by decide) (by decide)) q736a q736c (g := (mkF m 148 #[.val (.int p0), .val (.int p1), .val (.int p2), .val (.int p3), .val (.int p4), .val (.int (3 : Int32)), .val (.int g2), .val (.int g3), .val (.ref b509), .val (.ref b516), .val (.ref b528), .val (.ref b545), .val (.ref b567), .val (.ref b594), .val (.ref b626), .val (.ref b545), .val (.ref b567), .unset, .unset, .unset, .unset] [(.ref b594), (.ref b528), (.int g3), (.ref b626)])) rfl (by rw [hml]; rfl) (Steps.refl _) (argsL := [(.int g3), (.ref b528), (.ref b594)]) (rest := []) (lenOf pd_3 rfl) rfl (by show 2 * 0 + _ ≤ _; exact Nat.le_of_eq rfl) (hb hby at_148) (fun _ _ => ⟨rfl, rfl, (by decide : 10 + 0 ≤ _), (by decide : 36 + 0 ≤ _)⟩)
      dsimp only [Pt.U, Pt.locs, Pt.cells, Pt.slots] at X736 l736 y736 z736 st736 hQ736
      subst l736 y736 z736
      obtain ⟨N736, KK736, rfl, pf736_0, pf736_1, pf736_2, pf736_3, pf736_4, pf736_5, pf736_6, pf736_7, pf736_8, pf736_9⟩ := hQ736
      have NA736 := Fr.app NA712 N736
      have f737 := f713.keep KK736
      have f738 := f714.keep KK736 (ninS ne627 (ninS ne667 (ninS ne674 (ninS ne681 nin0))))
      have f739 := f715.keep KK736
      have f740 := f716.keep KK736 (ninS ne628 (ninS ne668 (ninS ne675 (ninS ne682 nin0))))
      have f741 := f717.keep KK736
      have f742 := f718.keep KK736 (ninS ne629 (ninS ne669 (ninS ne676 (ninS ne683 nin0))))
      have f743 := f719.keep KK736
      have f744 := f720.keep KK736 (ninS ne630 (ninS ne670 (ninS ne677 (ninS ne684 nin0))))
      have f745 := f721.keep KK736
      have f746 := f722.keep KK736 (ninS ne631 (ninS ne671 (ninS ne678 (ninS ne685 nin0))))
      have f747 := f723.keep KK736
      have f748 := f724.keep KK736 (ninS ne632 (ninS ne672 (ninS ne679 (ninS ne686 nin0))))
      have f749 := pf712_0.keep KK736
      have K759 : Keep h0 T736.heap [] := K735.trans KK736 (allS (Or.inr sz_b626) (allS (Or.inr sz_r646_0_0) (allS (Or.inr sz_r646_0_1) (allS (Or.inr sz_r646_0_2) all0))))
      have Z759 : n0 ≤ T736.heap.size := Nat.le_trans Z735 KK736.1
      refine Goes.back st736 ?_
      show Goes _ _ _ _ _ _ _ (T736.setTop (mkF m 151 #[.val (.int p0), .val (.int p1), .val (.int p2), .val (.int p3), .val (.int p4), .val (.int (3 : Int32)), .val (.int g2), .val (.int g3), .val (.ref b509), .val (.ref b516), .val (.ref b528), .val (.ref b545), .val (.ref b567), .val (.ref b594), .val (.ref b626), .val (.ref b545), .val (.ref b567), .unset, .unset, .unset, .unset] [(.ref b594)]))
      refine Goes.step (fun _ k => XS.astore X736.here hx rfl (hb hby at_151) rfl rfl (l' := #[.val (.int p0), .val (.int p1), .val (.int p2), .val (.int p3), .val (.int p4), .val (.int (3 : Int32)), .val (.int g2), .val (.int g3), .val (.ref b509), .val (.ref b516), .val (.ref b528), .val (.ref b545), .val (.ref b567), .val (.ref b594), .val (.ref b626), .val (.ref b545), .val (.ref b567), .val (.ref b594), .unset, .unset, .unset]) rfl k) ?_
      show Goes _ _ _ _ _ _ _ (T736.setTop (mkF m 153 #[.val (.int p0), .val (.int p1), .val (.int p2), .val (.int p3), .val (.int p4), .val (.int (3 : Int32)), .val (.int g2), .val (.int g3), .val (.ref b509), .val (.ref b516), .val (.ref b528), .val (.ref b545), .val (.ref b567), .val (.ref b594), .val (.ref b626), .val (.ref b545), .val (.ref b567), .val (.ref b594), .unset, .unset, .unset] []))
      refine Goes.step (fun _ k => XS.iload X736.here hx rfl (hb hby at_153) rfl  k) ?_
      show Goes _ _ _ _ _ _ _ (T736.setTop (mkF m 155 #[.val (.int p0), .val (.int p1), .val (.int p2), .val (.int p3), .val (.int p4), .val (.int (3 : Int32)), .val (.int g2), .val (.int g3), .val (.ref b509), .val (.ref b516), .val (.ref b528), .val (.ref b545), .val (.ref b567), .val (.ref b594), .val (.ref b626), .val (.ref b545), .val (.ref b567), .val (.ref b594), .unset, .unset, .unset] [(.int (3 : Int32))]))
      refine Goes.step (fun _ k => XS.iconst X736.here hx rfl (hb hby at_155) k) ?_
      show Goes _ _ _ _ _ _ _ (T736.setTop (mkF m 156 #[.val (.int p0), .val (.int p1), .val (.int p2), .val (.int p3), .val (.int p4), .val (.int (3 : Int32)), .val (.int g2), .val (.int g3), .val (.ref b509), .val (.ref b516), .val (.ref b528), .val (.ref b545), .val (.ref b567), .val (.ref b594), .val (.ref b626), .val (.ref b545), .val (.ref b567), .val (.ref b594), .unset, .unset, .unset] [(.int (3 : Int32)), (.int (3 : Int32))]))
      refine Goes.step (fun _ k => XS.icmpNo X736.here hx rfl (hb hby at_156) rfl (flt (by decide : ¬ ((3 : Int32) < (3 : Int32)))).1 k) ?_
      show Goes _ _ _ _ _ _ _ (T736.setTop (mkF m 159 #[.val (.int p0), .val (.int p1), .val (.int p2), .val (.int p3), .val (.int p4), .val (.int (3 : Int32)), .val (.int g2), .val (.int g3), .val (.ref b509), .val (.ref b516), .val (.ref b528), .val (.ref b545), .val (.ref b567), .val (.ref b594), .val (.ref b626), .val (.ref b545), .val (.ref b567), .val (.ref b594), .unset, .unset, .unset] []))
      refine Goes.step (fun _ k => XS.iconst X736.here hx rfl (hb hby at_159) k) ?_
      show Goes _ _ _ _ _ _ _ (T736.setTop (mkF m 160 #[.val (.int p0), .val (.int p1), .val (.int p2), .val (.int p3), .val (.int p4), .val (.int (3 : Int32)), .val (.int g2), .val (.int g3), .val (.ref b509), .val (.ref b516), .val (.ref b528), .val (.ref b545), .val (.ref b567), .val (.ref b594), .val (.ref b626), .val (.ref b545), .val (.ref b567), .val (.ref b594), .unset, .unset, .unset] [(.int (1 : Int32))]))
      refine Goes.step (fun _ k => XS.goto X736.here hx rfl (pc0 := 160) (pc' := 164) rfl (hb hby at_160) (by decide) (by decide) k) ?_
      show Goes _ _ _ _ _ _ _ (T736.setTop (mkF m 164 #[.val (.int p0), .val (.int p1), .val (.int p2), .val (.int p3), .val (.int p4), .val (.int (3 : Int32)), .val (.int g2), .val (.int g3), .val (.ref b509), .val (.ref b516), .val (.ref b528), .val (.ref b545), .val (.ref b567), .val (.ref b594), .val (.ref b626), .val (.ref b545), .val (.ref b567), .val (.ref b594), .unset, .unset, .unset] [(.int (1 : Int32))]))
      refine Goes.step (fun _ k => XS.istore X736.here hx rfl (hb hby at_164) rfl (l' := #[.val (.int p0), .val (.int p1), .val (.int p2), .val (.int p3), .val (.int p4), .val (.int (3 : Int32)), .val (.int g2), .val (.int g3), .val (.ref b509), .val (.ref b516), .val (.ref b528), .val (.ref b545), .val (.ref b567), .val (.ref b594), .val (.ref b626), .val (.ref b545), .val (.ref b567), .val (.ref b594), .val (.int (1 : Int32)), .unset, .unset]) rfl k) ?_
      show Goes _ _ _ _ _ _ _ (T736.setTop (mkF m 166 #[.val (.int p0), .val (.int p1), .val (.int p2), .val (.int p3), .val (.int p4), .val (.int (3 : Int32)), .val (.int g2), .val (.int g3), .val (.ref b509), .val (.ref b516), .val (.ref b528), .val (.ref b545), .val (.ref b567), .val (.ref b594), .val (.ref b626), .val (.ref b545), .val (.ref b567), .val (.ref b594), .val (.int (1 : Int32)), .unset, .unset] []))
      refine Goes.step (fun _ k => XS.iload X736.here hx rfl (hb hby at_166) rfl  k) ?_
      show Goes _ _ _ _ _ _ _ (T736.setTop (mkF m 168 #[.val (.int p0), .val (.int p1), .val (.int p2), .val (.int p3), .val (.int p4), .val (.int (3 : Int32)), .val (.int g2), .val (.int g3), .val (.ref b509), .val (.ref b516), .val (.ref b528), .val (.ref b545), .val (.ref b567), .val (.ref b594), .val (.ref b626), .val (.ref b545), .val (.ref b567), .val (.ref b594), .val (.int (1 : Int32)), .unset, .unset] [(.int (1 : Int32))]))
      refine Goes.step (fun _ k => XS.ifNo X736.here hx rfl (hb hby at_168) rfl ((if0 _ _).trans (feq (by decide : ¬ ((1 : Int32) = (0 : Int32)))).1) k) ?_
      show Goes _ _ _ _ _ _ _ (T736.setTop (mkF m 171 #[.val (.int p0), .val (.int p1), .val (.int p2), .val (.int p3), .val (.int p4), .val (.int (3 : Int32)), .val (.int g2), .val (.int g3), .val (.ref b509), .val (.ref b516), .val (.ref b528), .val (.ref b545), .val (.ref b567), .val (.ref b594), .val (.ref b626), .val (.ref b545), .val (.ref b567), .val (.ref b594), .val (.int (1 : Int32)), .unset, .unset] []))
      refine Goes.step (fun _ k => XS.aload X736.here hx rfl (hb hby at_171) rfl rfl k) ?_
      show Goes _ _ _ _ _ _ _ (T736.setTop (mkF m 173 #[.val (.int p0), .val (.int p1), .val (.int p2), .val (.int p3), .val (.int p4), .val (.int (3 : Int32)), .val (.int g2), .val (.int g3), .val (.ref b509), .val (.ref b516), .val (.ref b528), .val (.ref b545), .val (.ref b567), .val (.ref b594), .val (.ref b626), .val (.ref b545), .val (.ref b567), .val (.ref b594), .val (.int (1 : Int32)), .unset, .unset] [(.ref b545)]))
      refine Goes.step (fun _ k => XS.goto X736.here hx rfl (pc0 := 173) (pc' := 177) rfl (hb hby at_173) (by decide) (by decide) k) ?_
      show Goes _ _ _ _ _ _ _ (T736.setTop (mkF m 177 #[.val (.int p0), .val (.int p1), .val (.int p2), .val (.int p3), .val (.int p4), .val (.int (3 : Int32)), .val (.int g2), .val (.int g3), .val (.ref b509), .val (.ref b516), .val (.ref b528), .val (.ref b545), .val (.ref b567), .val (.ref b594), .val (.ref b626), .val (.ref b545), .val (.ref b567), .val (.ref b594), .val (.int (1 : Int32)), .unset, .unset] [(.ref b545)]))
      refine Goes.step (fun _ k => XS.astore X736.here hx rfl (hb hby at_177) rfl rfl (l' := #[.val (.int p0), .val (.int p1), .val (.int p2), .val (.int p3), .val (.int p4), .val (.int (3 : Int32)), .val (.int g2), .val (.int g3), .val (.ref b509), .val (.ref b516), .val (.ref b528), .val (.ref b545), .val (.ref b567), .val (.ref b594), .val (.ref b626), .val (.ref b545), .val (.ref b567), .val (.ref b594), .val (.int (1 : Int32)), .val (.ref b545), .unset]) rfl k) ?_
      show Goes _ _ _ _ _ _ _ (T736.setTop (mkF m 179 #[.val (.int p0), .val (.int p1), .val (.int p2), .val (.int p3), .val (.int p4), .val (.int (3 : Int32)), .val (.int g2), .val (.int g3), .val (.ref b509), .val (.ref b516), .val (.ref b528), .val (.ref b545), .val (.ref b567), .val (.ref b594), .val (.ref b626), .val (.ref b545), .val (.ref b567), .val (.ref b594), .val (.int (1 : Int32)), .val (.ref b545), .unset] []))
      refine Goes.step (fun _ k => XS.iload X736.here hx rfl (hb hby at_179) rfl  k) ?_
      show Goes _ _ _ _ _ _ _ (T736.setTop (mkF m 181 #[.val (.int p0), .val (.int p1), .val (.int p2), .val (.int p3), .val (.int p4), .val (.int (3 : Int32)), .val (.int g2), .val (.int g3), .val (.ref b509), .val (.ref b516), .val (.ref b528), .val (.ref b545), .val (.ref b567), .val (.ref b594), .val (.ref b626), .val (.ref b545), .val (.ref b567), .val (.ref b594), .val (.int (1 : Int32)), .val (.ref b545), .unset] [(.int (1 : Int32))]))
      refine Goes.step (fun _ k => XS.ifNo X736.here hx rfl (hb hby at_181) rfl ((if0 _ _).trans (feq (by decide : ¬ ((1 : Int32) = (0 : Int32)))).1) k) ?_
      show Goes _ _ _ _ _ _ _ (T736.setTop (mkF m 184 #[.val (.int p0), .val (.int p1), .val (.int p2), .val (.int p3), .val (.int p4), .val (.int (3 : Int32)), .val (.int g2), .val (.int g3), .val (.ref b509), .val (.ref b516), .val (.ref b528), .val (.ref b545), .val (.ref b567), .val (.ref b594), .val (.ref b626), .val (.ref b545), .val (.ref b567), .val (.ref b594), .val (.int (1 : Int32)), .val (.ref b545), .unset] []))
      refine Goes.step (fun _ k => XS.aload X736.here hx rfl (hb hby at_184) rfl rfl k) ?_
      show Goes _ _ _ _ _ _ _ (T736.setTop (mkF m 186 #[.val (.int p0), .val (.int p1), .val (.int p2), .val (.int p3), .val (.int p4), .val (.int (3 : Int32)), .val (.int g2), .val (.int g3), .val (.ref b509), .val (.ref b516), .val (.ref b528), .val (.ref b545), .val (.ref b567), .val (.ref b594), .val (.ref b626), .val (.ref b545), .val (.ref b567), .val (.ref b594), .val (.int (1 : Int32)), .val (.ref b545), .unset] [(.ref b567)]))
      refine Goes.step (fun _ k => XS.goto X736.here hx rfl (pc0 := 186) (pc' := 190) rfl (hb hby at_186) (by decide) (by decide) k) ?_
      show Goes _ _ _ _ _ _ _ (T736.setTop (mkF m 190 #[.val (.int p0), .val (.int p1), .val (.int p2), .val (.int p3), .val (.int p4), .val (.int (3 : Int32)), .val (.int g2), .val (.int g3), .val (.ref b509), .val (.ref b516), .val (.ref b528), .val (.ref b545), .val (.ref b567), .val (.ref b594), .val (.ref b626), .val (.ref b545), .val (.ref b567), .val (.ref b594), .val (.int (1 : Int32)), .val (.ref b545), .unset] [(.ref b567)]))
      refine Goes.step (fun _ k => XS.astore X736.here hx rfl (hb hby at_190) rfl rfl (l' := #[.val (.int p0), .val (.int p1), .val (.int p2), .val (.int p3), .val (.int p4), .val (.int (3 : Int32)), .val (.int g2), .val (.int g3), .val (.ref b509), .val (.ref b516), .val (.ref b528), .val (.ref b545), .val (.ref b567), .val (.ref b594), .val (.ref b626), .val (.ref b545), .val (.ref b567), .val (.ref b594), .val (.int (1 : Int32)), .val (.ref b545), .val (.ref b567)]) rfl k) ?_
      show Goes _ _ _ _ _ _ _ (T736.setTop (mkF m 192 #[.val (.int p0), .val (.int p1), .val (.int p2), .val (.int p3), .val (.int p4), .val (.int (3 : Int32)), .val (.int g2), .val (.int g3), .val (.ref b509), .val (.ref b516), .val (.ref b528), .val (.ref b545), .val (.ref b567), .val (.ref b594), .val (.ref b626), .val (.ref b545), .val (.ref b567), .val (.ref b594), .val (.int (1 : Int32)), .val (.ref b545), .val (.ref b567)] []))
      refine Goes.step (fun _ k => XS.aload X736.here hx rfl (hb hby at_192) rfl rfl k) ?_
      show Goes _ _ _ _ _ _ _ (T736.setTop (mkF m 194 #[.val (.int p0), .val (.int p1), .val (.int p2), .val (.int p3), .val (.int p4), .val (.int (3 : Int32)), .val (.int g2), .val (.int g3), .val (.ref b509), .val (.ref b516), .val (.ref b528), .val (.ref b545), .val (.ref b567), .val (.ref b594), .val (.ref b626), .val (.ref b545), .val (.ref b567), .val (.ref b594), .val (.int (1 : Int32)), .val (.ref b545), .val (.ref b567)] [(.ref b545)]))
      refine Goes.step (fun _ k => XS.aload X736.here hx rfl (hb hby at_194) rfl rfl k) ?_
      show Goes _ _ _ _ _ _ _ (T736.setTop (mkF m 196 #[.val (.int p0), .val (.int p1), .val (.int p2), .val (.int p3), .val (.int p4), .val (.int (3 : Int32)), .val (.int g2), .val (.int g3), .val (.ref b509), .val (.ref b516), .val (.ref b528), .val (.ref b545), .val (.ref b567), .val (.ref b594), .val (.ref b626), .val (.ref b545), .val (.ref b567), .val (.ref b594), .val (.int (1 : Int32)), .val (.ref b545), .val (.ref b567)] [(.ref b545), (.ref b545)]))
      refine Goes.step (fun _ k => Jvm.RoadKit.acmp X736 hx rfl rfl rfl (pc0 := 196) (pc' := 199) (same := true) rfl (hb hby at_196) rfl (decide_eq_true rfl) (by decide) (by decide) k) ?_
      show Goes _ _ _ _ _ _ _ (T736.setTop (mkF m 199 #[.val (.int p0), .val (.int p1), .val (.int p2), .val (.int p3), .val (.int p4), .val (.int (3 : Int32)), .val (.int g2), .val (.int g3), .val (.ref b509), .val (.ref b516), .val (.ref b528), .val (.ref b545), .val (.ref b567), .val (.ref b594), .val (.ref b626), .val (.ref b545), .val (.ref b567), .val (.ref b594), .val (.int (1 : Int32)), .val (.ref b545), .val (.ref b567)] []))
      refine Goes.step (fun _ k => XS.aload X736.here hx rfl (hb hby at_199) rfl rfl k) ?_
      show Goes _ _ _ _ _ _ _ (T736.setTop (mkF m 201 #[.val (.int p0), .val (.int p1), .val (.int p2), .val (.int p3), .val (.int p4), .val (.int (3 : Int32)), .val (.int g2), .val (.int g3), .val (.ref b509), .val (.ref b516), .val (.ref b528), .val (.ref b545), .val (.ref b567), .val (.ref b594), .val (.ref b626), .val (.ref b545), .val (.ref b567), .val (.ref b594), .val (.int (1 : Int32)), .val (.ref b545), .val (.ref b567)] [(.ref b567)]))
      refine Goes.step (fun _ k => XS.aload X736.here hx rfl (hb hby at_201) rfl rfl k) ?_
      show Goes _ _ _ _ _ _ _ (T736.setTop (mkF m 203 #[.val (.int p0), .val (.int p1), .val (.int p2), .val (.int p3), .val (.int p4), .val (.int (3 : Int32)), .val (.int g2), .val (.int g3), .val (.ref b509), .val (.ref b516), .val (.ref b528), .val (.ref b545), .val (.ref b567), .val (.ref b594), .val (.ref b626), .val (.ref b545), .val (.ref b567), .val (.ref b594), .val (.int (1 : Int32)), .val (.ref b545), .val (.ref b567)] [(.ref b567), (.ref b567)]))
      refine Goes.step (fun _ k => Jvm.RoadKit.acmp X736 hx rfl rfl rfl (pc0 := 203) (pc' := 206) (same := true) rfl (hb hby at_203) rfl (decide_eq_true rfl) (by decide) (by decide) k) ?_
      show Goes _ _ _ _ _ _ _ (T736.setTop (mkF m 206 #[.val (.int p0), .val (.int p1), .val (.int p2), .val (.int p3), .val (.int p4), .val (.int (3 : Int32)), .val (.int g2), .val (.int g3), .val (.ref b509), .val (.ref b516), .val (.ref b528), .val (.ref b545), .val (.ref b567), .val (.ref b594), .val (.ref b626), .val (.ref b545), .val (.ref b567), .val (.ref b594), .val (.int (1 : Int32)), .val (.ref b545), .val (.ref b567)] []))
      refine Goes.step (fun _ k => XS.aload X736.here hx rfl (hb hby at_206) rfl rfl k) ?_
      show Goes _ _ _ _ _ _ _ (T736.setTop (mkF m 208 #[.val (.int p0), .val (.int p1), .val (.int p2), .val (.int p3), .val (.int p4), .val (.int (3 : Int32)), .val (.int g2), .val (.int g3), .val (.ref b509), .val (.ref b516), .val (.ref b528), .val (.ref b545), .val (.ref b567), .val (.ref b594), .val (.ref b626), .val (.ref b545), .val (.ref b567), .val (.ref b594), .val (.int (1 : Int32)), .val (.ref b545), .val (.ref b567)] [(.ref b594)]))
      refine Goes.step (fun _ k => XS.aload X736.here hx rfl (hb hby at_208) rfl rfl k) ?_
      show Goes _ _ _ _ _ _ _ (T736.setTop (mkF m 210 #[.val (.int p0), .val (.int p1), .val (.int p2), .val (.int p3), .val (.int p4), .val (.int (3 : Int32)), .val (.int g2), .val (.int g3), .val (.ref b509), .val (.ref b516), .val (.ref b528), .val (.ref b545), .val (.ref b567), .val (.ref b594), .val (.ref b626), .val (.ref b545), .val (.ref b567), .val (.ref b594), .val (.int (1 : Int32)), .val (.ref b545), .val (.ref b567)] [(.ref b594), (.ref b594)]))
      refine Goes.step (fun _ k => Jvm.RoadKit.acmp X736 hx rfl rfl rfl (pc0 := 210) (pc' := 213) (same := true) rfl (hb hby at_210) rfl (decide_eq_true rfl) (by decide) (by decide) k) ?_
      show Goes _ _ _ _ _ _ _ (T736.setTop (mkF m 213 #[.val (.int p0), .val (.int p1), .val (.int p2), .val (.int p3), .val (.int p4), .val (.int (3 : Int32)), .val (.int g2), .val (.int g3), .val (.ref b509), .val (.ref b516), .val (.ref b528), .val (.ref b545), .val (.ref b567), .val (.ref b594), .val (.ref b626), .val (.ref b545), .val (.ref b567), .val (.ref b594), .val (.int (1 : Int32)), .val (.ref b545), .val (.ref b567)] []))
      refine Goes.step (fun _ k => XS.aload X736.here hx rfl (hb hby at_213) rfl rfl k) ?_
      show Goes _ _ _ _ _ _ _ (T736.setTop (mkF m 215 #[.val (.int p0), .val (.int p1), .val (.int p2), .val (.int p3), .val (.int p4), .val (.int (3 : Int32)), .val (.int g2), .val (.int g3), .val (.ref b509), .val (.ref b516), .val (.ref b528), .val (.ref b545), .val (.ref b567), .val (.ref b594), .val (.ref b626), .val (.ref b545), .val (.ref b567), .val (.ref b594), .val (.int (1 : Int32)), .val (.ref b545), .val (.ref b567)] [(.ref b626)]))
      refine Goes.step (fun _ k => XS.iloadN X736.here hx rfl (hb hby at_215) rfl  k) ?_
      show Goes _ _ _ _ _ _ _ (T736.setTop (mkF m 216 #[.val (.int p0), .val (.int p1), .val (.int p2), .val (.int p3), .val (.int p4), .val (.int (3 : Int32)), .val (.int g2), .val (.int g3), .val (.ref b509), .val (.ref b516), .val (.ref b528), .val (.ref b545), .val (.ref b567), .val (.ref b594), .val (.ref b626), .val (.ref b545), .val (.ref b567), .val (.ref b594), .val (.int (1 : Int32)), .val (.ref b545), .val (.ref b567)] [(.int p1), (.ref b626)]))
      refine Goes.step (fun _ k => XS.aload X736.here hx rfl (hb hby at_216) rfl rfl k) ?_
      show Goes _ _ _ _ _ _ _ (T736.setTop (mkF m 218 #[.val (.int p0), .val (.int p1), .val (.int p2), .val (.int p3), .val (.int p4), .val (.int (3 : Int32)), .val (.int g2), .val (.int g3), .val (.ref b509), .val (.ref b516), .val (.ref b528), .val (.ref b545), .val (.ref b567), .val (.ref b594), .val (.ref b626), .val (.ref b545), .val (.ref b567), .val (.ref b594), .val (.int (1 : Int32)), .val (.ref b545), .val (.ref b567)] [(.ref b509), (.int p1), (.ref b626)]))
      have hH1 : ∀ p j, (own_put (own_put (own_put own_t0 f1.val 0) q2.val 1) q3.val 2) p = some j → (own_hp (own_hp (own_hp (fun _ => (0 : Int32)) f1.val p1) q2.val g2) q3.val g3) p = (own_H p1 g2 g3) j := (own_hH (own_hH (own_hH own_hH0 (by rfl)) (by rfl)) (by rfl))
      have lt1 : ∀ p j, (own_put (own_put (own_put own_t0 f1.val 0) q2.val 1) q3.val 2) p = some j → j < 3 := (own_lt3 (own_lt3 (own_lt3 own_lt30 (by decide)) (by decide)) (by decide))
      have inj1 : ∀ j, (∃ p, (own_put (own_put (own_put own_t0 f1.val 0) q2.val 1) q3.val 2) p = some j) → (own_K b509 b516 b528) j = b509 → j = 0 := fun j hj hk => by by_cases u0 : j = 0 <;> by_cases u1 : j = 1 <;> simp [own_K, u0, u1] at hk <;> first | exact u0 | exact u1 | exact absurd hk (Ne.symm ne517) | exact absurd hk (Ne.symm ne529) | omega
      have fr1 : findP (own_put (own_put (own_put own_t0 f1.val 0) q2.val 1) q3.val 2) (fun j => decide ((own_H p1 g2 g3) j = p1)) 8 0 (own_f p1 (29 : Int32)).toNatClampNeg = some (some 0) := by rw [own_e0, ← hf1]; exact fd1
      obtain ⟨_, _, ⟨T760, L760, k760, n760⟩, -, X760, ⟨Lc760, hQ760, l760, y760, z760⟩, st760⟩ := Jvm.LawKit.callS X736 hx (y := (⟨"com/example/nehaba/nehaba/input/KeptValuesPutPinLaw", "find", "(Lcom/example/nehaba/nehaba/input/KeptValues;ILjava/lang/Object;)Ljava/lang/Object;"⟩ : MethodName)) hown (mvT hZ (hw _ (List.mem_of_getElem? (i := 50) rfl))) (mvT hZ (hw _ (List.mem_of_getElem? (i := 51) rfl))) (mvT hZ (hw _ (List.mem_of_getElem? (i := 52) rfl))) (mvT hZ (hw _ (List.mem_of_getElem? (i := 53) rfl))) (by decide) (backOf (W := 0) (rm8 l Z a0 hw [] b626 p1 b509 r646_0_0 r646_0_1 r646_0_2 kk646_0_0 kk646_0_1 kk646_0_2 8 (own_put (own_put (own_put own_t0 f1.val 0) q2.val 1) q3.val 2) (own_hp (own_hp (own_hp (fun _ => (0 : Int32)) f1.val p1) q2.val g2) q3.val g3) (own_K b509 b516 b528) (own_K b545 b567 b594) (29 : Int32) (3 : Int32) (3 : Int32) (own_H p1 g2 g3) 0 (some 0) T736.heap n0 Z759 pf736_0 pf736_1 pf736_2 pf736_3 pf736_4 pf736_5 pf736_6 pf736_7 pf736_8 pf736_9 hN8 hH1 hS8 rfl inj1 fr1) hZ (hw _ (List.mem_of_getElem? (i := 53) rfl)) (hw _ (List.mem_of_getElem? (i := 52) rfl)) (by decide) (by decide)) (g := (mkF m 218 #[.val (.int p0), .val (.int p1), .val (.int p2), .val (.int p3), .val (.int p4), .val (.int (3 : Int32)), .val (.int g2), .val (.int g3), .val (.ref b509), .val (.ref b516), .val (.ref b528), .val (.ref b545), .val (.ref b567), .val (.ref b594), .val (.ref b626), .val (.ref b545), .val (.ref b567), .val (.ref b594), .val (.int (1 : Int32)), .val (.ref b545), .val (.ref b567)] [(.ref b509), (.int p1), (.ref b626)])) rfl (by rw [hml]; rfl) (argsL := [(.ref b626), (.int p1), (.ref b509)]) (rest := []) (lenOf pd_5 rfl) rfl (by show 2 * 0 + _ ≤ _; exact Nat.le_of_eq rfl) (hb hby at_218) (fun _ _ => ⟨rfl, rfl, (by decide : 10 + 0 ≤ _), (by decide : 36 + 0 ≤ _)⟩)
      dsimp only [Pt.U, Pt.locs, Pt.cells, Pt.slots] at X760 l760 y760 z760 st760 hQ760
      subst l760 y760 z760
      obtain ⟨N760, eh760, rfl⟩ := hQ760
      have NA760 := Fr.app NA736 N760
      refine Goes.step st760 ?_
      show Goes _ _ _ _ _ _ _ (T760.setTop (mkF m 221 #[.val (.int p0), .val (.int p1), .val (.int p2), .val (.int p3), .val (.int p4), .val (.int (3 : Int32)), .val (.int g2), .val (.int g3), .val (.ref b509), .val (.ref b516), .val (.ref b528), .val (.ref b545), .val (.ref b567), .val (.ref b594), .val (.ref b626), .val (.ref b545), .val (.ref b567), .val (.ref b594), .val (.int (1 : Int32)), .val (.ref b545), .val (.ref b567)] [(.ref b545)]))
      refine Goes.step (fun _ k => XS.aload X760.here hx rfl (hb hby at_221) rfl rfl k) ?_
      show Goes _ _ _ _ _ _ _ (T760.setTop (mkF m 223 #[.val (.int p0), .val (.int p1), .val (.int p2), .val (.int p3), .val (.int p4), .val (.int (3 : Int32)), .val (.int g2), .val (.int g3), .val (.ref b509), .val (.ref b516), .val (.ref b528), .val (.ref b545), .val (.ref b567), .val (.ref b594), .val (.ref b626), .val (.ref b545), .val (.ref b567), .val (.ref b594), .val (.int (1 : Int32)), .val (.ref b545), .val (.ref b567)] [(.ref b545), (.ref b545)]))
      refine Goes.step (fun _ k => Jvm.RoadKit.acmp X760 hx rfl rfl rfl (pc0 := 223) (pc' := 226) (same := true) rfl (hb hby at_223) rfl (decide_eq_true rfl) (by decide) (by decide) k) ?_
      show Goes _ _ _ _ _ _ _ (T760.setTop (mkF m 226 #[.val (.int p0), .val (.int p1), .val (.int p2), .val (.int p3), .val (.int p4), .val (.int (3 : Int32)), .val (.int g2), .val (.int g3), .val (.ref b509), .val (.ref b516), .val (.ref b528), .val (.ref b545), .val (.ref b567), .val (.ref b594), .val (.ref b626), .val (.ref b545), .val (.ref b567), .val (.ref b594), .val (.int (1 : Int32)), .val (.ref b545), .val (.ref b567)] []))
      refine Goes.step (fun _ k => XS.aload X760.here hx rfl (hb hby at_226) rfl rfl k) ?_
      show Goes _ _ _ _ _ _ _ (T760.setTop (mkF m 228 #[.val (.int p0), .val (.int p1), .val (.int p2), .val (.int p3), .val (.int p4), .val (.int (3 : Int32)), .val (.int g2), .val (.int g3), .val (.ref b509), .val (.ref b516), .val (.ref b528), .val (.ref b545), .val (.ref b567), .val (.ref b594), .val (.ref b626), .val (.ref b545), .val (.ref b567), .val (.ref b594), .val (.int (1 : Int32)), .val (.ref b545), .val (.ref b567)] [(.ref b626)]))
      refine Goes.step (fun _ k => XS.iload X760.here hx rfl (hb hby at_228) rfl  k) ?_
      show Goes _ _ _ _ _ _ _ (T760.setTop (mkF m 230 #[.val (.int p0), .val (.int p1), .val (.int p2), .val (.int p3), .val (.int p4), .val (.int (3 : Int32)), .val (.int g2), .val (.int g3), .val (.ref b509), .val (.ref b516), .val (.ref b528), .val (.ref b545), .val (.ref b567), .val (.ref b594), .val (.ref b626), .val (.ref b545), .val (.ref b567), .val (.ref b594), .val (.int (1 : Int32)), .val (.ref b545), .val (.ref b567)] [(.int g2), (.ref b626)]))
      refine Goes.step (fun _ k => XS.aload X760.here hx rfl (hb hby at_230) rfl rfl k) ?_
      show Goes _ _ _ _ _ _ _ (T760.setTop (mkF m 232 #[.val (.int p0), .val (.int p1), .val (.int p2), .val (.int p3), .val (.int p4), .val (.int (3 : Int32)), .val (.int g2), .val (.int g3), .val (.ref b509), .val (.ref b516), .val (.ref b528), .val (.ref b545), .val (.ref b567), .val (.ref b594), .val (.ref b626), .val (.ref b545), .val (.ref b567), .val (.ref b594), .val (.int (1 : Int32)), .val (.ref b545), .val (.ref b567)] [(.ref b516), (.int g2), (.ref b626)]))
      have hH2 : ∀ p j, (own_put (own_put (own_put own_t0 f1.val 0) q2.val 1) q3.val 2) p = some j → (own_hp (own_hp (own_hp (fun _ => (0 : Int32)) f1.val p1) q2.val g2) q3.val g3) p = (own_H p1 g2 g3) j := (own_hH (own_hH (own_hH own_hH0 (by rfl)) (by rfl)) (by rfl))
      have lt2 : ∀ p j, (own_put (own_put (own_put own_t0 f1.val 0) q2.val 1) q3.val 2) p = some j → j < 3 := (own_lt3 (own_lt3 (own_lt3 own_lt30 (by decide)) (by decide)) (by decide))
      have inj2 : ∀ j, (∃ p, (own_put (own_put (own_put own_t0 f1.val 0) q2.val 1) q3.val 2) p = some j) → (own_K b509 b516 b528) j = b516 → j = 1 := fun j hj hk => by by_cases u0 : j = 0 <;> by_cases u1 : j = 1 <;> simp [own_K, u0, u1] at hk <;> first | exact u0 | exact u1 | exact absurd hk ne517 | exact absurd hk (Ne.symm ne530) | omega
      have fr2 : findP (own_put (own_put (own_put own_t0 f1.val 0) q2.val 1) q3.val 2) (fun j => decide ((own_H p1 g2 g3) j = g2)) 8 1 (own_f g2 (29 : Int32)).toNatClampNeg = some (some 1) := by rw [own_e1, ← hf2]; exact fd2
      obtain ⟨_, _, ⟨T761, L761, k761, n761⟩, -, X761, ⟨Lc761, hQ761, l761, y761, z761⟩, st761⟩ := Jvm.LawKit.callS X760 hx (y := (⟨"com/example/nehaba/nehaba/input/KeptValuesPutPinLaw", "find", "(Lcom/example/nehaba/nehaba/input/KeptValues;ILjava/lang/Object;)Ljava/lang/Object;"⟩ : MethodName)) hown (mvT hZ (hw _ (List.mem_of_getElem? (i := 50) rfl))) (mvT hZ (hw _ (List.mem_of_getElem? (i := 51) rfl))) (mvT hZ (hw _ (List.mem_of_getElem? (i := 52) rfl))) (mvT hZ (hw _ (List.mem_of_getElem? (i := 53) rfl))) (by decide) (backOf (W := 0) (rm8 l Z a0 hw [] b626 g2 b516 r646_0_0 r646_0_1 r646_0_2 kk646_0_0 kk646_0_1 kk646_0_2 8 (own_put (own_put (own_put own_t0 f1.val 0) q2.val 1) q3.val 2) (own_hp (own_hp (own_hp (fun _ => (0 : Int32)) f1.val p1) q2.val g2) q3.val g3) (own_K b509 b516 b528) (own_K b545 b567 b594) (29 : Int32) (3 : Int32) (3 : Int32) (own_H p1 g2 g3) 1 (some 1) T736.heap n0 Z759 pf736_0 pf736_1 pf736_2 pf736_3 pf736_4 pf736_5 pf736_6 pf736_7 pf736_8 pf736_9 hN8 hH2 hS8 rfl inj2 fr2) hZ (hw _ (List.mem_of_getElem? (i := 53) rfl)) (hw _ (List.mem_of_getElem? (i := 52) rfl)) (by decide) (by decide)) (g := (mkF m 232 #[.val (.int p0), .val (.int p1), .val (.int p2), .val (.int p3), .val (.int p4), .val (.int (3 : Int32)), .val (.int g2), .val (.int g3), .val (.ref b509), .val (.ref b516), .val (.ref b528), .val (.ref b545), .val (.ref b567), .val (.ref b594), .val (.ref b626), .val (.ref b545), .val (.ref b567), .val (.ref b594), .val (.int (1 : Int32)), .val (.ref b545), .val (.ref b567)] [(.ref b516), (.int g2), (.ref b626)])) rfl (by rw [hml]; rfl) (argsL := [(.ref b626), (.int g2), (.ref b516)]) (rest := []) (lenOf pd_5 rfl) rfl (by show 2 * 0 + _ ≤ _; exact Nat.le_of_eq rfl) (hb hby at_232) (fun _ _ => ⟨rfl, eh760, (by decide : 10 + 0 ≤ _), (by decide : 36 + 0 ≤ _)⟩)
      dsimp only [Pt.U, Pt.locs, Pt.cells, Pt.slots] at X761 l761 y761 z761 st761 hQ761
      subst l761 y761 z761
      obtain ⟨N761, eh761, rfl⟩ := hQ761
      have NA761 := Fr.app NA760 N761
      refine Goes.step st761 ?_
      show Goes _ _ _ _ _ _ _ (T761.setTop (mkF m 235 #[.val (.int p0), .val (.int p1), .val (.int p2), .val (.int p3), .val (.int p4), .val (.int (3 : Int32)), .val (.int g2), .val (.int g3), .val (.ref b509), .val (.ref b516), .val (.ref b528), .val (.ref b545), .val (.ref b567), .val (.ref b594), .val (.ref b626), .val (.ref b545), .val (.ref b567), .val (.ref b594), .val (.int (1 : Int32)), .val (.ref b545), .val (.ref b567)] [(.ref b567)]))
      refine Goes.step (fun _ k => XS.aload X761.here hx rfl (hb hby at_235) rfl rfl k) ?_
      show Goes _ _ _ _ _ _ _ (T761.setTop (mkF m 237 #[.val (.int p0), .val (.int p1), .val (.int p2), .val (.int p3), .val (.int p4), .val (.int (3 : Int32)), .val (.int g2), .val (.int g3), .val (.ref b509), .val (.ref b516), .val (.ref b528), .val (.ref b545), .val (.ref b567), .val (.ref b594), .val (.ref b626), .val (.ref b545), .val (.ref b567), .val (.ref b594), .val (.int (1 : Int32)), .val (.ref b545), .val (.ref b567)] [(.ref b567), (.ref b567)]))
      refine Goes.step (fun _ k => Jvm.RoadKit.acmp X761 hx rfl rfl rfl (pc0 := 237) (pc' := 240) (same := true) rfl (hb hby at_237) rfl (decide_eq_true rfl) (by decide) (by decide) k) ?_
      show Goes _ _ _ _ _ _ _ (T761.setTop (mkF m 240 #[.val (.int p0), .val (.int p1), .val (.int p2), .val (.int p3), .val (.int p4), .val (.int (3 : Int32)), .val (.int g2), .val (.int g3), .val (.ref b509), .val (.ref b516), .val (.ref b528), .val (.ref b545), .val (.ref b567), .val (.ref b594), .val (.ref b626), .val (.ref b545), .val (.ref b567), .val (.ref b594), .val (.int (1 : Int32)), .val (.ref b545), .val (.ref b567)] []))
      refine Goes.step (fun _ k => XS.aload X761.here hx rfl (hb hby at_240) rfl rfl k) ?_
      show Goes _ _ _ _ _ _ _ (T761.setTop (mkF m 242 #[.val (.int p0), .val (.int p1), .val (.int p2), .val (.int p3), .val (.int p4), .val (.int (3 : Int32)), .val (.int g2), .val (.int g3), .val (.ref b509), .val (.ref b516), .val (.ref b528), .val (.ref b545), .val (.ref b567), .val (.ref b594), .val (.ref b626), .val (.ref b545), .val (.ref b567), .val (.ref b594), .val (.int (1 : Int32)), .val (.ref b545), .val (.ref b567)] [(.ref b626)]))
      refine Goes.step (fun _ k => XS.iload X761.here hx rfl (hb hby at_242) rfl  k) ?_
      show Goes _ _ _ _ _ _ _ (T761.setTop (mkF m 244 #[.val (.int p0), .val (.int p1), .val (.int p2), .val (.int p3), .val (.int p4), .val (.int (3 : Int32)), .val (.int g2), .val (.int g3), .val (.ref b509), .val (.ref b516), .val (.ref b528), .val (.ref b545), .val (.ref b567), .val (.ref b594), .val (.ref b626), .val (.ref b545), .val (.ref b567), .val (.ref b594), .val (.int (1 : Int32)), .val (.ref b545), .val (.ref b567)] [(.int g3), (.ref b626)]))
      refine Goes.step (fun _ k => XS.aload X761.here hx rfl (hb hby at_244) rfl rfl k) ?_
      show Goes _ _ _ _ _ _ _ (T761.setTop (mkF m 246 #[.val (.int p0), .val (.int p1), .val (.int p2), .val (.int p3), .val (.int p4), .val (.int (3 : Int32)), .val (.int g2), .val (.int g3), .val (.ref b509), .val (.ref b516), .val (.ref b528), .val (.ref b545), .val (.ref b567), .val (.ref b594), .val (.ref b626), .val (.ref b545), .val (.ref b567), .val (.ref b594), .val (.int (1 : Int32)), .val (.ref b545), .val (.ref b567)] [(.ref b528), (.int g3), (.ref b626)]))
      have hH3 : ∀ p j, (own_put (own_put (own_put own_t0 f1.val 0) q2.val 1) q3.val 2) p = some j → (own_hp (own_hp (own_hp (fun _ => (0 : Int32)) f1.val p1) q2.val g2) q3.val g3) p = (own_H p1 g2 g3) j := (own_hH (own_hH (own_hH own_hH0 (by rfl)) (by rfl)) (by rfl))
      have lt3 : ∀ p j, (own_put (own_put (own_put own_t0 f1.val 0) q2.val 1) q3.val 2) p = some j → j < 3 := (own_lt3 (own_lt3 (own_lt3 own_lt30 (by decide)) (by decide)) (by decide))
      have inj3 : ∀ j, (∃ p, (own_put (own_put (own_put own_t0 f1.val 0) q2.val 1) q3.val 2) p = some j) → (own_K b509 b516 b528) j = b528 → j = 2 := fun j ⟨p, hj⟩ hk => by have h3 := lt3 p j hj; rcases (show j = 0 ∨ j = 1 ∨ j = 2 by omega) with rfl | rfl | rfl <;> simp [own_K] at hk <;> first | rfl | exact absurd hk ne529 | exact absurd hk ne530
      have fr3 : findP (own_put (own_put (own_put own_t0 f1.val 0) q2.val 1) q3.val 2) (fun j => decide ((own_H p1 g2 g3) j = g3)) 8 2 (own_f g3 (29 : Int32)).toNatClampNeg = some (some 2) := by rw [own_findCongr lt3 (own_e2 _ _ _), ← hf3]; exact fd3
      obtain ⟨_, _, ⟨T762, L762, k762, n762⟩, -, X762, ⟨Lc762, hQ762, l762, y762, z762⟩, st762⟩ := Jvm.LawKit.callS X761 hx (y := (⟨"com/example/nehaba/nehaba/input/KeptValuesPutPinLaw", "find", "(Lcom/example/nehaba/nehaba/input/KeptValues;ILjava/lang/Object;)Ljava/lang/Object;"⟩ : MethodName)) hown (mvT hZ (hw _ (List.mem_of_getElem? (i := 50) rfl))) (mvT hZ (hw _ (List.mem_of_getElem? (i := 51) rfl))) (mvT hZ (hw _ (List.mem_of_getElem? (i := 52) rfl))) (mvT hZ (hw _ (List.mem_of_getElem? (i := 53) rfl))) (by decide) (backOf (W := 0) (rm8 l Z a0 hw [] b626 g3 b528 r646_0_0 r646_0_1 r646_0_2 kk646_0_0 kk646_0_1 kk646_0_2 8 (own_put (own_put (own_put own_t0 f1.val 0) q2.val 1) q3.val 2) (own_hp (own_hp (own_hp (fun _ => (0 : Int32)) f1.val p1) q2.val g2) q3.val g3) (own_K b509 b516 b528) (own_K b545 b567 b594) (29 : Int32) (3 : Int32) (3 : Int32) (own_H p1 g2 g3) 2 (some 2) T736.heap n0 Z759 pf736_0 pf736_1 pf736_2 pf736_3 pf736_4 pf736_5 pf736_6 pf736_7 pf736_8 pf736_9 hN8 hH3 hS8 rfl inj3 fr3) hZ (hw _ (List.mem_of_getElem? (i := 53) rfl)) (hw _ (List.mem_of_getElem? (i := 52) rfl)) (by decide) (by decide)) (g := (mkF m 246 #[.val (.int p0), .val (.int p1), .val (.int p2), .val (.int p3), .val (.int p4), .val (.int (3 : Int32)), .val (.int g2), .val (.int g3), .val (.ref b509), .val (.ref b516), .val (.ref b528), .val (.ref b545), .val (.ref b567), .val (.ref b594), .val (.ref b626), .val (.ref b545), .val (.ref b567), .val (.ref b594), .val (.int (1 : Int32)), .val (.ref b545), .val (.ref b567)] [(.ref b528), (.int g3), (.ref b626)])) rfl (by rw [hml]; rfl) (argsL := [(.ref b626), (.int g3), (.ref b528)]) (rest := []) (lenOf pd_5 rfl) rfl (by show 2 * 0 + _ ≤ _; exact Nat.le_of_eq rfl) (hb hby at_246) (fun _ _ => ⟨rfl, eh761, (by decide : 10 + 0 ≤ _), (by decide : 36 + 0 ≤ _)⟩)
      dsimp only [Pt.U, Pt.locs, Pt.cells, Pt.slots] at X762 l762 y762 z762 st762 hQ762
      subst l762 y762 z762
      obtain ⟨N762, eh762, rfl⟩ := hQ762
      have NA762 := Fr.app NA761 N762
      refine Goes.step st762 ?_
      show Goes _ _ _ _ _ _ _ (T762.setTop (mkF m 249 #[.val (.int p0), .val (.int p1), .val (.int p2), .val (.int p3), .val (.int p4), .val (.int (3 : Int32)), .val (.int g2), .val (.int g3), .val (.ref b509), .val (.ref b516), .val (.ref b528), .val (.ref b545), .val (.ref b567), .val (.ref b594), .val (.ref b626), .val (.ref b545), .val (.ref b567), .val (.ref b594), .val (.int (1 : Int32)), .val (.ref b545), .val (.ref b567)] [(.ref b594)]))
      refine Goes.step (fun _ k => XS.aload X762.here hx rfl (hb hby at_249) rfl rfl k) ?_
      show Goes _ _ _ _ _ _ _ (T762.setTop (mkF m 251 #[.val (.int p0), .val (.int p1), .val (.int p2), .val (.int p3), .val (.int p4), .val (.int (3 : Int32)), .val (.int g2), .val (.int g3), .val (.ref b509), .val (.ref b516), .val (.ref b528), .val (.ref b545), .val (.ref b567), .val (.ref b594), .val (.ref b626), .val (.ref b545), .val (.ref b567), .val (.ref b594), .val (.int (1 : Int32)), .val (.ref b545), .val (.ref b567)] [(.ref b594), (.ref b594)]))
      refine Goes.step (fun _ k => Jvm.RoadKit.acmp X762 hx rfl rfl rfl (pc0 := 251) (pc' := 254) (same := true) rfl (hb hby at_251) rfl (decide_eq_true rfl) (by decide) (by decide) k) ?_
      show Goes _ _ _ _ _ _ _ (T762.setTop (mkF m 254 #[.val (.int p0), .val (.int p1), .val (.int p2), .val (.int p3), .val (.int p4), .val (.int (3 : Int32)), .val (.int g2), .val (.int g3), .val (.ref b509), .val (.ref b516), .val (.ref b528), .val (.ref b545), .val (.ref b567), .val (.ref b594), .val (.ref b626), .val (.ref b545), .val (.ref b567), .val (.ref b594), .val (.int (1 : Int32)), .val (.ref b545), .val (.ref b567)] []))
      refine Goes.step (fun _ k => XS.iconst X762.here hx rfl (hb hby at_254) k) ?_
      show Goes _ _ _ _ _ _ _ (T762.setTop (mkF m 255 #[.val (.int p0), .val (.int p1), .val (.int p2), .val (.int p3), .val (.int p4), .val (.int (3 : Int32)), .val (.int g2), .val (.int g3), .val (.ref b509), .val (.ref b516), .val (.ref b528), .val (.ref b545), .val (.ref b567), .val (.ref b594), .val (.ref b626), .val (.ref b545), .val (.ref b567), .val (.ref b594), .val (.int (1 : Int32)), .val (.ref b545), .val (.ref b567)] [(.int (1 : Int32))]))
      refine Goes.step (fun _ k => XS.goto X762.here hx rfl (pc0 := 255) (pc' := 259) rfl (hb hby at_255) (by decide) (by decide) k) ?_
      show Goes _ _ _ _ _ _ _ (T762.setTop (mkF m 259 #[.val (.int p0), .val (.int p1), .val (.int p2), .val (.int p3), .val (.int p4), .val (.int (3 : Int32)), .val (.int g2), .val (.int g3), .val (.ref b509), .val (.ref b516), .val (.ref b528), .val (.ref b545), .val (.ref b567), .val (.ref b594), .val (.ref b626), .val (.ref b545), .val (.ref b567), .val (.ref b594), .val (.int (1 : Int32)), .val (.ref b545), .val (.ref b567)] [(.int (1 : Int32))]))
      exact Goes.ret X762 hx (BodyLoose.notSynchronized Bd) Bd.returns rfl (Or.inl ⟨rfl, by simp, _, rfl⟩) (hb hby at_259) (by show Q0 Z p0 p1 p2 p3 p4 h0 n0 (some (.int (1 : Int32))) T762.heap _; rw [eh762]; exact ⟨rfl, NA762⟩) (by decide) (by decide)
    · show Goes _ _ _ _ _ _ _ (s₁.setTop (mkF m 47 #[.val (.int p0), .val (.int p1), .val (.int p2), .val (.int p3), .val (.int p4), .val (.int (4 : Int32)), .val (.int g2), .val (.int g3), .unset, .unset, .unset, .unset, .unset, .unset, .unset, .unset, .unset, .unset, .unset, .unset, .unset] []))
      refine Goes.step (fun _ k => XS.iconst X0.here hx rfl (hb hby at_47) k) ?_
      show Goes _ _ _ _ _ _ _ (s₁.setTop (mkF m 48 #[.val (.int p0), .val (.int p1), .val (.int p2), .val (.int p3), .val (.int p4), .val (.int (4 : Int32)), .val (.int g2), .val (.int g3), .unset, .unset, .unset, .unset, .unset, .unset, .unset, .unset, .unset, .unset, .unset, .unset, .unset] [(.int (1 : Int32))]))
      obtain ⟨T763, h763, k763, X763, e763, E763, A763, XA763, st763⟩ := newPE X0 hx hZ (hw _ (List.mem_of_getElem? (i := 0) rfl)) e0 (g := (mkF m 48 #[.val (.int p0), .val (.int p1), .val (.int p2), .val (.int p3), .val (.int p4), .val (.int (4 : Int32)), .val (.int g2), .val (.int g3), .unset, .unset, .unset, .unset, .unset, .unset, .unset, .unset, .unset, .unset, .unset, .unset, .unset] [(.int (1 : Int32))])) rfl (hb hby at_48) rfl (by decide) (cap := 1) (by decide) (by decide) (by decide) (by decide) (ad := "[I") (by decide)
      obtain ⟨b763, g763⟩ : ∃ z, z = h0.size := ⟨_, rfl⟩
      rw [← g763] at A763 st763 XA763
      refine Goes.step st763 ?_
      have g_b763 : n0 ≤ b763 := Nat.le_trans Z0 (Nat.le_of_eq g763.symm)
      have sz_b763 : h0.size ≤ b763 := Nat.le_trans K0.1 (Nat.le_of_eq g763.symm)
      have K764 : Keep h0 h763 [] := K0.ext E763
      have Z764 : n0 ≤ h763.size := Nat.le_trans Z0 E763.1
      have E_b763 := XA763
      have V_b763 : Arv Z h763 b763 k763 .int (1 : Int32) [(.int (0 : Int32))] (.int (0 : Int32)) := (Arv.new A763 (by decide)).pad (pad_rep [] (.int (0 : Int32)) 1)
      show Goes _ _ _ _ _ _ _ (T763.setTop (mkF m 50 #[.val (.int p0), .val (.int p1), .val (.int p2), .val (.int p3), .val (.int p4), .val (.int (4 : Int32)), .val (.int g2), .val (.int g3), .unset, .unset, .unset, .unset, .unset, .unset, .unset, .unset, .unset, .unset, .unset, .unset, .unset] [(.ref b763)]))
      refine Goes.step (fun _ k => XS.dup X763.here hx rfl (hb hby at_50) rfl rfl k) ?_
      show Goes _ _ _ _ _ _ _ (T763.setTop (mkF m 51 #[.val (.int p0), .val (.int p1), .val (.int p2), .val (.int p3), .val (.int p4), .val (.int (4 : Int32)), .val (.int g2), .val (.int g3), .unset, .unset, .unset, .unset, .unset, .unset, .unset, .unset, .unset, .unset, .unset, .unset, .unset] [(.ref b763), (.ref b763)]))
      refine Goes.step (fun _ k => XS.iconst X763.here hx rfl (hb hby at_51) k) ?_
      show Goes _ _ _ _ _ _ _ (T763.setTop (mkF m 52 #[.val (.int p0), .val (.int p1), .val (.int p2), .val (.int p3), .val (.int p4), .val (.int (4 : Int32)), .val (.int g2), .val (.int g3), .unset, .unset, .unset, .unset, .unset, .unset, .unset, .unset, .unset, .unset, .unset, .unset, .unset] [(.int (0 : Int32)), (.ref b763), (.ref b763)]))
      refine Goes.step (fun _ k => XS.iconst X763.here hx rfl (hb hby at_52) k) ?_
      show Goes _ _ _ _ _ _ _ (T763.setTop (mkF m 53 #[.val (.int p0), .val (.int p1), .val (.int p2), .val (.int p3), .val (.int p4), .val (.int (4 : Int32)), .val (.int g2), .val (.int g3), .unset, .unset, .unset, .unset, .unset, .unset, .unset, .unset, .unset, .unset, .unset, .unset, .unset] [(.int (1 : Int32)), (.int (0 : Int32)), (.ref b763), (.ref b763)]))
      obtain ⟨cl765, Ar765, q765, S765, P765, H765, G765⟩ := id V_b763
      have hin765 : ¬ ((0 : Int32) < 0 ∨ cl765.slots.size ≤ ((0 : Int32)).toNatClampNeg) := inb_of S765 ⟨by decide, by decide⟩
      obtain ⟨T766, h766, X766, e766, W766, st766⟩ := stI X763 hx hZ e763 Ar765 (j := (0 : Int32)) hin765 (g := (mkF m 53 #[.val (.int p0), .val (.int p1), .val (.int p2), .val (.int p3), .val (.int p4), .val (.int (4 : Int32)), .val (.int g2), .val (.int g3), .unset, .unset, .unset, .unset, .unset, .unset, .unset, .unset, .unset, .unset, .unset, .unset, .unset] [(.int (1 : Int32)), (.int (0 : Int32)), (.ref b763), (.ref b763)])) rfl rfl (hb hby at_53)
      refine Goes.step st766 ?_
      have V766 := Arv.set Ar765 q765 S765 P765 H765 G765 rfl W766 0 rfl (Nat.le_of_ble_eq_true rfl)
      have f767 := E_b763.wr W766
      have f768 := V766
      have K769 : Keep h0 h766 [] := K764.wr W766 (Or.inr sz_b763)
      have Z769 : n0 ≤ h766.size := by rw [Wr.size W766]; exact Z764
      have N769 := Fr.snoc X766 N0 g_b763
      show Goes _ _ _ _ _ _ _ (T766.setTop (mkF m 54 #[.val (.int p0), .val (.int p1), .val (.int p2), .val (.int p3), .val (.int p4), .val (.int (4 : Int32)), .val (.int g2), .val (.int g3), .unset, .unset, .unset, .unset, .unset, .unset, .unset, .unset, .unset, .unset, .unset, .unset, .unset] [(.ref b763)]))
      refine Goes.step (fun _ k => XS.astore X766.here hx rfl (hb hby at_54) rfl rfl (l' := #[.val (.int p0), .val (.int p1), .val (.int p2), .val (.int p3), .val (.int p4), .val (.int (4 : Int32)), .val (.int g2), .val (.int g3), .val (.ref b763), .unset, .unset, .unset, .unset, .unset, .unset, .unset, .unset, .unset, .unset, .unset, .unset]) rfl k) ?_
      show Goes _ _ _ _ _ _ _ (T766.setTop (mkF m 56 #[.val (.int p0), .val (.int p1), .val (.int p2), .val (.int p3), .val (.int p4), .val (.int (4 : Int32)), .val (.int g2), .val (.int g3), .val (.ref b763), .unset, .unset, .unset, .unset, .unset, .unset, .unset, .unset, .unset, .unset, .unset, .unset] []))
      refine Goes.step (fun _ k => XS.iconst X766.here hx rfl (hb hby at_56) k) ?_
      show Goes _ _ _ _ _ _ _ (T766.setTop (mkF m 57 #[.val (.int p0), .val (.int p1), .val (.int p2), .val (.int p3), .val (.int p4), .val (.int (4 : Int32)), .val (.int g2), .val (.int g3), .val (.ref b763), .unset, .unset, .unset, .unset, .unset, .unset, .unset, .unset, .unset, .unset, .unset, .unset] [(.int (1 : Int32))]))
      obtain ⟨T770, h770, k770, X770, e770, E770, A770, XA770, st770⟩ := newPE X766 hx hZ (hw _ (List.mem_of_getElem? (i := 0) rfl)) e766 (g := (mkF m 57 #[.val (.int p0), .val (.int p1), .val (.int p2), .val (.int p3), .val (.int p4), .val (.int (4 : Int32)), .val (.int g2), .val (.int g3), .val (.ref b763), .unset, .unset, .unset, .unset, .unset, .unset, .unset, .unset, .unset, .unset, .unset, .unset] [(.int (1 : Int32))])) rfl (hb hby at_57) rfl (by decide) (cap := 1) (by decide) (by decide) (by decide) (by decide) (ad := "[I") (by decide)
      obtain ⟨b770, g770⟩ : ∃ z, z = h766.size := ⟨_, rfl⟩
      rw [← g770] at A770 st770 XA770
      refine Goes.step st770 ?_
      have g_b770 : n0 ≤ b770 := Nat.le_trans Z769 (Nat.le_of_eq g770.symm)
      have sz_b770 : h0.size ≤ b770 := Nat.le_trans K769.1 (Nat.le_of_eq g770.symm)
      have ne771 : b763 ≠ b770 := Nat.ne_of_lt (Nat.lt_of_lt_of_le f767.lt (Nat.le_of_eq g770.symm))
      have f772 := f767.ext E770
      have f773 := f768.ext E770
      have K774 : Keep h0 h770 [] := K769.ext E770
      have Z774 : n0 ≤ h770.size := Nat.le_trans Z769 E770.1
      have E_b770 := XA770
      have V_b770 : Arv Z h770 b770 k770 .int (1 : Int32) [(.int (0 : Int32))] (.int (0 : Int32)) := (Arv.new A770 (by decide)).pad (pad_rep [] (.int (0 : Int32)) 1)
      show Goes _ _ _ _ _ _ _ (T770.setTop (mkF m 59 #[.val (.int p0), .val (.int p1), .val (.int p2), .val (.int p3), .val (.int p4), .val (.int (4 : Int32)), .val (.int g2), .val (.int g3), .val (.ref b763), .unset, .unset, .unset, .unset, .unset, .unset, .unset, .unset, .unset, .unset, .unset, .unset] [(.ref b770)]))
      refine Goes.step (fun _ k => XS.dup X770.here hx rfl (hb hby at_59) rfl rfl k) ?_
      show Goes _ _ _ _ _ _ _ (T770.setTop (mkF m 60 #[.val (.int p0), .val (.int p1), .val (.int p2), .val (.int p3), .val (.int p4), .val (.int (4 : Int32)), .val (.int g2), .val (.int g3), .val (.ref b763), .unset, .unset, .unset, .unset, .unset, .unset, .unset, .unset, .unset, .unset, .unset, .unset] [(.ref b770), (.ref b770)]))
      refine Goes.step (fun _ k => XS.iconst X770.here hx rfl (hb hby at_60) k) ?_
      show Goes _ _ _ _ _ _ _ (T770.setTop (mkF m 61 #[.val (.int p0), .val (.int p1), .val (.int p2), .val (.int p3), .val (.int p4), .val (.int (4 : Int32)), .val (.int g2), .val (.int g3), .val (.ref b763), .unset, .unset, .unset, .unset, .unset, .unset, .unset, .unset, .unset, .unset, .unset, .unset] [(.int (0 : Int32)), (.ref b770), (.ref b770)]))
      refine Goes.step (fun _ k => XS.iconst X770.here hx rfl (hb hby at_61) k) ?_
      show Goes _ _ _ _ _ _ _ (T770.setTop (mkF m 62 #[.val (.int p0), .val (.int p1), .val (.int p2), .val (.int p3), .val (.int p4), .val (.int (4 : Int32)), .val (.int g2), .val (.int g3), .val (.ref b763), .unset, .unset, .unset, .unset, .unset, .unset, .unset, .unset, .unset, .unset, .unset, .unset] [(.int (2 : Int32)), (.int (0 : Int32)), (.ref b770), (.ref b770)]))
      obtain ⟨cl775, Ar775, q775, S775, P775, H775, G775⟩ := id V_b770
      have hin775 : ¬ ((0 : Int32) < 0 ∨ cl775.slots.size ≤ ((0 : Int32)).toNatClampNeg) := inb_of S775 ⟨by decide, by decide⟩
      obtain ⟨T776, h776, X776, e776, W776, st776⟩ := stI X770 hx hZ e770 Ar775 (j := (0 : Int32)) hin775 (g := (mkF m 62 #[.val (.int p0), .val (.int p1), .val (.int p2), .val (.int p3), .val (.int p4), .val (.int (4 : Int32)), .val (.int g2), .val (.int g3), .val (.ref b763), .unset, .unset, .unset, .unset, .unset, .unset, .unset, .unset, .unset, .unset, .unset, .unset] [(.int (2 : Int32)), (.int (0 : Int32)), (.ref b770), (.ref b770)])) rfl rfl (hb hby at_62)
      refine Goes.step st776 ?_
      have V776 := Arv.set Ar775 q775 S775 P775 H775 G775 rfl W776 0 rfl (Nat.le_of_ble_eq_true rfl)
      have f777 := f772.wr W776
      have f778 := f773.other W776 ne771
      have f779 := E_b770.wr W776
      have f780 := V776
      have K781 : Keep h0 h776 [] := K774.wr W776 (Or.inr sz_b770)
      have Z781 : n0 ≤ h776.size := by rw [Wr.size W776]; exact Z774
      have N781 := Fr.snoc X776 N769 g_b770
      show Goes _ _ _ _ _ _ _ (T776.setTop (mkF m 63 #[.val (.int p0), .val (.int p1), .val (.int p2), .val (.int p3), .val (.int p4), .val (.int (4 : Int32)), .val (.int g2), .val (.int g3), .val (.ref b763), .unset, .unset, .unset, .unset, .unset, .unset, .unset, .unset, .unset, .unset, .unset, .unset] [(.ref b770)]))
      refine Goes.step (fun _ k => XS.astore X776.here hx rfl (hb hby at_63) rfl rfl (l' := #[.val (.int p0), .val (.int p1), .val (.int p2), .val (.int p3), .val (.int p4), .val (.int (4 : Int32)), .val (.int g2), .val (.int g3), .val (.ref b763), .val (.ref b770), .unset, .unset, .unset, .unset, .unset, .unset, .unset, .unset, .unset, .unset, .unset]) rfl k) ?_
      show Goes _ _ _ _ _ _ _ (T776.setTop (mkF m 65 #[.val (.int p0), .val (.int p1), .val (.int p2), .val (.int p3), .val (.int p4), .val (.int (4 : Int32)), .val (.int g2), .val (.int g3), .val (.ref b763), .val (.ref b770), .unset, .unset, .unset, .unset, .unset, .unset, .unset, .unset, .unset, .unset, .unset] []))
      refine Goes.step (fun _ k => XS.iconst X776.here hx rfl (hb hby at_65) k) ?_
      show Goes _ _ _ _ _ _ _ (T776.setTop (mkF m 66 #[.val (.int p0), .val (.int p1), .val (.int p2), .val (.int p3), .val (.int p4), .val (.int (4 : Int32)), .val (.int g2), .val (.int g3), .val (.ref b763), .val (.ref b770), .unset, .unset, .unset, .unset, .unset, .unset, .unset, .unset, .unset, .unset, .unset] [(.int (1 : Int32))]))
      obtain ⟨T782, h782, k782, X782, e782, E782, A782, XA782, st782⟩ := newPE X776 hx hZ (hw _ (List.mem_of_getElem? (i := 0) rfl)) e776 (g := (mkF m 66 #[.val (.int p0), .val (.int p1), .val (.int p2), .val (.int p3), .val (.int p4), .val (.int (4 : Int32)), .val (.int g2), .val (.int g3), .val (.ref b763), .val (.ref b770), .unset, .unset, .unset, .unset, .unset, .unset, .unset, .unset, .unset, .unset, .unset] [(.int (1 : Int32))])) rfl (hb hby at_66) rfl (by decide) (cap := 1) (by decide) (by decide) (by decide) (by decide) (ad := "[I") (by decide)
      obtain ⟨b782, g782⟩ : ∃ z, z = h776.size := ⟨_, rfl⟩
      rw [← g782] at A782 st782 XA782
      refine Goes.step st782 ?_
      have g_b782 : n0 ≤ b782 := Nat.le_trans Z781 (Nat.le_of_eq g782.symm)
      have sz_b782 : h0.size ≤ b782 := Nat.le_trans K781.1 (Nat.le_of_eq g782.symm)
      have ne783 : b763 ≠ b782 := Nat.ne_of_lt (Nat.lt_of_lt_of_le f777.lt (Nat.le_of_eq g782.symm))
      have ne784 : b770 ≠ b782 := Nat.ne_of_lt (Nat.lt_of_lt_of_le f779.lt (Nat.le_of_eq g782.symm))
      have f785 := f777.ext E782
      have f786 := f778.ext E782
      have f787 := f779.ext E782
      have f788 := f780.ext E782
      have K789 : Keep h0 h782 [] := K781.ext E782
      have Z789 : n0 ≤ h782.size := Nat.le_trans Z781 E782.1
      have E_b782 := XA782
      have V_b782 : Arv Z h782 b782 k782 .int (1 : Int32) [(.int (0 : Int32))] (.int (0 : Int32)) := (Arv.new A782 (by decide)).pad (pad_rep [] (.int (0 : Int32)) 1)
      show Goes _ _ _ _ _ _ _ (T782.setTop (mkF m 68 #[.val (.int p0), .val (.int p1), .val (.int p2), .val (.int p3), .val (.int p4), .val (.int (4 : Int32)), .val (.int g2), .val (.int g3), .val (.ref b763), .val (.ref b770), .unset, .unset, .unset, .unset, .unset, .unset, .unset, .unset, .unset, .unset, .unset] [(.ref b782)]))
      refine Goes.step (fun _ k => XS.dup X782.here hx rfl (hb hby at_68) rfl rfl k) ?_
      show Goes _ _ _ _ _ _ _ (T782.setTop (mkF m 69 #[.val (.int p0), .val (.int p1), .val (.int p2), .val (.int p3), .val (.int p4), .val (.int (4 : Int32)), .val (.int g2), .val (.int g3), .val (.ref b763), .val (.ref b770), .unset, .unset, .unset, .unset, .unset, .unset, .unset, .unset, .unset, .unset, .unset] [(.ref b782), (.ref b782)]))
      refine Goes.step (fun _ k => XS.iconst X782.here hx rfl (hb hby at_69) k) ?_
      show Goes _ _ _ _ _ _ _ (T782.setTop (mkF m 70 #[.val (.int p0), .val (.int p1), .val (.int p2), .val (.int p3), .val (.int p4), .val (.int (4 : Int32)), .val (.int g2), .val (.int g3), .val (.ref b763), .val (.ref b770), .unset, .unset, .unset, .unset, .unset, .unset, .unset, .unset, .unset, .unset, .unset] [(.int (0 : Int32)), (.ref b782), (.ref b782)]))
      refine Goes.step (fun _ k => XS.iconst X782.here hx rfl (hb hby at_70) k) ?_
      show Goes _ _ _ _ _ _ _ (T782.setTop (mkF m 71 #[.val (.int p0), .val (.int p1), .val (.int p2), .val (.int p3), .val (.int p4), .val (.int (4 : Int32)), .val (.int g2), .val (.int g3), .val (.ref b763), .val (.ref b770), .unset, .unset, .unset, .unset, .unset, .unset, .unset, .unset, .unset, .unset, .unset] [(.int (3 : Int32)), (.int (0 : Int32)), (.ref b782), (.ref b782)]))
      obtain ⟨cl790, Ar790, q790, S790, P790, H790, G790⟩ := id V_b782
      have hin790 : ¬ ((0 : Int32) < 0 ∨ cl790.slots.size ≤ ((0 : Int32)).toNatClampNeg) := inb_of S790 ⟨by decide, by decide⟩
      obtain ⟨T791, h791, X791, e791, W791, st791⟩ := stI X782 hx hZ e782 Ar790 (j := (0 : Int32)) hin790 (g := (mkF m 71 #[.val (.int p0), .val (.int p1), .val (.int p2), .val (.int p3), .val (.int p4), .val (.int (4 : Int32)), .val (.int g2), .val (.int g3), .val (.ref b763), .val (.ref b770), .unset, .unset, .unset, .unset, .unset, .unset, .unset, .unset, .unset, .unset, .unset] [(.int (3 : Int32)), (.int (0 : Int32)), (.ref b782), (.ref b782)])) rfl rfl (hb hby at_71)
      refine Goes.step st791 ?_
      have V791 := Arv.set Ar790 q790 S790 P790 H790 G790 rfl W791 0 rfl (Nat.le_of_ble_eq_true rfl)
      have f792 := f785.wr W791
      have f793 := f786.other W791 ne783
      have f794 := f787.wr W791
      have f795 := f788.other W791 ne784
      have f796 := E_b782.wr W791
      have f797 := V791
      have K798 : Keep h0 h791 [] := K789.wr W791 (Or.inr sz_b782)
      have Z798 : n0 ≤ h791.size := by rw [Wr.size W791]; exact Z789
      have N798 := Fr.snoc X791 N781 g_b782
      show Goes _ _ _ _ _ _ _ (T791.setTop (mkF m 72 #[.val (.int p0), .val (.int p1), .val (.int p2), .val (.int p3), .val (.int p4), .val (.int (4 : Int32)), .val (.int g2), .val (.int g3), .val (.ref b763), .val (.ref b770), .unset, .unset, .unset, .unset, .unset, .unset, .unset, .unset, .unset, .unset, .unset] [(.ref b782)]))
      refine Goes.step (fun _ k => XS.astore X791.here hx rfl (hb hby at_72) rfl rfl (l' := #[.val (.int p0), .val (.int p1), .val (.int p2), .val (.int p3), .val (.int p4), .val (.int (4 : Int32)), .val (.int g2), .val (.int g3), .val (.ref b763), .val (.ref b770), .val (.ref b782), .unset, .unset, .unset, .unset, .unset, .unset, .unset, .unset, .unset, .unset]) rfl k) ?_
      show Goes _ _ _ _ _ _ _ (T791.setTop (mkF m 74 #[.val (.int p0), .val (.int p1), .val (.int p2), .val (.int p3), .val (.int p4), .val (.int (4 : Int32)), .val (.int g2), .val (.int g3), .val (.ref b763), .val (.ref b770), .val (.ref b782), .unset, .unset, .unset, .unset, .unset, .unset, .unset, .unset, .unset, .unset] []))
      refine Goes.step (fun _ k => XS.iconst X791.here hx rfl (hb hby at_74) k) ?_
      show Goes _ _ _ _ _ _ _ (T791.setTop (mkF m 75 #[.val (.int p0), .val (.int p1), .val (.int p2), .val (.int p3), .val (.int p4), .val (.int (4 : Int32)), .val (.int g2), .val (.int g3), .val (.ref b763), .val (.ref b770), .val (.ref b782), .unset, .unset, .unset, .unset, .unset, .unset, .unset, .unset, .unset, .unset] [(.int (1 : Int32))]))
      obtain ⟨T799, h799, k799, X799, e799, E799, A799, XA799, st799⟩ := newPE X791 hx hZ (hw _ (List.mem_of_getElem? (i := 0) rfl)) e791 (g := (mkF m 75 #[.val (.int p0), .val (.int p1), .val (.int p2), .val (.int p3), .val (.int p4), .val (.int (4 : Int32)), .val (.int g2), .val (.int g3), .val (.ref b763), .val (.ref b770), .val (.ref b782), .unset, .unset, .unset, .unset, .unset, .unset, .unset, .unset, .unset, .unset] [(.int (1 : Int32))])) rfl (hb hby at_75) rfl (by decide) (cap := 1) (by decide) (by decide) (by decide) (by decide) (ad := "[I") (by decide)
      obtain ⟨b799, g799⟩ : ∃ z, z = h791.size := ⟨_, rfl⟩
      rw [← g799] at A799 st799 XA799
      refine Goes.step st799 ?_
      have g_b799 : n0 ≤ b799 := Nat.le_trans Z798 (Nat.le_of_eq g799.symm)
      have sz_b799 : h0.size ≤ b799 := Nat.le_trans K798.1 (Nat.le_of_eq g799.symm)
      have ne800 : b763 ≠ b799 := Nat.ne_of_lt (Nat.lt_of_lt_of_le f792.lt (Nat.le_of_eq g799.symm))
      have ne801 : b770 ≠ b799 := Nat.ne_of_lt (Nat.lt_of_lt_of_le f794.lt (Nat.le_of_eq g799.symm))
      have ne802 : b782 ≠ b799 := Nat.ne_of_lt (Nat.lt_of_lt_of_le f796.lt (Nat.le_of_eq g799.symm))
      have f803 := f792.ext E799
      have f804 := f793.ext E799
      have f805 := f794.ext E799
      have f806 := f795.ext E799
      have f807 := f796.ext E799
      have f808 := f797.ext E799
      have K809 : Keep h0 h799 [] := K798.ext E799
      have Z809 : n0 ≤ h799.size := Nat.le_trans Z798 E799.1
      have E_b799 := XA799
      have V_b799 : Arv Z h799 b799 k799 .int (1 : Int32) [(.int (0 : Int32))] (.int (0 : Int32)) := (Arv.new A799 (by decide)).pad (pad_rep [] (.int (0 : Int32)) 1)
      show Goes _ _ _ _ _ _ _ (T799.setTop (mkF m 77 #[.val (.int p0), .val (.int p1), .val (.int p2), .val (.int p3), .val (.int p4), .val (.int (4 : Int32)), .val (.int g2), .val (.int g3), .val (.ref b763), .val (.ref b770), .val (.ref b782), .unset, .unset, .unset, .unset, .unset, .unset, .unset, .unset, .unset, .unset] [(.ref b799)]))
      refine Goes.step (fun _ k => XS.dup X799.here hx rfl (hb hby at_77) rfl rfl k) ?_
      show Goes _ _ _ _ _ _ _ (T799.setTop (mkF m 78 #[.val (.int p0), .val (.int p1), .val (.int p2), .val (.int p3), .val (.int p4), .val (.int (4 : Int32)), .val (.int g2), .val (.int g3), .val (.ref b763), .val (.ref b770), .val (.ref b782), .unset, .unset, .unset, .unset, .unset, .unset, .unset, .unset, .unset, .unset] [(.ref b799), (.ref b799)]))
      refine Goes.step (fun _ k => XS.iconst X799.here hx rfl (hb hby at_78) k) ?_
      show Goes _ _ _ _ _ _ _ (T799.setTop (mkF m 79 #[.val (.int p0), .val (.int p1), .val (.int p2), .val (.int p3), .val (.int p4), .val (.int (4 : Int32)), .val (.int g2), .val (.int g3), .val (.ref b763), .val (.ref b770), .val (.ref b782), .unset, .unset, .unset, .unset, .unset, .unset, .unset, .unset, .unset, .unset] [(.int (0 : Int32)), (.ref b799), (.ref b799)]))
      refine Goes.step (fun _ k => XS.bipush X799.here hx rfl (hb hby at_79) k) ?_
      show Goes _ _ _ _ _ _ _ (T799.setTop (mkF m 81 #[.val (.int p0), .val (.int p1), .val (.int p2), .val (.int p3), .val (.int p4), .val (.int (4 : Int32)), .val (.int g2), .val (.int g3), .val (.ref b763), .val (.ref b770), .val (.ref b782), .unset, .unset, .unset, .unset, .unset, .unset, .unset, .unset, .unset, .unset] [(.int (11 : Int32)), (.int (0 : Int32)), (.ref b799), (.ref b799)]))
      obtain ⟨cl810, Ar810, q810, S810, P810, H810, G810⟩ := id V_b799
      have hin810 : ¬ ((0 : Int32) < 0 ∨ cl810.slots.size ≤ ((0 : Int32)).toNatClampNeg) := inb_of S810 ⟨by decide, by decide⟩
      obtain ⟨T811, h811, X811, e811, W811, st811⟩ := stI X799 hx hZ e799 Ar810 (j := (0 : Int32)) hin810 (g := (mkF m 81 #[.val (.int p0), .val (.int p1), .val (.int p2), .val (.int p3), .val (.int p4), .val (.int (4 : Int32)), .val (.int g2), .val (.int g3), .val (.ref b763), .val (.ref b770), .val (.ref b782), .unset, .unset, .unset, .unset, .unset, .unset, .unset, .unset, .unset, .unset] [(.int (11 : Int32)), (.int (0 : Int32)), (.ref b799), (.ref b799)])) rfl rfl (hb hby at_81)
      refine Goes.step st811 ?_
      have V811 := Arv.set Ar810 q810 S810 P810 H810 G810 rfl W811 0 rfl (Nat.le_of_ble_eq_true rfl)
      have f812 := f803.wr W811
      have f813 := f804.other W811 ne800
      have f814 := f805.wr W811
      have f815 := f806.other W811 ne801
      have f816 := f807.wr W811
      have f817 := f808.other W811 ne802
      have f818 := E_b799.wr W811
      have f819 := V811
      have K820 : Keep h0 h811 [] := K809.wr W811 (Or.inr sz_b799)
      have Z820 : n0 ≤ h811.size := by rw [Wr.size W811]; exact Z809
      have N820 := Fr.snoc X811 N798 g_b799
      show Goes _ _ _ _ _ _ _ (T811.setTop (mkF m 82 #[.val (.int p0), .val (.int p1), .val (.int p2), .val (.int p3), .val (.int p4), .val (.int (4 : Int32)), .val (.int g2), .val (.int g3), .val (.ref b763), .val (.ref b770), .val (.ref b782), .unset, .unset, .unset, .unset, .unset, .unset, .unset, .unset, .unset, .unset] [(.ref b799)]))
      refine Goes.step (fun _ k => XS.astore X811.here hx rfl (hb hby at_82) rfl rfl (l' := #[.val (.int p0), .val (.int p1), .val (.int p2), .val (.int p3), .val (.int p4), .val (.int (4 : Int32)), .val (.int g2), .val (.int g3), .val (.ref b763), .val (.ref b770), .val (.ref b782), .val (.ref b799), .unset, .unset, .unset, .unset, .unset, .unset, .unset, .unset, .unset]) rfl k) ?_
      show Goes _ _ _ _ _ _ _ (T811.setTop (mkF m 84 #[.val (.int p0), .val (.int p1), .val (.int p2), .val (.int p3), .val (.int p4), .val (.int (4 : Int32)), .val (.int g2), .val (.int g3), .val (.ref b763), .val (.ref b770), .val (.ref b782), .val (.ref b799), .unset, .unset, .unset, .unset, .unset, .unset, .unset, .unset, .unset] []))
      refine Goes.step (fun _ k => XS.iconst X811.here hx rfl (hb hby at_84) k) ?_
      show Goes _ _ _ _ _ _ _ (T811.setTop (mkF m 85 #[.val (.int p0), .val (.int p1), .val (.int p2), .val (.int p3), .val (.int p4), .val (.int (4 : Int32)), .val (.int g2), .val (.int g3), .val (.ref b763), .val (.ref b770), .val (.ref b782), .val (.ref b799), .unset, .unset, .unset, .unset, .unset, .unset, .unset, .unset, .unset] [(.int (1 : Int32))]))
      obtain ⟨T821, h821, k821, X821, e821, E821, A821, XA821, st821⟩ := newPE X811 hx hZ (hw _ (List.mem_of_getElem? (i := 0) rfl)) e811 (g := (mkF m 85 #[.val (.int p0), .val (.int p1), .val (.int p2), .val (.int p3), .val (.int p4), .val (.int (4 : Int32)), .val (.int g2), .val (.int g3), .val (.ref b763), .val (.ref b770), .val (.ref b782), .val (.ref b799), .unset, .unset, .unset, .unset, .unset, .unset, .unset, .unset, .unset] [(.int (1 : Int32))])) rfl (hb hby at_85) rfl (by decide) (cap := 1) (by decide) (by decide) (by decide) (by decide) (ad := "[I") (by decide)
      obtain ⟨b821, g821⟩ : ∃ z, z = h811.size := ⟨_, rfl⟩
      rw [← g821] at A821 st821 XA821
      refine Goes.step st821 ?_
      have g_b821 : n0 ≤ b821 := Nat.le_trans Z820 (Nat.le_of_eq g821.symm)
      have sz_b821 : h0.size ≤ b821 := Nat.le_trans K820.1 (Nat.le_of_eq g821.symm)
      have ne822 : b763 ≠ b821 := Nat.ne_of_lt (Nat.lt_of_lt_of_le f812.lt (Nat.le_of_eq g821.symm))
      have ne823 : b770 ≠ b821 := Nat.ne_of_lt (Nat.lt_of_lt_of_le f814.lt (Nat.le_of_eq g821.symm))
      have ne824 : b782 ≠ b821 := Nat.ne_of_lt (Nat.lt_of_lt_of_le f816.lt (Nat.le_of_eq g821.symm))
      have ne825 : b799 ≠ b821 := Nat.ne_of_lt (Nat.lt_of_lt_of_le f818.lt (Nat.le_of_eq g821.symm))
      have f826 := f812.ext E821
      have f827 := f813.ext E821
      have f828 := f814.ext E821
      have f829 := f815.ext E821
      have f830 := f816.ext E821
      have f831 := f817.ext E821
      have f832 := f818.ext E821
      have f833 := f819.ext E821
      have K834 : Keep h0 h821 [] := K820.ext E821
      have Z834 : n0 ≤ h821.size := Nat.le_trans Z820 E821.1
      have E_b821 := XA821
      have V_b821 : Arv Z h821 b821 k821 .int (1 : Int32) [(.int (0 : Int32))] (.int (0 : Int32)) := (Arv.new A821 (by decide)).pad (pad_rep [] (.int (0 : Int32)) 1)
      show Goes _ _ _ _ _ _ _ (T821.setTop (mkF m 87 #[.val (.int p0), .val (.int p1), .val (.int p2), .val (.int p3), .val (.int p4), .val (.int (4 : Int32)), .val (.int g2), .val (.int g3), .val (.ref b763), .val (.ref b770), .val (.ref b782), .val (.ref b799), .unset, .unset, .unset, .unset, .unset, .unset, .unset, .unset, .unset] [(.ref b821)]))
      refine Goes.step (fun _ k => XS.dup X821.here hx rfl (hb hby at_87) rfl rfl k) ?_
      show Goes _ _ _ _ _ _ _ (T821.setTop (mkF m 88 #[.val (.int p0), .val (.int p1), .val (.int p2), .val (.int p3), .val (.int p4), .val (.int (4 : Int32)), .val (.int g2), .val (.int g3), .val (.ref b763), .val (.ref b770), .val (.ref b782), .val (.ref b799), .unset, .unset, .unset, .unset, .unset, .unset, .unset, .unset, .unset] [(.ref b821), (.ref b821)]))
      refine Goes.step (fun _ k => XS.iconst X821.here hx rfl (hb hby at_88) k) ?_
      show Goes _ _ _ _ _ _ _ (T821.setTop (mkF m 89 #[.val (.int p0), .val (.int p1), .val (.int p2), .val (.int p3), .val (.int p4), .val (.int (4 : Int32)), .val (.int g2), .val (.int g3), .val (.ref b763), .val (.ref b770), .val (.ref b782), .val (.ref b799), .unset, .unset, .unset, .unset, .unset, .unset, .unset, .unset, .unset] [(.int (0 : Int32)), (.ref b821), (.ref b821)]))
      refine Goes.step (fun _ k => XS.bipush X821.here hx rfl (hb hby at_89) k) ?_
      show Goes _ _ _ _ _ _ _ (T821.setTop (mkF m 91 #[.val (.int p0), .val (.int p1), .val (.int p2), .val (.int p3), .val (.int p4), .val (.int (4 : Int32)), .val (.int g2), .val (.int g3), .val (.ref b763), .val (.ref b770), .val (.ref b782), .val (.ref b799), .unset, .unset, .unset, .unset, .unset, .unset, .unset, .unset, .unset] [(.int (12 : Int32)), (.int (0 : Int32)), (.ref b821), (.ref b821)]))
      obtain ⟨cl835, Ar835, q835, S835, P835, H835, G835⟩ := id V_b821
      have hin835 : ¬ ((0 : Int32) < 0 ∨ cl835.slots.size ≤ ((0 : Int32)).toNatClampNeg) := inb_of S835 ⟨by decide, by decide⟩
      obtain ⟨T836, h836, X836, e836, W836, st836⟩ := stI X821 hx hZ e821 Ar835 (j := (0 : Int32)) hin835 (g := (mkF m 91 #[.val (.int p0), .val (.int p1), .val (.int p2), .val (.int p3), .val (.int p4), .val (.int (4 : Int32)), .val (.int g2), .val (.int g3), .val (.ref b763), .val (.ref b770), .val (.ref b782), .val (.ref b799), .unset, .unset, .unset, .unset, .unset, .unset, .unset, .unset, .unset] [(.int (12 : Int32)), (.int (0 : Int32)), (.ref b821), (.ref b821)])) rfl rfl (hb hby at_91)
      refine Goes.step st836 ?_
      have V836 := Arv.set Ar835 q835 S835 P835 H835 G835 rfl W836 0 rfl (Nat.le_of_ble_eq_true rfl)
      have f837 := f826.wr W836
      have f838 := f827.other W836 ne822
      have f839 := f828.wr W836
      have f840 := f829.other W836 ne823
      have f841 := f830.wr W836
      have f842 := f831.other W836 ne824
      have f843 := f832.wr W836
      have f844 := f833.other W836 ne825
      have f845 := E_b821.wr W836
      have f846 := V836
      have K847 : Keep h0 h836 [] := K834.wr W836 (Or.inr sz_b821)
      have Z847 : n0 ≤ h836.size := by rw [Wr.size W836]; exact Z834
      have N847 := Fr.snoc X836 N820 g_b821
      show Goes _ _ _ _ _ _ _ (T836.setTop (mkF m 92 #[.val (.int p0), .val (.int p1), .val (.int p2), .val (.int p3), .val (.int p4), .val (.int (4 : Int32)), .val (.int g2), .val (.int g3), .val (.ref b763), .val (.ref b770), .val (.ref b782), .val (.ref b799), .unset, .unset, .unset, .unset, .unset, .unset, .unset, .unset, .unset] [(.ref b821)]))
      refine Goes.step (fun _ k => XS.astore X836.here hx rfl (hb hby at_92) rfl rfl (l' := #[.val (.int p0), .val (.int p1), .val (.int p2), .val (.int p3), .val (.int p4), .val (.int (4 : Int32)), .val (.int g2), .val (.int g3), .val (.ref b763), .val (.ref b770), .val (.ref b782), .val (.ref b799), .val (.ref b821), .unset, .unset, .unset, .unset, .unset, .unset, .unset, .unset]) rfl k) ?_
      show Goes _ _ _ _ _ _ _ (T836.setTop (mkF m 94 #[.val (.int p0), .val (.int p1), .val (.int p2), .val (.int p3), .val (.int p4), .val (.int (4 : Int32)), .val (.int g2), .val (.int g3), .val (.ref b763), .val (.ref b770), .val (.ref b782), .val (.ref b799), .val (.ref b821), .unset, .unset, .unset, .unset, .unset, .unset, .unset, .unset] []))
      refine Goes.step (fun _ k => XS.iconst X836.here hx rfl (hb hby at_94) k) ?_
      show Goes _ _ _ _ _ _ _ (T836.setTop (mkF m 95 #[.val (.int p0), .val (.int p1), .val (.int p2), .val (.int p3), .val (.int p4), .val (.int (4 : Int32)), .val (.int g2), .val (.int g3), .val (.ref b763), .val (.ref b770), .val (.ref b782), .val (.ref b799), .val (.ref b821), .unset, .unset, .unset, .unset, .unset, .unset, .unset, .unset] [(.int (1 : Int32))]))
      obtain ⟨T848, h848, k848, X848, e848, E848, A848, XA848, st848⟩ := newPE X836 hx hZ (hw _ (List.mem_of_getElem? (i := 0) rfl)) e836 (g := (mkF m 95 #[.val (.int p0), .val (.int p1), .val (.int p2), .val (.int p3), .val (.int p4), .val (.int (4 : Int32)), .val (.int g2), .val (.int g3), .val (.ref b763), .val (.ref b770), .val (.ref b782), .val (.ref b799), .val (.ref b821), .unset, .unset, .unset, .unset, .unset, .unset, .unset, .unset] [(.int (1 : Int32))])) rfl (hb hby at_95) rfl (by decide) (cap := 1) (by decide) (by decide) (by decide) (by decide) (ad := "[I") (by decide)
      obtain ⟨b848, g848⟩ : ∃ z, z = h836.size := ⟨_, rfl⟩
      rw [← g848] at A848 st848 XA848
      refine Goes.step st848 ?_
      have g_b848 : n0 ≤ b848 := Nat.le_trans Z847 (Nat.le_of_eq g848.symm)
      have sz_b848 : h0.size ≤ b848 := Nat.le_trans K847.1 (Nat.le_of_eq g848.symm)
      have ne849 : b763 ≠ b848 := Nat.ne_of_lt (Nat.lt_of_lt_of_le f837.lt (Nat.le_of_eq g848.symm))
      have ne850 : b770 ≠ b848 := Nat.ne_of_lt (Nat.lt_of_lt_of_le f839.lt (Nat.le_of_eq g848.symm))
      have ne851 : b782 ≠ b848 := Nat.ne_of_lt (Nat.lt_of_lt_of_le f841.lt (Nat.le_of_eq g848.symm))
      have ne852 : b799 ≠ b848 := Nat.ne_of_lt (Nat.lt_of_lt_of_le f843.lt (Nat.le_of_eq g848.symm))
      have ne853 : b821 ≠ b848 := Nat.ne_of_lt (Nat.lt_of_lt_of_le f845.lt (Nat.le_of_eq g848.symm))
      have f854 := f837.ext E848
      have f855 := f838.ext E848
      have f856 := f839.ext E848
      have f857 := f840.ext E848
      have f858 := f841.ext E848
      have f859 := f842.ext E848
      have f860 := f843.ext E848
      have f861 := f844.ext E848
      have f862 := f845.ext E848
      have f863 := f846.ext E848
      have K864 : Keep h0 h848 [] := K847.ext E848
      have Z864 : n0 ≤ h848.size := Nat.le_trans Z847 E848.1
      have E_b848 := XA848
      have V_b848 : Arv Z h848 b848 k848 .int (1 : Int32) [(.int (0 : Int32))] (.int (0 : Int32)) := (Arv.new A848 (by decide)).pad (pad_rep [] (.int (0 : Int32)) 1)
      show Goes _ _ _ _ _ _ _ (T848.setTop (mkF m 97 #[.val (.int p0), .val (.int p1), .val (.int p2), .val (.int p3), .val (.int p4), .val (.int (4 : Int32)), .val (.int g2), .val (.int g3), .val (.ref b763), .val (.ref b770), .val (.ref b782), .val (.ref b799), .val (.ref b821), .unset, .unset, .unset, .unset, .unset, .unset, .unset, .unset] [(.ref b848)]))
      refine Goes.step (fun _ k => XS.dup X848.here hx rfl (hb hby at_97) rfl rfl k) ?_
      show Goes _ _ _ _ _ _ _ (T848.setTop (mkF m 98 #[.val (.int p0), .val (.int p1), .val (.int p2), .val (.int p3), .val (.int p4), .val (.int (4 : Int32)), .val (.int g2), .val (.int g3), .val (.ref b763), .val (.ref b770), .val (.ref b782), .val (.ref b799), .val (.ref b821), .unset, .unset, .unset, .unset, .unset, .unset, .unset, .unset] [(.ref b848), (.ref b848)]))
      refine Goes.step (fun _ k => XS.iconst X848.here hx rfl (hb hby at_98) k) ?_
      show Goes _ _ _ _ _ _ _ (T848.setTop (mkF m 99 #[.val (.int p0), .val (.int p1), .val (.int p2), .val (.int p3), .val (.int p4), .val (.int (4 : Int32)), .val (.int g2), .val (.int g3), .val (.ref b763), .val (.ref b770), .val (.ref b782), .val (.ref b799), .val (.ref b821), .unset, .unset, .unset, .unset, .unset, .unset, .unset, .unset] [(.int (0 : Int32)), (.ref b848), (.ref b848)]))
      refine Goes.step (fun _ k => XS.bipush X848.here hx rfl (hb hby at_99) k) ?_
      show Goes _ _ _ _ _ _ _ (T848.setTop (mkF m 101 #[.val (.int p0), .val (.int p1), .val (.int p2), .val (.int p3), .val (.int p4), .val (.int (4 : Int32)), .val (.int g2), .val (.int g3), .val (.ref b763), .val (.ref b770), .val (.ref b782), .val (.ref b799), .val (.ref b821), .unset, .unset, .unset, .unset, .unset, .unset, .unset, .unset] [(.int (13 : Int32)), (.int (0 : Int32)), (.ref b848), (.ref b848)]))
      obtain ⟨cl865, Ar865, q865, S865, P865, H865, G865⟩ := id V_b848
      have hin865 : ¬ ((0 : Int32) < 0 ∨ cl865.slots.size ≤ ((0 : Int32)).toNatClampNeg) := inb_of S865 ⟨by decide, by decide⟩
      obtain ⟨T866, h866, X866, e866, W866, st866⟩ := stI X848 hx hZ e848 Ar865 (j := (0 : Int32)) hin865 (g := (mkF m 101 #[.val (.int p0), .val (.int p1), .val (.int p2), .val (.int p3), .val (.int p4), .val (.int (4 : Int32)), .val (.int g2), .val (.int g3), .val (.ref b763), .val (.ref b770), .val (.ref b782), .val (.ref b799), .val (.ref b821), .unset, .unset, .unset, .unset, .unset, .unset, .unset, .unset] [(.int (13 : Int32)), (.int (0 : Int32)), (.ref b848), (.ref b848)])) rfl rfl (hb hby at_101)
      refine Goes.step st866 ?_
      have V866 := Arv.set Ar865 q865 S865 P865 H865 G865 rfl W866 0 rfl (Nat.le_of_ble_eq_true rfl)
      have f867 := f854.wr W866
      have f868 := f855.other W866 ne849
      have f869 := f856.wr W866
      have f870 := f857.other W866 ne850
      have f871 := f858.wr W866
      have f872 := f859.other W866 ne851
      have f873 := f860.wr W866
      have f874 := f861.other W866 ne852
      have f875 := f862.wr W866
      have f876 := f863.other W866 ne853
      have f877 := E_b848.wr W866
      have f878 := V866
      have K879 : Keep h0 h866 [] := K864.wr W866 (Or.inr sz_b848)
      have Z879 : n0 ≤ h866.size := by rw [Wr.size W866]; exact Z864
      have N879 := Fr.snoc X866 N847 g_b848
      show Goes _ _ _ _ _ _ _ (T866.setTop (mkF m 102 #[.val (.int p0), .val (.int p1), .val (.int p2), .val (.int p3), .val (.int p4), .val (.int (4 : Int32)), .val (.int g2), .val (.int g3), .val (.ref b763), .val (.ref b770), .val (.ref b782), .val (.ref b799), .val (.ref b821), .unset, .unset, .unset, .unset, .unset, .unset, .unset, .unset] [(.ref b848)]))
      refine Goes.step (fun _ k => XS.astore X866.here hx rfl (hb hby at_102) rfl rfl (l' := #[.val (.int p0), .val (.int p1), .val (.int p2), .val (.int p3), .val (.int p4), .val (.int (4 : Int32)), .val (.int g2), .val (.int g3), .val (.ref b763), .val (.ref b770), .val (.ref b782), .val (.ref b799), .val (.ref b821), .val (.ref b848), .unset, .unset, .unset, .unset, .unset, .unset, .unset]) rfl k) ?_
      show Goes _ _ _ _ _ _ _ (T866.setTop (mkF m 104 #[.val (.int p0), .val (.int p1), .val (.int p2), .val (.int p3), .val (.int p4), .val (.int (4 : Int32)), .val (.int g2), .val (.int g3), .val (.ref b763), .val (.ref b770), .val (.ref b782), .val (.ref b799), .val (.ref b821), .val (.ref b848), .unset, .unset, .unset, .unset, .unset, .unset, .unset] []))
      obtain ⟨T880, h880, X880, e880, E880, A880, D880, -, st880⟩ := newO X866 hx hZ hown (hw _ (List.mem_of_getElem? (i := 1) rfl)) (hw _ (List.mem_of_getElem? (i := 2) rfl)) (hw _ (List.mem_of_getElem? (i := 3) rfl)) e866 (g := (mkF m 104 #[.val (.int p0), .val (.int p1), .val (.int p2), .val (.int p3), .val (.int p4), .val (.int (4 : Int32)), .val (.int g2), .val (.int g3), .val (.ref b763), .val (.ref b770), .val (.ref b782), .val (.ref b799), .val (.ref b821), .val (.ref b848), .unset, .unset, .unset, .unset, .unset, .unset, .unset] [])) rfl (hb hby at_104) (by decide) (by decide)
      obtain ⟨b880, g880⟩ : ∃ z, z = h866.size := ⟨_, rfl⟩
      rw [← g880] at A880 D880 st880
      refine Goes.step st880 ?_
      have g_b880 : n0 ≤ b880 := Nat.le_trans Z879 (Nat.le_of_eq g880.symm)
      have sz_b880 : h0.size ≤ b880 := Nat.le_trans K879.1 (Nat.le_of_eq g880.symm)
      have ne881 : b763 ≠ b880 := Nat.ne_of_lt (Nat.lt_of_lt_of_le f867.lt (Nat.le_of_eq g880.symm))
      have ne882 : b770 ≠ b880 := Nat.ne_of_lt (Nat.lt_of_lt_of_le f869.lt (Nat.le_of_eq g880.symm))
      have ne883 : b782 ≠ b880 := Nat.ne_of_lt (Nat.lt_of_lt_of_le f871.lt (Nat.le_of_eq g880.symm))
      have ne884 : b799 ≠ b880 := Nat.ne_of_lt (Nat.lt_of_lt_of_le f873.lt (Nat.le_of_eq g880.symm))
      have ne885 : b821 ≠ b880 := Nat.ne_of_lt (Nat.lt_of_lt_of_le f875.lt (Nat.le_of_eq g880.symm))
      have ne886 : b848 ≠ b880 := Nat.ne_of_lt (Nat.lt_of_lt_of_le f877.lt (Nat.le_of_eq g880.symm))
      have f887 := f867.ext E880
      have f888 := f868.ext E880
      have f889 := f869.ext E880
      have f890 := f870.ext E880
      have f891 := f871.ext E880
      have f892 := f872.ext E880
      have f893 := f873.ext E880
      have f894 := f874.ext E880
      have f895 := f875.ext E880
      have f896 := f876.ext E880
      have f897 := f877.ext E880
      have f898 := f878.ext E880
      have K899 : Keep h0 h880 [] := K879.ext E880
      have Z899 : n0 ≤ h880.size := Nat.le_trans Z879 E880.1
      have E_b880 := A880
      have F_most_b880 : Fld Z h880 b880 "com/example/nehaba/nehaba/input/KeptValues" "most" "I" (.int (0 : Int32)) := D880 (Or.inr (hw _ (List.mem_of_getElem? (i := 12) rfl))) (ty := .int) (by decide)
      have F_keys_b880 : Fld Z h880 b880 "com/example/nehaba/nehaba/input/KeptValues" "keys" "[Ljava/lang/Object;" .null := D880 (Or.inr (hw _ (List.mem_of_getElem? (i := 25) rfl))) (ty := (.array (.object "java/lang/Object"))) (by decide)
      have F_hashes_b880 : Fld Z h880 b880 "com/example/nehaba/nehaba/input/KeptValues" "hashes" "[I" .null := D880 (Or.inr (hw _ (List.mem_of_getElem? (i := 27) rfl))) (ty := (.array .int)) (by decide)
      have F_values_b880 : Fld Z h880 b880 "com/example/nehaba/nehaba/input/KeptValues" "values" "[Ljava/lang/Object;" .null := D880 (Or.inr (hw _ (List.mem_of_getElem? (i := 29) rfl))) (ty := (.array (.object "java/lang/Object"))) (by decide)
      have F_shift_b880 : Fld Z h880 b880 "com/example/nehaba/nehaba/input/KeptValues" "shift" "I" (.int (0 : Int32)) := D880 (Or.inr (hw _ (List.mem_of_getElem? (i := 32) rfl))) (ty := .int) (by decide)
      have F_size_b880 : Fld Z h880 b880 "com/example/nehaba/nehaba/input/KeptValues" "size" "I" (.int (0 : Int32)) := D880 (Or.inl (hw _ (List.mem_of_getElem? (i := 39) rfl))) (ty := .int) (by decide)
      show Goes _ _ _ _ _ _ _ (T880.setTop (mkF m 107 #[.val (.int p0), .val (.int p1), .val (.int p2), .val (.int p3), .val (.int p4), .val (.int (4 : Int32)), .val (.int g2), .val (.int g3), .val (.ref b763), .val (.ref b770), .val (.ref b782), .val (.ref b799), .val (.ref b821), .val (.ref b848), .unset, .unset, .unset, .unset, .unset, .unset, .unset] [(.ref b880)]))
      refine Goes.step (fun _ k => XS.dup X880.here hx rfl (hb hby at_107) rfl rfl k) ?_
      show Goes _ _ _ _ _ _ _ (T880.setTop (mkF m 108 #[.val (.int p0), .val (.int p1), .val (.int p2), .val (.int p3), .val (.int p4), .val (.int (4 : Int32)), .val (.int g2), .val (.int g3), .val (.ref b763), .val (.ref b770), .val (.ref b782), .val (.ref b799), .val (.ref b821), .val (.ref b848), .unset, .unset, .unset, .unset, .unset, .unset, .unset] [(.ref b880), (.ref b880)]))
      refine Goes.step (fun _ k => XS.iload X880.here hx rfl (hb hby at_108) rfl  k) ?_
      show Goes _ _ _ _ _ _ _ (T880.setTop (mkF m 110 #[.val (.int p0), .val (.int p1), .val (.int p2), .val (.int p3), .val (.int p4), .val (.int (4 : Int32)), .val (.int g2), .val (.int g3), .val (.ref b763), .val (.ref b770), .val (.ref b782), .val (.ref b799), .val (.ref b821), .val (.ref b848), .unset, .unset, .unset, .unset, .unset, .unset, .unset] [(.int (4 : Int32)), (.ref b880), (.ref b880)]))
      obtain ⟨_, _, ⟨T900, L900, k900, n900⟩, -, X900, ⟨Lc900, hQ900, l900, y900, z900⟩, st900⟩ := X880.specialBack hx (y := (⟨"com/example/nehaba/nehaba/input/KeptValues", "<init>", "(I)V"⟩ : MethodName)) rfl hown (mvT hZ (hw _ (List.mem_of_getElem? (i := 4) rfl))) (mvT hZ (hw _ (List.mem_of_getElem? (i := 5) rfl))) (mvT hZ (hw _ (List.mem_of_getElem? (i := 6) rfl))) (by decide) (backOf (W := 1) (rm1_4 l Z a0 hw [] b880 h880 n0 Z899 F_most_b880 F_keys_b880 F_hashes_b880 F_values_b880 F_shift_b880 F_size_b880 E_b880 g_b880) hZ (hw _ (List.mem_of_getElem? (i := 6) rfl)) (hw _ (List.mem_of_getElem? (i := 3) rfl)) (by decide) (by decide)) (g := (mkF m 110 #[.val (.int p0), .val (.int p1), .val (.int p2), .val (.int p3), .val (.int p4), .val (.int (4 : Int32)), .val (.int g2), .val (.int g3), .val (.ref b763), .val (.ref b770), .val (.ref b782), .val (.ref b799), .val (.ref b821), .val (.ref b848), .unset, .unset, .unset, .unset, .unset, .unset, .unset] [(.int (4 : Int32)), (.ref b880), (.ref b880)])) rfl (by rw [hml]; rfl) (Steps.refl _) (a := b880) (argsL := [(.int (4 : Int32))]) (rest := [(.ref b880)]) (lenOf pd_0 rfl) rfl (by show 2 * 0 + _ ≤ _; exact Nat.le_of_eq rfl) (hb hby at_110) (fun _ _ => ⟨rfl, e880, (by decide : 7 + 3 ≤ _), (by decide : 12 + 24 ≤ _)⟩)
      dsimp only [Pt.U, Pt.locs, Pt.cells, Pt.slots] at X900 l900 y900 z900 st900 hQ900
      subst l900 y900 z900
      obtain ⟨N900, KK900, hR900⟩ := hQ900
      have NA900 := Fr.app N879 N900
      have f901 := f887.keep KK900
      have f902 := f888.keep KK900 (ninS ne881 nin0)
      have f903 := f889.keep KK900
      have f904 := f890.keep KK900 (ninS ne882 nin0)
      have f905 := f891.keep KK900
      have f906 := f892.keep KK900 (ninS ne883 nin0)
      have f907 := f893.keep KK900
      have f908 := f894.keep KK900 (ninS ne884 nin0)
      have f909 := f895.keep KK900
      have f910 := f896.keep KK900 (ninS ne885 nin0)
      have f911 := f897.keep KK900
      have f912 := f898.keep KK900 (ninS ne886 nin0)
      have f913 := E_b880.keep KK900
      have K920 : Keep h0 T900.heap [] := K899.trans KK900 (allS (Or.inr sz_b880) all0)
      have Z920 : n0 ≤ T900.heap.size := Nat.le_trans Z899 KK900.1
      obtain ⟨r900_0_0, r900_0_1, r900_0_2, kk900_0_0, kk900_0_1, kk900_0_2, rfl, g_r900_0_0, le_r900_0_0, g_r900_0_1, le_r900_0_1, g_r900_0_2, le_r900_0_2, nn900_0_0, nn900_0_1, nn900_0_2, v900_0_0, v900_0_1, v900_0_2, v900_0_3, v900_0_4, v900_0_5, v900_0_6, v900_0_7, v900_0_8, v900_0_9, oo900_0_0, oo900_0_1⟩ := hR900
      have ne921 : b763 ≠ r900_0_0 := Nat.ne_of_lt (Nat.lt_of_lt_of_le f887.lt le_r900_0_0)
      have ne922 : b770 ≠ r900_0_0 := Nat.ne_of_lt (Nat.lt_of_lt_of_le f889.lt le_r900_0_0)
      have ne923 : b782 ≠ r900_0_0 := Nat.ne_of_lt (Nat.lt_of_lt_of_le f891.lt le_r900_0_0)
      have ne924 : b799 ≠ r900_0_0 := Nat.ne_of_lt (Nat.lt_of_lt_of_le f893.lt le_r900_0_0)
      have ne925 : b821 ≠ r900_0_0 := Nat.ne_of_lt (Nat.lt_of_lt_of_le f895.lt le_r900_0_0)
      have ne926 : b848 ≠ r900_0_0 := Nat.ne_of_lt (Nat.lt_of_lt_of_le f897.lt le_r900_0_0)
      have ne927 : b880 ≠ r900_0_0 := Nat.ne_of_lt (Nat.lt_of_lt_of_le E_b880.lt le_r900_0_0)
      have sz_r900_0_0 : h0.size ≤ r900_0_0 := Nat.le_trans K899.1 le_r900_0_0
      have ne928 : b763 ≠ r900_0_1 := Nat.ne_of_lt (Nat.lt_of_lt_of_le f887.lt le_r900_0_1)
      have ne929 : b770 ≠ r900_0_1 := Nat.ne_of_lt (Nat.lt_of_lt_of_le f889.lt le_r900_0_1)
      have ne930 : b782 ≠ r900_0_1 := Nat.ne_of_lt (Nat.lt_of_lt_of_le f891.lt le_r900_0_1)
      have ne931 : b799 ≠ r900_0_1 := Nat.ne_of_lt (Nat.lt_of_lt_of_le f893.lt le_r900_0_1)
      have ne932 : b821 ≠ r900_0_1 := Nat.ne_of_lt (Nat.lt_of_lt_of_le f895.lt le_r900_0_1)
      have ne933 : b848 ≠ r900_0_1 := Nat.ne_of_lt (Nat.lt_of_lt_of_le f897.lt le_r900_0_1)
      have ne934 : b880 ≠ r900_0_1 := Nat.ne_of_lt (Nat.lt_of_lt_of_le E_b880.lt le_r900_0_1)
      have sz_r900_0_1 : h0.size ≤ r900_0_1 := Nat.le_trans K899.1 le_r900_0_1
      have ne935 : b763 ≠ r900_0_2 := Nat.ne_of_lt (Nat.lt_of_lt_of_le f887.lt le_r900_0_2)
      have ne936 : b770 ≠ r900_0_2 := Nat.ne_of_lt (Nat.lt_of_lt_of_le f889.lt le_r900_0_2)
      have ne937 : b782 ≠ r900_0_2 := Nat.ne_of_lt (Nat.lt_of_lt_of_le f891.lt le_r900_0_2)
      have ne938 : b799 ≠ r900_0_2 := Nat.ne_of_lt (Nat.lt_of_lt_of_le f893.lt le_r900_0_2)
      have ne939 : b821 ≠ r900_0_2 := Nat.ne_of_lt (Nat.lt_of_lt_of_le f895.lt le_r900_0_2)
      have ne940 : b848 ≠ r900_0_2 := Nat.ne_of_lt (Nat.lt_of_lt_of_le f897.lt le_r900_0_2)
      have ne941 : b880 ≠ r900_0_2 := Nat.ne_of_lt (Nat.lt_of_lt_of_le E_b880.lt le_r900_0_2)
      have sz_r900_0_2 : h0.size ≤ r900_0_2 := Nat.le_trans K899.1 le_r900_0_2
      refine Goes.back st900 ?_
      show Goes _ _ _ _ _ _ _ (T900.setTop (mkF m 113 #[.val (.int p0), .val (.int p1), .val (.int p2), .val (.int p3), .val (.int p4), .val (.int (4 : Int32)), .val (.int g2), .val (.int g3), .val (.ref b763), .val (.ref b770), .val (.ref b782), .val (.ref b799), .val (.ref b821), .val (.ref b848), .unset, .unset, .unset, .unset, .unset, .unset, .unset] [(.ref b880)]))
      have hN8 : 8 = 2 ∨ 8 = 4 ∨ 8 = 8 := (Or.inr (Or.inr rfl))
      have hS8 : (8 = 2 ∧ (29 : Int32) = 31) ∨ (8 = 4 ∧ (29 : Int32) = 30) ∨ (8 = 8 ∧ (29 : Int32) = 29) := (Or.inr (Or.inr ⟨rfl, rfl⟩))
      obtain ⟨f1, hf1⟩ : ∃ z : Fin 8, z.val = (own_f p1 (29 : Int32)).toNatClampNeg := ⟨⟨_, (own_first (N := 8) p1 hS8).2⟩, rfl⟩
      obtain ⟨f2, hf2⟩ : ∃ z : Fin 8, z.val = (own_f g2 (29 : Int32)).toNatClampNeg := ⟨⟨_, (own_first (N := 8) g2 hS8).2⟩, rfl⟩
      obtain ⟨f3, hf3⟩ : ∃ z : Fin 8, z.val = (own_f g3 (29 : Int32)).toNatClampNeg := ⟨⟨_, (own_first (N := 8) g3 hS8).2⟩, rfl⟩
      have ea : decide (p1 = g2) = true → f1 = f2 := fun z => Fin.ext (by rw [hf1, hf2, of_decide_eq_true z])
      have eb : decide (p1 = g3) = true → f1 = f3 := fun z => Fin.ext (by rw [hf1, hf3, of_decide_eq_true z])
      have ec : decide (g2 = g3) = true → f2 = f3 := fun z => Fin.ext (by rw [hf2, hf3, of_decide_eq_true z])
      have eab : decide (p1 = g2) = true → decide (p1 = g3) = decide (g2 = g3) := fun z => by rw [of_decide_eq_true z]
      have eba : decide (p1 = g3) = true → decide (p1 = g2) = decide (g2 = g3) := fun z => by rw [of_decide_eq_true z]; simp only [eq_comm]
      obtain ⟨q2, q3, pr2, pr3, fd1, fd2, fd3⟩ := own_all8 f1 f2 f3 (decide (p1 = g2)) (decide (p1 = g3)) (decide (g2 = g3)) ea eb ec eab eba
      show Goes _ _ _ _ _ _ _ (T900.setTop (mkF m 113 #[.val (.int p0), .val (.int p1), .val (.int p2), .val (.int p3), .val (.int p4), .val (.int (4 : Int32)), .val (.int g2), .val (.int g3), .val (.ref b763), .val (.ref b770), .val (.ref b782), .val (.ref b799), .val (.ref b821), .val (.ref b848), .unset, .unset, .unset, .unset, .unset, .unset, .unset] [(.ref b880)]))
      refine Goes.step (fun _ k => XS.astore X900.here hx rfl (hb hby at_113) rfl rfl (l' := #[.val (.int p0), .val (.int p1), .val (.int p2), .val (.int p3), .val (.int p4), .val (.int (4 : Int32)), .val (.int g2), .val (.int g3), .val (.ref b763), .val (.ref b770), .val (.ref b782), .val (.ref b799), .val (.ref b821), .val (.ref b848), .val (.ref b880), .unset, .unset, .unset, .unset, .unset, .unset]) rfl k) ?_
      show Goes _ _ _ _ _ _ _ (T900.setTop (mkF m 115 #[.val (.int p0), .val (.int p1), .val (.int p2), .val (.int p3), .val (.int p4), .val (.int (4 : Int32)), .val (.int g2), .val (.int g3), .val (.ref b763), .val (.ref b770), .val (.ref b782), .val (.ref b799), .val (.ref b821), .val (.ref b848), .val (.ref b880), .unset, .unset, .unset, .unset, .unset, .unset] []))
      refine Goes.step (fun _ k => XS.aload X900.here hx rfl (hb hby at_115) rfl rfl k) ?_
      show Goes _ _ _ _ _ _ _ (T900.setTop (mkF m 117 #[.val (.int p0), .val (.int p1), .val (.int p2), .val (.int p3), .val (.int p4), .val (.int (4 : Int32)), .val (.int g2), .val (.int g3), .val (.ref b763), .val (.ref b770), .val (.ref b782), .val (.ref b799), .val (.ref b821), .val (.ref b848), .val (.ref b880), .unset, .unset, .unset, .unset, .unset, .unset] [(.ref b880)]))
      refine Goes.step (fun _ k => XS.iloadN X900.here hx rfl (hb hby at_117) rfl  k) ?_
      show Goes _ _ _ _ _ _ _ (T900.setTop (mkF m 118 #[.val (.int p0), .val (.int p1), .val (.int p2), .val (.int p3), .val (.int p4), .val (.int (4 : Int32)), .val (.int g2), .val (.int g3), .val (.ref b763), .val (.ref b770), .val (.ref b782), .val (.ref b799), .val (.ref b821), .val (.ref b848), .val (.ref b880), .unset, .unset, .unset, .unset, .unset, .unset] [(.int p1), (.ref b880)]))
      refine Goes.step (fun _ k => XS.aload X900.here hx rfl (hb hby at_118) rfl rfl k) ?_
      show Goes _ _ _ _ _ _ _ (T900.setTop (mkF m 120 #[.val (.int p0), .val (.int p1), .val (.int p2), .val (.int p3), .val (.int p4), .val (.int (4 : Int32)), .val (.int g2), .val (.int g3), .val (.ref b763), .val (.ref b770), .val (.ref b782), .val (.ref b799), .val (.ref b821), .val (.ref b848), .val (.ref b880), .unset, .unset, .unset, .unset, .unset, .unset] [(.ref b763), (.int p1), (.ref b880)]))
      refine Goes.step (fun _ k => XS.aload X900.here hx rfl (hb hby at_120) rfl rfl k) ?_
      show Goes _ _ _ _ _ _ _ (T900.setTop (mkF m 122 #[.val (.int p0), .val (.int p1), .val (.int p2), .val (.int p3), .val (.int p4), .val (.int (4 : Int32)), .val (.int g2), .val (.int g3), .val (.ref b763), .val (.ref b770), .val (.ref b782), .val (.ref b799), .val (.ref b821), .val (.ref b848), .val (.ref b880), .unset, .unset, .unset, .unset, .unset, .unset] [(.ref b799), (.ref b763), (.int p1), (.ref b880)]))
      obtain ⟨cq942, kq942, q942a, q942b, q942c⟩ := isOf hZ rfl v900_0_6
      obtain ⟨_, _, ⟨T942, L942, k942, n942⟩, -, X942, ⟨Lc942, hQ942, l942, y942, z942⟩, st942⟩ := X900.virtualBack hx (y := (⟨"com/example/nehaba/nehaba/input/KeptValues", "put", "(ILjava/lang/Object;Ljava/lang/Object;)Ljava/lang/Object;"⟩ : MethodName)) (z := (⟨"com/example/nehaba/nehaba/input/KeptValues", "put", "(ILjava/lang/Object;Ljava/lang/Object;)Ljava/lang/Object;"⟩ : MethodName)) hown (mvT hZ (hw _ (List.mem_of_getElem? (i := 33) rfl))) (mvT hZ (hw _ (List.mem_of_getElem? (i := 34) rfl))) (notFace_of_selects (args := #[]) (mvT hZ (hw _ (List.mem_of_getElem? (i := 36) rfl)))) (mvT hZ (hw _ (List.mem_of_getElem? (i := 36) rfl))) (mvT hZ (hw _ (List.mem_of_getElem? (i := 35) rfl))) (by decide) (backOf (W := 0) (rm5_n l Z a0 hw [] b880 p1 b763 b799 r900_0_0 r900_0_1 r900_0_2 kk900_0_0 kk900_0_1 kk900_0_2 8 own_t0 (fun _ => (0 : Int32)) (own_K b763 b770 b782) (own_K b799 b821 b848) (29 : Int32) (4 : Int32) (0 : Int32) 0 9 f1.val T900.heap n0 Z920 v900_0_6 v900_0_1 v900_0_2 v900_0_3 v900_0_0 v900_0_5 v900_0_4 v900_0_7 v900_0_8 v900_0_9 oo900_0_0 oo900_0_1 (Ins.of_exa f901 (hw _ (List.mem_of_getElem? (i := 45) rfl))) (Ins.of_exa f907 (hw _ (List.mem_of_getElem? (i := 45) rfl))) rfl rfl g_b880 g_r900_0_0 g_r900_0_1 g_r900_0_2 (Ne.symm ne927) (Ne.symm ne934) nn900_0_0 (Ne.symm ne941) nn900_0_1 nn900_0_2 (by decide) hN8 hS8 (by rw [← hf1]; exact own_probe0 _ _)) hZ (hw _ (List.mem_of_getElem? (i := 37) rfl)) (hw _ (List.mem_of_getElem? (i := 3) rfl)) (by decide) (by decide)) q942a q942c (g := (mkF m 122 #[.val (.int p0), .val (.int p1), .val (.int p2), .val (.int p3), .val (.int p4), .val (.int (4 : Int32)), .val (.int g2), .val (.int g3), .val (.ref b763), .val (.ref b770), .val (.ref b782), .val (.ref b799), .val (.ref b821), .val (.ref b848), .val (.ref b880), .unset, .unset, .unset, .unset, .unset, .unset] [(.ref b799), (.ref b763), (.int p1), (.ref b880)])) rfl (by rw [hml]; rfl) (Steps.refl _) (argsL := [(.int p1), (.ref b763), (.ref b799)]) (rest := []) (lenOf pd_3 rfl) rfl (by show 2 * 0 + _ ≤ _; exact Nat.le_of_eq rfl) (hb hby at_122) (fun _ _ => ⟨rfl, rfl, (by decide : 10 + 0 ≤ _), (by decide : 36 + 0 ≤ _)⟩)
      dsimp only [Pt.U, Pt.locs, Pt.cells, Pt.slots] at X942 l942 y942 z942 st942 hQ942
      subst l942 y942 z942
      obtain ⟨N942, KK942, rfl, pf942_0, pf942_1, pf942_2, pf942_3, pf942_4, pf942_5, pf942_6, pf942_7, pf942_8, pf942_9⟩ := hQ942
      have NA942 := Fr.app NA900 N942
      have f943 := f901.keep KK942
      have f944 := f902.keep KK942 (ninS ne881 (ninS ne921 (ninS ne928 (ninS ne935 nin0))))
      have f945 := f903.keep KK942
      have f946 := f904.keep KK942 (ninS ne882 (ninS ne922 (ninS ne929 (ninS ne936 nin0))))
      have f947 := f905.keep KK942
      have f948 := f906.keep KK942 (ninS ne883 (ninS ne923 (ninS ne930 (ninS ne937 nin0))))
      have f949 := f907.keep KK942
      have f950 := f908.keep KK942 (ninS ne884 (ninS ne924 (ninS ne931 (ninS ne938 nin0))))
      have f951 := f909.keep KK942
      have f952 := f910.keep KK942 (ninS ne885 (ninS ne925 (ninS ne932 (ninS ne939 nin0))))
      have f953 := f911.keep KK942
      have f954 := f912.keep KK942 (ninS ne886 (ninS ne926 (ninS ne933 (ninS ne940 nin0))))
      have f955 := v900_0_6.keep KK942
      have K965 : Keep h0 T942.heap [] := K920.trans KK942 (allS (Or.inr sz_b880) (allS (Or.inr sz_r900_0_0) (allS (Or.inr sz_r900_0_1) (allS (Or.inr sz_r900_0_2) all0))))
      have Z965 : n0 ≤ T942.heap.size := Nat.le_trans Z920 KK942.1
      refine Goes.back st942 ?_
      show Goes _ _ _ _ _ _ _ (T942.setTop (mkF m 125 #[.val (.int p0), .val (.int p1), .val (.int p2), .val (.int p3), .val (.int p4), .val (.int (4 : Int32)), .val (.int g2), .val (.int g3), .val (.ref b763), .val (.ref b770), .val (.ref b782), .val (.ref b799), .val (.ref b821), .val (.ref b848), .val (.ref b880), .unset, .unset, .unset, .unset, .unset, .unset] [(.ref b799)]))
      refine Goes.step (fun _ k => XS.astore X942.here hx rfl (hb hby at_125) rfl rfl (l' := #[.val (.int p0), .val (.int p1), .val (.int p2), .val (.int p3), .val (.int p4), .val (.int (4 : Int32)), .val (.int g2), .val (.int g3), .val (.ref b763), .val (.ref b770), .val (.ref b782), .val (.ref b799), .val (.ref b821), .val (.ref b848), .val (.ref b880), .val (.ref b799), .unset, .unset, .unset, .unset, .unset]) rfl k) ?_
      show Goes _ _ _ _ _ _ _ (T942.setTop (mkF m 127 #[.val (.int p0), .val (.int p1), .val (.int p2), .val (.int p3), .val (.int p4), .val (.int (4 : Int32)), .val (.int g2), .val (.int g3), .val (.ref b763), .val (.ref b770), .val (.ref b782), .val (.ref b799), .val (.ref b821), .val (.ref b848), .val (.ref b880), .val (.ref b799), .unset, .unset, .unset, .unset, .unset] []))
      refine Goes.step (fun _ k => XS.aload X942.here hx rfl (hb hby at_127) rfl rfl k) ?_
      show Goes _ _ _ _ _ _ _ (T942.setTop (mkF m 129 #[.val (.int p0), .val (.int p1), .val (.int p2), .val (.int p3), .val (.int p4), .val (.int (4 : Int32)), .val (.int g2), .val (.int g3), .val (.ref b763), .val (.ref b770), .val (.ref b782), .val (.ref b799), .val (.ref b821), .val (.ref b848), .val (.ref b880), .val (.ref b799), .unset, .unset, .unset, .unset, .unset] [(.ref b880)]))
      refine Goes.step (fun _ k => XS.iload X942.here hx rfl (hb hby at_129) rfl  k) ?_
      show Goes _ _ _ _ _ _ _ (T942.setTop (mkF m 131 #[.val (.int p0), .val (.int p1), .val (.int p2), .val (.int p3), .val (.int p4), .val (.int (4 : Int32)), .val (.int g2), .val (.int g3), .val (.ref b763), .val (.ref b770), .val (.ref b782), .val (.ref b799), .val (.ref b821), .val (.ref b848), .val (.ref b880), .val (.ref b799), .unset, .unset, .unset, .unset, .unset] [(.int g2), (.ref b880)]))
      refine Goes.step (fun _ k => XS.aload X942.here hx rfl (hb hby at_131) rfl rfl k) ?_
      show Goes _ _ _ _ _ _ _ (T942.setTop (mkF m 133 #[.val (.int p0), .val (.int p1), .val (.int p2), .val (.int p3), .val (.int p4), .val (.int (4 : Int32)), .val (.int g2), .val (.int g3), .val (.ref b763), .val (.ref b770), .val (.ref b782), .val (.ref b799), .val (.ref b821), .val (.ref b848), .val (.ref b880), .val (.ref b799), .unset, .unset, .unset, .unset, .unset] [(.ref b770), (.int g2), (.ref b880)]))
      refine Goes.step (fun _ k => XS.aload X942.here hx rfl (hb hby at_133) rfl rfl k) ?_
      show Goes _ _ _ _ _ _ _ (T942.setTop (mkF m 135 #[.val (.int p0), .val (.int p1), .val (.int p2), .val (.int p3), .val (.int p4), .val (.int (4 : Int32)), .val (.int g2), .val (.int g3), .val (.ref b763), .val (.ref b770), .val (.ref b782), .val (.ref b799), .val (.ref b821), .val (.ref b848), .val (.ref b880), .val (.ref b799), .unset, .unset, .unset, .unset, .unset] [(.ref b821), (.ref b770), (.int g2), (.ref b880)]))
      obtain ⟨cq966, kq966, q966a, q966b, q966c⟩ := isOf hZ rfl pf942_0
      obtain ⟨_, _, ⟨T966, L966, k966, n966⟩, -, X966, ⟨Lc966, hQ966, l966, y966, z966⟩, st966⟩ := X942.virtualBack hx (y := (⟨"com/example/nehaba/nehaba/input/KeptValues", "put", "(ILjava/lang/Object;Ljava/lang/Object;)Ljava/lang/Object;"⟩ : MethodName)) (z := (⟨"com/example/nehaba/nehaba/input/KeptValues", "put", "(ILjava/lang/Object;Ljava/lang/Object;)Ljava/lang/Object;"⟩ : MethodName)) hown (mvT hZ (hw _ (List.mem_of_getElem? (i := 33) rfl))) (mvT hZ (hw _ (List.mem_of_getElem? (i := 34) rfl))) (notFace_of_selects (args := #[]) (mvT hZ (hw _ (List.mem_of_getElem? (i := 36) rfl)))) (mvT hZ (hw _ (List.mem_of_getElem? (i := 36) rfl))) (mvT hZ (hw _ (List.mem_of_getElem? (i := 35) rfl))) (by decide) (backOf (W := 0) (rm5_n l Z a0 hw [] b880 g2 b770 b821 r900_0_0 r900_0_1 r900_0_2 kk900_0_0 kk900_0_1 kk900_0_2 8 (own_put own_t0 f1.val 0) (own_hp (fun _ => (0 : Int32)) f1.val p1) (own_K b763 b770 b782) (own_K b799 b821 b848) (29 : Int32) (4 : Int32) (1 : Int32) 1 9 q2.val T942.heap n0 Z965 pf942_0 pf942_1 pf942_2 pf942_3 pf942_4 pf942_5 pf942_6 pf942_7 pf942_8 pf942_9 oo900_0_0 oo900_0_1 (Ins.of_exa f945 (hw _ (List.mem_of_getElem? (i := 45) rfl))) (Ins.of_exa f951 (hw _ (List.mem_of_getElem? (i := 45) rfl))) rfl rfl g_b880 g_r900_0_0 g_r900_0_1 g_r900_0_2 (Ne.symm ne927) (Ne.symm ne934) nn900_0_0 (Ne.symm ne941) nn900_0_1 nn900_0_2 (by decide) hN8 hS8 (by rw [← hf2]; exact pr2)) hZ (hw _ (List.mem_of_getElem? (i := 37) rfl)) (hw _ (List.mem_of_getElem? (i := 3) rfl)) (by decide) (by decide)) q966a q966c (g := (mkF m 135 #[.val (.int p0), .val (.int p1), .val (.int p2), .val (.int p3), .val (.int p4), .val (.int (4 : Int32)), .val (.int g2), .val (.int g3), .val (.ref b763), .val (.ref b770), .val (.ref b782), .val (.ref b799), .val (.ref b821), .val (.ref b848), .val (.ref b880), .val (.ref b799), .unset, .unset, .unset, .unset, .unset] [(.ref b821), (.ref b770), (.int g2), (.ref b880)])) rfl (by rw [hml]; rfl) (Steps.refl _) (argsL := [(.int g2), (.ref b770), (.ref b821)]) (rest := []) (lenOf pd_3 rfl) rfl (by show 2 * 0 + _ ≤ _; exact Nat.le_of_eq rfl) (hb hby at_135) (fun _ _ => ⟨rfl, rfl, (by decide : 10 + 0 ≤ _), (by decide : 36 + 0 ≤ _)⟩)
      dsimp only [Pt.U, Pt.locs, Pt.cells, Pt.slots] at X966 l966 y966 z966 st966 hQ966
      subst l966 y966 z966
      obtain ⟨N966, KK966, rfl, pf966_0, pf966_1, pf966_2, pf966_3, pf966_4, pf966_5, pf966_6, pf966_7, pf966_8, pf966_9⟩ := hQ966
      have NA966 := Fr.app NA942 N966
      have f967 := f943.keep KK966
      have f968 := f944.keep KK966 (ninS ne881 (ninS ne921 (ninS ne928 (ninS ne935 nin0))))
      have f969 := f945.keep KK966
      have f970 := f946.keep KK966 (ninS ne882 (ninS ne922 (ninS ne929 (ninS ne936 nin0))))
      have f971 := f947.keep KK966
      have f972 := f948.keep KK966 (ninS ne883 (ninS ne923 (ninS ne930 (ninS ne937 nin0))))
      have f973 := f949.keep KK966
      have f974 := f950.keep KK966 (ninS ne884 (ninS ne924 (ninS ne931 (ninS ne938 nin0))))
      have f975 := f951.keep KK966
      have f976 := f952.keep KK966 (ninS ne885 (ninS ne925 (ninS ne932 (ninS ne939 nin0))))
      have f977 := f953.keep KK966
      have f978 := f954.keep KK966 (ninS ne886 (ninS ne926 (ninS ne933 (ninS ne940 nin0))))
      have f979 := pf942_0.keep KK966
      have K989 : Keep h0 T966.heap [] := K965.trans KK966 (allS (Or.inr sz_b880) (allS (Or.inr sz_r900_0_0) (allS (Or.inr sz_r900_0_1) (allS (Or.inr sz_r900_0_2) all0))))
      have Z989 : n0 ≤ T966.heap.size := Nat.le_trans Z965 KK966.1
      refine Goes.back st966 ?_
      show Goes _ _ _ _ _ _ _ (T966.setTop (mkF m 138 #[.val (.int p0), .val (.int p1), .val (.int p2), .val (.int p3), .val (.int p4), .val (.int (4 : Int32)), .val (.int g2), .val (.int g3), .val (.ref b763), .val (.ref b770), .val (.ref b782), .val (.ref b799), .val (.ref b821), .val (.ref b848), .val (.ref b880), .val (.ref b799), .unset, .unset, .unset, .unset, .unset] [(.ref b821)]))
      refine Goes.step (fun _ k => XS.astore X966.here hx rfl (hb hby at_138) rfl rfl (l' := #[.val (.int p0), .val (.int p1), .val (.int p2), .val (.int p3), .val (.int p4), .val (.int (4 : Int32)), .val (.int g2), .val (.int g3), .val (.ref b763), .val (.ref b770), .val (.ref b782), .val (.ref b799), .val (.ref b821), .val (.ref b848), .val (.ref b880), .val (.ref b799), .val (.ref b821), .unset, .unset, .unset, .unset]) rfl k) ?_
      show Goes _ _ _ _ _ _ _ (T966.setTop (mkF m 140 #[.val (.int p0), .val (.int p1), .val (.int p2), .val (.int p3), .val (.int p4), .val (.int (4 : Int32)), .val (.int g2), .val (.int g3), .val (.ref b763), .val (.ref b770), .val (.ref b782), .val (.ref b799), .val (.ref b821), .val (.ref b848), .val (.ref b880), .val (.ref b799), .val (.ref b821), .unset, .unset, .unset, .unset] []))
      refine Goes.step (fun _ k => XS.aload X966.here hx rfl (hb hby at_140) rfl rfl k) ?_
      show Goes _ _ _ _ _ _ _ (T966.setTop (mkF m 142 #[.val (.int p0), .val (.int p1), .val (.int p2), .val (.int p3), .val (.int p4), .val (.int (4 : Int32)), .val (.int g2), .val (.int g3), .val (.ref b763), .val (.ref b770), .val (.ref b782), .val (.ref b799), .val (.ref b821), .val (.ref b848), .val (.ref b880), .val (.ref b799), .val (.ref b821), .unset, .unset, .unset, .unset] [(.ref b880)]))
      refine Goes.step (fun _ k => XS.iload X966.here hx rfl (hb hby at_142) rfl  k) ?_
      show Goes _ _ _ _ _ _ _ (T966.setTop (mkF m 144 #[.val (.int p0), .val (.int p1), .val (.int p2), .val (.int p3), .val (.int p4), .val (.int (4 : Int32)), .val (.int g2), .val (.int g3), .val (.ref b763), .val (.ref b770), .val (.ref b782), .val (.ref b799), .val (.ref b821), .val (.ref b848), .val (.ref b880), .val (.ref b799), .val (.ref b821), .unset, .unset, .unset, .unset] [(.int g3), (.ref b880)]))
      refine Goes.step (fun _ k => XS.aload X966.here hx rfl (hb hby at_144) rfl rfl k) ?_
      show Goes _ _ _ _ _ _ _ (T966.setTop (mkF m 146 #[.val (.int p0), .val (.int p1), .val (.int p2), .val (.int p3), .val (.int p4), .val (.int (4 : Int32)), .val (.int g2), .val (.int g3), .val (.ref b763), .val (.ref b770), .val (.ref b782), .val (.ref b799), .val (.ref b821), .val (.ref b848), .val (.ref b880), .val (.ref b799), .val (.ref b821), .unset, .unset, .unset, .unset] [(.ref b782), (.int g3), (.ref b880)]))
      refine Goes.step (fun _ k => XS.aload X966.here hx rfl (hb hby at_146) rfl rfl k) ?_
      show Goes _ _ _ _ _ _ _ (T966.setTop (mkF m 148 #[.val (.int p0), .val (.int p1), .val (.int p2), .val (.int p3), .val (.int p4), .val (.int (4 : Int32)), .val (.int g2), .val (.int g3), .val (.ref b763), .val (.ref b770), .val (.ref b782), .val (.ref b799), .val (.ref b821), .val (.ref b848), .val (.ref b880), .val (.ref b799), .val (.ref b821), .unset, .unset, .unset, .unset] [(.ref b848), (.ref b782), (.int g3), (.ref b880)]))
      obtain ⟨cq990, kq990, q990a, q990b, q990c⟩ := isOf hZ rfl pf966_0
      obtain ⟨_, _, ⟨T990, L990, k990, n990⟩, -, X990, ⟨Lc990, hQ990, l990, y990, z990⟩, st990⟩ := X966.virtualBack hx (y := (⟨"com/example/nehaba/nehaba/input/KeptValues", "put", "(ILjava/lang/Object;Ljava/lang/Object;)Ljava/lang/Object;"⟩ : MethodName)) (z := (⟨"com/example/nehaba/nehaba/input/KeptValues", "put", "(ILjava/lang/Object;Ljava/lang/Object;)Ljava/lang/Object;"⟩ : MethodName)) hown (mvT hZ (hw _ (List.mem_of_getElem? (i := 33) rfl))) (mvT hZ (hw _ (List.mem_of_getElem? (i := 34) rfl))) (notFace_of_selects (args := #[]) (mvT hZ (hw _ (List.mem_of_getElem? (i := 36) rfl)))) (mvT hZ (hw _ (List.mem_of_getElem? (i := 36) rfl))) (mvT hZ (hw _ (List.mem_of_getElem? (i := 35) rfl))) (by decide) (backOf (W := 0) (rm5_n l Z a0 hw [] b880 g3 b782 b848 r900_0_0 r900_0_1 r900_0_2 kk900_0_0 kk900_0_1 kk900_0_2 8 (own_put (own_put own_t0 f1.val 0) q2.val 1) (own_hp (own_hp (fun _ => (0 : Int32)) f1.val p1) q2.val g2) (own_K b763 b770 b782) (own_K b799 b821 b848) (29 : Int32) (4 : Int32) (2 : Int32) 2 9 q3.val T966.heap n0 Z989 pf966_0 pf966_1 pf966_2 pf966_3 pf966_4 pf966_5 pf966_6 pf966_7 pf966_8 pf966_9 oo900_0_0 oo900_0_1 (Ins.of_exa f971 (hw _ (List.mem_of_getElem? (i := 45) rfl))) (Ins.of_exa f977 (hw _ (List.mem_of_getElem? (i := 45) rfl))) rfl rfl g_b880 g_r900_0_0 g_r900_0_1 g_r900_0_2 (Ne.symm ne927) (Ne.symm ne934) nn900_0_0 (Ne.symm ne941) nn900_0_1 nn900_0_2 (by decide) hN8 hS8 (by rw [← hf3]; exact pr3)) hZ (hw _ (List.mem_of_getElem? (i := 37) rfl)) (hw _ (List.mem_of_getElem? (i := 3) rfl)) (by decide) (by decide)) q990a q990c (g := (mkF m 148 #[.val (.int p0), .val (.int p1), .val (.int p2), .val (.int p3), .val (.int p4), .val (.int (4 : Int32)), .val (.int g2), .val (.int g3), .val (.ref b763), .val (.ref b770), .val (.ref b782), .val (.ref b799), .val (.ref b821), .val (.ref b848), .val (.ref b880), .val (.ref b799), .val (.ref b821), .unset, .unset, .unset, .unset] [(.ref b848), (.ref b782), (.int g3), (.ref b880)])) rfl (by rw [hml]; rfl) (Steps.refl _) (argsL := [(.int g3), (.ref b782), (.ref b848)]) (rest := []) (lenOf pd_3 rfl) rfl (by show 2 * 0 + _ ≤ _; exact Nat.le_of_eq rfl) (hb hby at_148) (fun _ _ => ⟨rfl, rfl, (by decide : 10 + 0 ≤ _), (by decide : 36 + 0 ≤ _)⟩)
      dsimp only [Pt.U, Pt.locs, Pt.cells, Pt.slots] at X990 l990 y990 z990 st990 hQ990
      subst l990 y990 z990
      obtain ⟨N990, KK990, rfl, pf990_0, pf990_1, pf990_2, pf990_3, pf990_4, pf990_5, pf990_6, pf990_7, pf990_8, pf990_9⟩ := hQ990
      have NA990 := Fr.app NA966 N990
      have f991 := f967.keep KK990
      have f992 := f968.keep KK990 (ninS ne881 (ninS ne921 (ninS ne928 (ninS ne935 nin0))))
      have f993 := f969.keep KK990
      have f994 := f970.keep KK990 (ninS ne882 (ninS ne922 (ninS ne929 (ninS ne936 nin0))))
      have f995 := f971.keep KK990
      have f996 := f972.keep KK990 (ninS ne883 (ninS ne923 (ninS ne930 (ninS ne937 nin0))))
      have f997 := f973.keep KK990
      have f998 := f974.keep KK990 (ninS ne884 (ninS ne924 (ninS ne931 (ninS ne938 nin0))))
      have f999 := f975.keep KK990
      have f1000 := f976.keep KK990 (ninS ne885 (ninS ne925 (ninS ne932 (ninS ne939 nin0))))
      have f1001 := f977.keep KK990
      have f1002 := f978.keep KK990 (ninS ne886 (ninS ne926 (ninS ne933 (ninS ne940 nin0))))
      have f1003 := pf966_0.keep KK990
      have K1013 : Keep h0 T990.heap [] := K989.trans KK990 (allS (Or.inr sz_b880) (allS (Or.inr sz_r900_0_0) (allS (Or.inr sz_r900_0_1) (allS (Or.inr sz_r900_0_2) all0))))
      have Z1013 : n0 ≤ T990.heap.size := Nat.le_trans Z989 KK990.1
      refine Goes.back st990 ?_
      show Goes _ _ _ _ _ _ _ (T990.setTop (mkF m 151 #[.val (.int p0), .val (.int p1), .val (.int p2), .val (.int p3), .val (.int p4), .val (.int (4 : Int32)), .val (.int g2), .val (.int g3), .val (.ref b763), .val (.ref b770), .val (.ref b782), .val (.ref b799), .val (.ref b821), .val (.ref b848), .val (.ref b880), .val (.ref b799), .val (.ref b821), .unset, .unset, .unset, .unset] [(.ref b848)]))
      refine Goes.step (fun _ k => XS.astore X990.here hx rfl (hb hby at_151) rfl rfl (l' := #[.val (.int p0), .val (.int p1), .val (.int p2), .val (.int p3), .val (.int p4), .val (.int (4 : Int32)), .val (.int g2), .val (.int g3), .val (.ref b763), .val (.ref b770), .val (.ref b782), .val (.ref b799), .val (.ref b821), .val (.ref b848), .val (.ref b880), .val (.ref b799), .val (.ref b821), .val (.ref b848), .unset, .unset, .unset]) rfl k) ?_
      show Goes _ _ _ _ _ _ _ (T990.setTop (mkF m 153 #[.val (.int p0), .val (.int p1), .val (.int p2), .val (.int p3), .val (.int p4), .val (.int (4 : Int32)), .val (.int g2), .val (.int g3), .val (.ref b763), .val (.ref b770), .val (.ref b782), .val (.ref b799), .val (.ref b821), .val (.ref b848), .val (.ref b880), .val (.ref b799), .val (.ref b821), .val (.ref b848), .unset, .unset, .unset] []))
      refine Goes.step (fun _ k => XS.iload X990.here hx rfl (hb hby at_153) rfl  k) ?_
      show Goes _ _ _ _ _ _ _ (T990.setTop (mkF m 155 #[.val (.int p0), .val (.int p1), .val (.int p2), .val (.int p3), .val (.int p4), .val (.int (4 : Int32)), .val (.int g2), .val (.int g3), .val (.ref b763), .val (.ref b770), .val (.ref b782), .val (.ref b799), .val (.ref b821), .val (.ref b848), .val (.ref b880), .val (.ref b799), .val (.ref b821), .val (.ref b848), .unset, .unset, .unset] [(.int (4 : Int32))]))
      refine Goes.step (fun _ k => XS.iconst X990.here hx rfl (hb hby at_155) k) ?_
      show Goes _ _ _ _ _ _ _ (T990.setTop (mkF m 156 #[.val (.int p0), .val (.int p1), .val (.int p2), .val (.int p3), .val (.int p4), .val (.int (4 : Int32)), .val (.int g2), .val (.int g3), .val (.ref b763), .val (.ref b770), .val (.ref b782), .val (.ref b799), .val (.ref b821), .val (.ref b848), .val (.ref b880), .val (.ref b799), .val (.ref b821), .val (.ref b848), .unset, .unset, .unset] [(.int (3 : Int32)), (.int (4 : Int32))]))
      refine Goes.step (fun _ k => XS.icmpNo X990.here hx rfl (hb hby at_156) rfl (flt (by decide : ¬ ((4 : Int32) < (3 : Int32)))).1 k) ?_
      show Goes _ _ _ _ _ _ _ (T990.setTop (mkF m 159 #[.val (.int p0), .val (.int p1), .val (.int p2), .val (.int p3), .val (.int p4), .val (.int (4 : Int32)), .val (.int g2), .val (.int g3), .val (.ref b763), .val (.ref b770), .val (.ref b782), .val (.ref b799), .val (.ref b821), .val (.ref b848), .val (.ref b880), .val (.ref b799), .val (.ref b821), .val (.ref b848), .unset, .unset, .unset] []))
      refine Goes.step (fun _ k => XS.iconst X990.here hx rfl (hb hby at_159) k) ?_
      show Goes _ _ _ _ _ _ _ (T990.setTop (mkF m 160 #[.val (.int p0), .val (.int p1), .val (.int p2), .val (.int p3), .val (.int p4), .val (.int (4 : Int32)), .val (.int g2), .val (.int g3), .val (.ref b763), .val (.ref b770), .val (.ref b782), .val (.ref b799), .val (.ref b821), .val (.ref b848), .val (.ref b880), .val (.ref b799), .val (.ref b821), .val (.ref b848), .unset, .unset, .unset] [(.int (1 : Int32))]))
      refine Goes.step (fun _ k => XS.goto X990.here hx rfl (pc0 := 160) (pc' := 164) rfl (hb hby at_160) (by decide) (by decide) k) ?_
      show Goes _ _ _ _ _ _ _ (T990.setTop (mkF m 164 #[.val (.int p0), .val (.int p1), .val (.int p2), .val (.int p3), .val (.int p4), .val (.int (4 : Int32)), .val (.int g2), .val (.int g3), .val (.ref b763), .val (.ref b770), .val (.ref b782), .val (.ref b799), .val (.ref b821), .val (.ref b848), .val (.ref b880), .val (.ref b799), .val (.ref b821), .val (.ref b848), .unset, .unset, .unset] [(.int (1 : Int32))]))
      refine Goes.step (fun _ k => XS.istore X990.here hx rfl (hb hby at_164) rfl (l' := #[.val (.int p0), .val (.int p1), .val (.int p2), .val (.int p3), .val (.int p4), .val (.int (4 : Int32)), .val (.int g2), .val (.int g3), .val (.ref b763), .val (.ref b770), .val (.ref b782), .val (.ref b799), .val (.ref b821), .val (.ref b848), .val (.ref b880), .val (.ref b799), .val (.ref b821), .val (.ref b848), .val (.int (1 : Int32)), .unset, .unset]) rfl k) ?_
      show Goes _ _ _ _ _ _ _ (T990.setTop (mkF m 166 #[.val (.int p0), .val (.int p1), .val (.int p2), .val (.int p3), .val (.int p4), .val (.int (4 : Int32)), .val (.int g2), .val (.int g3), .val (.ref b763), .val (.ref b770), .val (.ref b782), .val (.ref b799), .val (.ref b821), .val (.ref b848), .val (.ref b880), .val (.ref b799), .val (.ref b821), .val (.ref b848), .val (.int (1 : Int32)), .unset, .unset] []))
      refine Goes.step (fun _ k => XS.iload X990.here hx rfl (hb hby at_166) rfl  k) ?_
      show Goes _ _ _ _ _ _ _ (T990.setTop (mkF m 168 #[.val (.int p0), .val (.int p1), .val (.int p2), .val (.int p3), .val (.int p4), .val (.int (4 : Int32)), .val (.int g2), .val (.int g3), .val (.ref b763), .val (.ref b770), .val (.ref b782), .val (.ref b799), .val (.ref b821), .val (.ref b848), .val (.ref b880), .val (.ref b799), .val (.ref b821), .val (.ref b848), .val (.int (1 : Int32)), .unset, .unset] [(.int (1 : Int32))]))
      refine Goes.step (fun _ k => XS.ifNo X990.here hx rfl (hb hby at_168) rfl ((if0 _ _).trans (feq (by decide : ¬ ((1 : Int32) = (0 : Int32)))).1) k) ?_
      show Goes _ _ _ _ _ _ _ (T990.setTop (mkF m 171 #[.val (.int p0), .val (.int p1), .val (.int p2), .val (.int p3), .val (.int p4), .val (.int (4 : Int32)), .val (.int g2), .val (.int g3), .val (.ref b763), .val (.ref b770), .val (.ref b782), .val (.ref b799), .val (.ref b821), .val (.ref b848), .val (.ref b880), .val (.ref b799), .val (.ref b821), .val (.ref b848), .val (.int (1 : Int32)), .unset, .unset] []))
      refine Goes.step (fun _ k => XS.aload X990.here hx rfl (hb hby at_171) rfl rfl k) ?_
      show Goes _ _ _ _ _ _ _ (T990.setTop (mkF m 173 #[.val (.int p0), .val (.int p1), .val (.int p2), .val (.int p3), .val (.int p4), .val (.int (4 : Int32)), .val (.int g2), .val (.int g3), .val (.ref b763), .val (.ref b770), .val (.ref b782), .val (.ref b799), .val (.ref b821), .val (.ref b848), .val (.ref b880), .val (.ref b799), .val (.ref b821), .val (.ref b848), .val (.int (1 : Int32)), .unset, .unset] [(.ref b799)]))
      refine Goes.step (fun _ k => XS.goto X990.here hx rfl (pc0 := 173) (pc' := 177) rfl (hb hby at_173) (by decide) (by decide) k) ?_
      show Goes _ _ _ _ _ _ _ (T990.setTop (mkF m 177 #[.val (.int p0), .val (.int p1), .val (.int p2), .val (.int p3), .val (.int p4), .val (.int (4 : Int32)), .val (.int g2), .val (.int g3), .val (.ref b763), .val (.ref b770), .val (.ref b782), .val (.ref b799), .val (.ref b821), .val (.ref b848), .val (.ref b880), .val (.ref b799), .val (.ref b821), .val (.ref b848), .val (.int (1 : Int32)), .unset, .unset] [(.ref b799)]))
      refine Goes.step (fun _ k => XS.astore X990.here hx rfl (hb hby at_177) rfl rfl (l' := #[.val (.int p0), .val (.int p1), .val (.int p2), .val (.int p3), .val (.int p4), .val (.int (4 : Int32)), .val (.int g2), .val (.int g3), .val (.ref b763), .val (.ref b770), .val (.ref b782), .val (.ref b799), .val (.ref b821), .val (.ref b848), .val (.ref b880), .val (.ref b799), .val (.ref b821), .val (.ref b848), .val (.int (1 : Int32)), .val (.ref b799), .unset]) rfl k) ?_
      show Goes _ _ _ _ _ _ _ (T990.setTop (mkF m 179 #[.val (.int p0), .val (.int p1), .val (.int p2), .val (.int p3), .val (.int p4), .val (.int (4 : Int32)), .val (.int g2), .val (.int g3), .val (.ref b763), .val (.ref b770), .val (.ref b782), .val (.ref b799), .val (.ref b821), .val (.ref b848), .val (.ref b880), .val (.ref b799), .val (.ref b821), .val (.ref b848), .val (.int (1 : Int32)), .val (.ref b799), .unset] []))
      refine Goes.step (fun _ k => XS.iload X990.here hx rfl (hb hby at_179) rfl  k) ?_
      show Goes _ _ _ _ _ _ _ (T990.setTop (mkF m 181 #[.val (.int p0), .val (.int p1), .val (.int p2), .val (.int p3), .val (.int p4), .val (.int (4 : Int32)), .val (.int g2), .val (.int g3), .val (.ref b763), .val (.ref b770), .val (.ref b782), .val (.ref b799), .val (.ref b821), .val (.ref b848), .val (.ref b880), .val (.ref b799), .val (.ref b821), .val (.ref b848), .val (.int (1 : Int32)), .val (.ref b799), .unset] [(.int (1 : Int32))]))
      refine Goes.step (fun _ k => XS.ifNo X990.here hx rfl (hb hby at_181) rfl ((if0 _ _).trans (feq (by decide : ¬ ((1 : Int32) = (0 : Int32)))).1) k) ?_
      show Goes _ _ _ _ _ _ _ (T990.setTop (mkF m 184 #[.val (.int p0), .val (.int p1), .val (.int p2), .val (.int p3), .val (.int p4), .val (.int (4 : Int32)), .val (.int g2), .val (.int g3), .val (.ref b763), .val (.ref b770), .val (.ref b782), .val (.ref b799), .val (.ref b821), .val (.ref b848), .val (.ref b880), .val (.ref b799), .val (.ref b821), .val (.ref b848), .val (.int (1 : Int32)), .val (.ref b799), .unset] []))
      refine Goes.step (fun _ k => XS.aload X990.here hx rfl (hb hby at_184) rfl rfl k) ?_
      show Goes _ _ _ _ _ _ _ (T990.setTop (mkF m 186 #[.val (.int p0), .val (.int p1), .val (.int p2), .val (.int p3), .val (.int p4), .val (.int (4 : Int32)), .val (.int g2), .val (.int g3), .val (.ref b763), .val (.ref b770), .val (.ref b782), .val (.ref b799), .val (.ref b821), .val (.ref b848), .val (.ref b880), .val (.ref b799), .val (.ref b821), .val (.ref b848), .val (.int (1 : Int32)), .val (.ref b799), .unset] [(.ref b821)]))
      refine Goes.step (fun _ k => XS.goto X990.here hx rfl (pc0 := 186) (pc' := 190) rfl (hb hby at_186) (by decide) (by decide) k) ?_
      show Goes _ _ _ _ _ _ _ (T990.setTop (mkF m 190 #[.val (.int p0), .val (.int p1), .val (.int p2), .val (.int p3), .val (.int p4), .val (.int (4 : Int32)), .val (.int g2), .val (.int g3), .val (.ref b763), .val (.ref b770), .val (.ref b782), .val (.ref b799), .val (.ref b821), .val (.ref b848), .val (.ref b880), .val (.ref b799), .val (.ref b821), .val (.ref b848), .val (.int (1 : Int32)), .val (.ref b799), .unset] [(.ref b821)]))
      refine Goes.step (fun _ k => XS.astore X990.here hx rfl (hb hby at_190) rfl rfl (l' := #[.val (.int p0), .val (.int p1), .val (.int p2), .val (.int p3), .val (.int p4), .val (.int (4 : Int32)), .val (.int g2), .val (.int g3), .val (.ref b763), .val (.ref b770), .val (.ref b782), .val (.ref b799), .val (.ref b821), .val (.ref b848), .val (.ref b880), .val (.ref b799), .val (.ref b821), .val (.ref b848), .val (.int (1 : Int32)), .val (.ref b799), .val (.ref b821)]) rfl k) ?_
      show Goes _ _ _ _ _ _ _ (T990.setTop (mkF m 192 #[.val (.int p0), .val (.int p1), .val (.int p2), .val (.int p3), .val (.int p4), .val (.int (4 : Int32)), .val (.int g2), .val (.int g3), .val (.ref b763), .val (.ref b770), .val (.ref b782), .val (.ref b799), .val (.ref b821), .val (.ref b848), .val (.ref b880), .val (.ref b799), .val (.ref b821), .val (.ref b848), .val (.int (1 : Int32)), .val (.ref b799), .val (.ref b821)] []))
      refine Goes.step (fun _ k => XS.aload X990.here hx rfl (hb hby at_192) rfl rfl k) ?_
      show Goes _ _ _ _ _ _ _ (T990.setTop (mkF m 194 #[.val (.int p0), .val (.int p1), .val (.int p2), .val (.int p3), .val (.int p4), .val (.int (4 : Int32)), .val (.int g2), .val (.int g3), .val (.ref b763), .val (.ref b770), .val (.ref b782), .val (.ref b799), .val (.ref b821), .val (.ref b848), .val (.ref b880), .val (.ref b799), .val (.ref b821), .val (.ref b848), .val (.int (1 : Int32)), .val (.ref b799), .val (.ref b821)] [(.ref b799)]))
      refine Goes.step (fun _ k => XS.aload X990.here hx rfl (hb hby at_194) rfl rfl k) ?_
      show Goes _ _ _ _ _ _ _ (T990.setTop (mkF m 196 #[.val (.int p0), .val (.int p1), .val (.int p2), .val (.int p3), .val (.int p4), .val (.int (4 : Int32)), .val (.int g2), .val (.int g3), .val (.ref b763), .val (.ref b770), .val (.ref b782), .val (.ref b799), .val (.ref b821), .val (.ref b848), .val (.ref b880), .val (.ref b799), .val (.ref b821), .val (.ref b848), .val (.int (1 : Int32)), .val (.ref b799), .val (.ref b821)] [(.ref b799), (.ref b799)]))
      refine Goes.step (fun _ k => Jvm.RoadKit.acmp X990 hx rfl rfl rfl (pc0 := 196) (pc' := 199) (same := true) rfl (hb hby at_196) rfl (decide_eq_true rfl) (by decide) (by decide) k) ?_
      show Goes _ _ _ _ _ _ _ (T990.setTop (mkF m 199 #[.val (.int p0), .val (.int p1), .val (.int p2), .val (.int p3), .val (.int p4), .val (.int (4 : Int32)), .val (.int g2), .val (.int g3), .val (.ref b763), .val (.ref b770), .val (.ref b782), .val (.ref b799), .val (.ref b821), .val (.ref b848), .val (.ref b880), .val (.ref b799), .val (.ref b821), .val (.ref b848), .val (.int (1 : Int32)), .val (.ref b799), .val (.ref b821)] []))
      refine Goes.step (fun _ k => XS.aload X990.here hx rfl (hb hby at_199) rfl rfl k) ?_
      show Goes _ _ _ _ _ _ _ (T990.setTop (mkF m 201 #[.val (.int p0), .val (.int p1), .val (.int p2), .val (.int p3), .val (.int p4), .val (.int (4 : Int32)), .val (.int g2), .val (.int g3), .val (.ref b763), .val (.ref b770), .val (.ref b782), .val (.ref b799), .val (.ref b821), .val (.ref b848), .val (.ref b880), .val (.ref b799), .val (.ref b821), .val (.ref b848), .val (.int (1 : Int32)), .val (.ref b799), .val (.ref b821)] [(.ref b821)]))
      refine Goes.step (fun _ k => XS.aload X990.here hx rfl (hb hby at_201) rfl rfl k) ?_
      show Goes _ _ _ _ _ _ _ (T990.setTop (mkF m 203 #[.val (.int p0), .val (.int p1), .val (.int p2), .val (.int p3), .val (.int p4), .val (.int (4 : Int32)), .val (.int g2), .val (.int g3), .val (.ref b763), .val (.ref b770), .val (.ref b782), .val (.ref b799), .val (.ref b821), .val (.ref b848), .val (.ref b880), .val (.ref b799), .val (.ref b821), .val (.ref b848), .val (.int (1 : Int32)), .val (.ref b799), .val (.ref b821)] [(.ref b821), (.ref b821)]))
      refine Goes.step (fun _ k => Jvm.RoadKit.acmp X990 hx rfl rfl rfl (pc0 := 203) (pc' := 206) (same := true) rfl (hb hby at_203) rfl (decide_eq_true rfl) (by decide) (by decide) k) ?_
      show Goes _ _ _ _ _ _ _ (T990.setTop (mkF m 206 #[.val (.int p0), .val (.int p1), .val (.int p2), .val (.int p3), .val (.int p4), .val (.int (4 : Int32)), .val (.int g2), .val (.int g3), .val (.ref b763), .val (.ref b770), .val (.ref b782), .val (.ref b799), .val (.ref b821), .val (.ref b848), .val (.ref b880), .val (.ref b799), .val (.ref b821), .val (.ref b848), .val (.int (1 : Int32)), .val (.ref b799), .val (.ref b821)] []))
      refine Goes.step (fun _ k => XS.aload X990.here hx rfl (hb hby at_206) rfl rfl k) ?_
      show Goes _ _ _ _ _ _ _ (T990.setTop (mkF m 208 #[.val (.int p0), .val (.int p1), .val (.int p2), .val (.int p3), .val (.int p4), .val (.int (4 : Int32)), .val (.int g2), .val (.int g3), .val (.ref b763), .val (.ref b770), .val (.ref b782), .val (.ref b799), .val (.ref b821), .val (.ref b848), .val (.ref b880), .val (.ref b799), .val (.ref b821), .val (.ref b848), .val (.int (1 : Int32)), .val (.ref b799), .val (.ref b821)] [(.ref b848)]))
      refine Goes.step (fun _ k => XS.aload X990.here hx rfl (hb hby at_208) rfl rfl k) ?_
      show Goes _ _ _ _ _ _ _ (T990.setTop (mkF m 210 #[.val (.int p0), .val (.int p1), .val (.int p2), .val (.int p3), .val (.int p4), .val (.int (4 : Int32)), .val (.int g2), .val (.int g3), .val (.ref b763), .val (.ref b770), .val (.ref b782), .val (.ref b799), .val (.ref b821), .val (.ref b848), .val (.ref b880), .val (.ref b799), .val (.ref b821), .val (.ref b848), .val (.int (1 : Int32)), .val (.ref b799), .val (.ref b821)] [(.ref b848), (.ref b848)]))
      refine Goes.step (fun _ k => Jvm.RoadKit.acmp X990 hx rfl rfl rfl (pc0 := 210) (pc' := 213) (same := true) rfl (hb hby at_210) rfl (decide_eq_true rfl) (by decide) (by decide) k) ?_
      show Goes _ _ _ _ _ _ _ (T990.setTop (mkF m 213 #[.val (.int p0), .val (.int p1), .val (.int p2), .val (.int p3), .val (.int p4), .val (.int (4 : Int32)), .val (.int g2), .val (.int g3), .val (.ref b763), .val (.ref b770), .val (.ref b782), .val (.ref b799), .val (.ref b821), .val (.ref b848), .val (.ref b880), .val (.ref b799), .val (.ref b821), .val (.ref b848), .val (.int (1 : Int32)), .val (.ref b799), .val (.ref b821)] []))
      refine Goes.step (fun _ k => XS.aload X990.here hx rfl (hb hby at_213) rfl rfl k) ?_
      show Goes _ _ _ _ _ _ _ (T990.setTop (mkF m 215 #[.val (.int p0), .val (.int p1), .val (.int p2), .val (.int p3), .val (.int p4), .val (.int (4 : Int32)), .val (.int g2), .val (.int g3), .val (.ref b763), .val (.ref b770), .val (.ref b782), .val (.ref b799), .val (.ref b821), .val (.ref b848), .val (.ref b880), .val (.ref b799), .val (.ref b821), .val (.ref b848), .val (.int (1 : Int32)), .val (.ref b799), .val (.ref b821)] [(.ref b880)]))
      refine Goes.step (fun _ k => XS.iloadN X990.here hx rfl (hb hby at_215) rfl  k) ?_
      show Goes _ _ _ _ _ _ _ (T990.setTop (mkF m 216 #[.val (.int p0), .val (.int p1), .val (.int p2), .val (.int p3), .val (.int p4), .val (.int (4 : Int32)), .val (.int g2), .val (.int g3), .val (.ref b763), .val (.ref b770), .val (.ref b782), .val (.ref b799), .val (.ref b821), .val (.ref b848), .val (.ref b880), .val (.ref b799), .val (.ref b821), .val (.ref b848), .val (.int (1 : Int32)), .val (.ref b799), .val (.ref b821)] [(.int p1), (.ref b880)]))
      refine Goes.step (fun _ k => XS.aload X990.here hx rfl (hb hby at_216) rfl rfl k) ?_
      show Goes _ _ _ _ _ _ _ (T990.setTop (mkF m 218 #[.val (.int p0), .val (.int p1), .val (.int p2), .val (.int p3), .val (.int p4), .val (.int (4 : Int32)), .val (.int g2), .val (.int g3), .val (.ref b763), .val (.ref b770), .val (.ref b782), .val (.ref b799), .val (.ref b821), .val (.ref b848), .val (.ref b880), .val (.ref b799), .val (.ref b821), .val (.ref b848), .val (.int (1 : Int32)), .val (.ref b799), .val (.ref b821)] [(.ref b763), (.int p1), (.ref b880)]))
      have hH1 : ∀ p j, (own_put (own_put (own_put own_t0 f1.val 0) q2.val 1) q3.val 2) p = some j → (own_hp (own_hp (own_hp (fun _ => (0 : Int32)) f1.val p1) q2.val g2) q3.val g3) p = (own_H p1 g2 g3) j := (own_hH (own_hH (own_hH own_hH0 (by rfl)) (by rfl)) (by rfl))
      have lt1 : ∀ p j, (own_put (own_put (own_put own_t0 f1.val 0) q2.val 1) q3.val 2) p = some j → j < 3 := (own_lt3 (own_lt3 (own_lt3 own_lt30 (by decide)) (by decide)) (by decide))
      have inj1 : ∀ j, (∃ p, (own_put (own_put (own_put own_t0 f1.val 0) q2.val 1) q3.val 2) p = some j) → (own_K b763 b770 b782) j = b763 → j = 0 := fun j hj hk => by by_cases u0 : j = 0 <;> by_cases u1 : j = 1 <;> simp [own_K, u0, u1] at hk <;> first | exact u0 | exact u1 | exact absurd hk (Ne.symm ne771) | exact absurd hk (Ne.symm ne783) | omega
      have fr1 : findP (own_put (own_put (own_put own_t0 f1.val 0) q2.val 1) q3.val 2) (fun j => decide ((own_H p1 g2 g3) j = p1)) 8 0 (own_f p1 (29 : Int32)).toNatClampNeg = some (some 0) := by rw [own_e0, ← hf1]; exact fd1
      obtain ⟨_, _, ⟨T1014, L1014, k1014, n1014⟩, -, X1014, ⟨Lc1014, hQ1014, l1014, y1014, z1014⟩, st1014⟩ := Jvm.LawKit.callS X990 hx (y := (⟨"com/example/nehaba/nehaba/input/KeptValuesPutPinLaw", "find", "(Lcom/example/nehaba/nehaba/input/KeptValues;ILjava/lang/Object;)Ljava/lang/Object;"⟩ : MethodName)) hown (mvT hZ (hw _ (List.mem_of_getElem? (i := 50) rfl))) (mvT hZ (hw _ (List.mem_of_getElem? (i := 51) rfl))) (mvT hZ (hw _ (List.mem_of_getElem? (i := 52) rfl))) (mvT hZ (hw _ (List.mem_of_getElem? (i := 53) rfl))) (by decide) (backOf (W := 0) (rm8 l Z a0 hw [] b880 p1 b763 r900_0_0 r900_0_1 r900_0_2 kk900_0_0 kk900_0_1 kk900_0_2 8 (own_put (own_put (own_put own_t0 f1.val 0) q2.val 1) q3.val 2) (own_hp (own_hp (own_hp (fun _ => (0 : Int32)) f1.val p1) q2.val g2) q3.val g3) (own_K b763 b770 b782) (own_K b799 b821 b848) (29 : Int32) (4 : Int32) (3 : Int32) (own_H p1 g2 g3) 0 (some 0) T990.heap n0 Z1013 pf990_0 pf990_1 pf990_2 pf990_3 pf990_4 pf990_5 pf990_6 pf990_7 pf990_8 pf990_9 hN8 hH1 hS8 rfl inj1 fr1) hZ (hw _ (List.mem_of_getElem? (i := 53) rfl)) (hw _ (List.mem_of_getElem? (i := 52) rfl)) (by decide) (by decide)) (g := (mkF m 218 #[.val (.int p0), .val (.int p1), .val (.int p2), .val (.int p3), .val (.int p4), .val (.int (4 : Int32)), .val (.int g2), .val (.int g3), .val (.ref b763), .val (.ref b770), .val (.ref b782), .val (.ref b799), .val (.ref b821), .val (.ref b848), .val (.ref b880), .val (.ref b799), .val (.ref b821), .val (.ref b848), .val (.int (1 : Int32)), .val (.ref b799), .val (.ref b821)] [(.ref b763), (.int p1), (.ref b880)])) rfl (by rw [hml]; rfl) (argsL := [(.ref b880), (.int p1), (.ref b763)]) (rest := []) (lenOf pd_5 rfl) rfl (by show 2 * 0 + _ ≤ _; exact Nat.le_of_eq rfl) (hb hby at_218) (fun _ _ => ⟨rfl, rfl, (by decide : 10 + 0 ≤ _), (by decide : 36 + 0 ≤ _)⟩)
      dsimp only [Pt.U, Pt.locs, Pt.cells, Pt.slots] at X1014 l1014 y1014 z1014 st1014 hQ1014
      subst l1014 y1014 z1014
      obtain ⟨N1014, eh1014, rfl⟩ := hQ1014
      have NA1014 := Fr.app NA990 N1014
      refine Goes.step st1014 ?_
      show Goes _ _ _ _ _ _ _ (T1014.setTop (mkF m 221 #[.val (.int p0), .val (.int p1), .val (.int p2), .val (.int p3), .val (.int p4), .val (.int (4 : Int32)), .val (.int g2), .val (.int g3), .val (.ref b763), .val (.ref b770), .val (.ref b782), .val (.ref b799), .val (.ref b821), .val (.ref b848), .val (.ref b880), .val (.ref b799), .val (.ref b821), .val (.ref b848), .val (.int (1 : Int32)), .val (.ref b799), .val (.ref b821)] [(.ref b799)]))
      refine Goes.step (fun _ k => XS.aload X1014.here hx rfl (hb hby at_221) rfl rfl k) ?_
      show Goes _ _ _ _ _ _ _ (T1014.setTop (mkF m 223 #[.val (.int p0), .val (.int p1), .val (.int p2), .val (.int p3), .val (.int p4), .val (.int (4 : Int32)), .val (.int g2), .val (.int g3), .val (.ref b763), .val (.ref b770), .val (.ref b782), .val (.ref b799), .val (.ref b821), .val (.ref b848), .val (.ref b880), .val (.ref b799), .val (.ref b821), .val (.ref b848), .val (.int (1 : Int32)), .val (.ref b799), .val (.ref b821)] [(.ref b799), (.ref b799)]))
      refine Goes.step (fun _ k => Jvm.RoadKit.acmp X1014 hx rfl rfl rfl (pc0 := 223) (pc' := 226) (same := true) rfl (hb hby at_223) rfl (decide_eq_true rfl) (by decide) (by decide) k) ?_
      show Goes _ _ _ _ _ _ _ (T1014.setTop (mkF m 226 #[.val (.int p0), .val (.int p1), .val (.int p2), .val (.int p3), .val (.int p4), .val (.int (4 : Int32)), .val (.int g2), .val (.int g3), .val (.ref b763), .val (.ref b770), .val (.ref b782), .val (.ref b799), .val (.ref b821), .val (.ref b848), .val (.ref b880), .val (.ref b799), .val (.ref b821), .val (.ref b848), .val (.int (1 : Int32)), .val (.ref b799), .val (.ref b821)] []))
      refine Goes.step (fun _ k => XS.aload X1014.here hx rfl (hb hby at_226) rfl rfl k) ?_
      show Goes _ _ _ _ _ _ _ (T1014.setTop (mkF m 228 #[.val (.int p0), .val (.int p1), .val (.int p2), .val (.int p3), .val (.int p4), .val (.int (4 : Int32)), .val (.int g2), .val (.int g3), .val (.ref b763), .val (.ref b770), .val (.ref b782), .val (.ref b799), .val (.ref b821), .val (.ref b848), .val (.ref b880), .val (.ref b799), .val (.ref b821), .val (.ref b848), .val (.int (1 : Int32)), .val (.ref b799), .val (.ref b821)] [(.ref b880)]))
      refine Goes.step (fun _ k => XS.iload X1014.here hx rfl (hb hby at_228) rfl  k) ?_
      show Goes _ _ _ _ _ _ _ (T1014.setTop (mkF m 230 #[.val (.int p0), .val (.int p1), .val (.int p2), .val (.int p3), .val (.int p4), .val (.int (4 : Int32)), .val (.int g2), .val (.int g3), .val (.ref b763), .val (.ref b770), .val (.ref b782), .val (.ref b799), .val (.ref b821), .val (.ref b848), .val (.ref b880), .val (.ref b799), .val (.ref b821), .val (.ref b848), .val (.int (1 : Int32)), .val (.ref b799), .val (.ref b821)] [(.int g2), (.ref b880)]))
      refine Goes.step (fun _ k => XS.aload X1014.here hx rfl (hb hby at_230) rfl rfl k) ?_
      show Goes _ _ _ _ _ _ _ (T1014.setTop (mkF m 232 #[.val (.int p0), .val (.int p1), .val (.int p2), .val (.int p3), .val (.int p4), .val (.int (4 : Int32)), .val (.int g2), .val (.int g3), .val (.ref b763), .val (.ref b770), .val (.ref b782), .val (.ref b799), .val (.ref b821), .val (.ref b848), .val (.ref b880), .val (.ref b799), .val (.ref b821), .val (.ref b848), .val (.int (1 : Int32)), .val (.ref b799), .val (.ref b821)] [(.ref b770), (.int g2), (.ref b880)]))
      have hH2 : ∀ p j, (own_put (own_put (own_put own_t0 f1.val 0) q2.val 1) q3.val 2) p = some j → (own_hp (own_hp (own_hp (fun _ => (0 : Int32)) f1.val p1) q2.val g2) q3.val g3) p = (own_H p1 g2 g3) j := (own_hH (own_hH (own_hH own_hH0 (by rfl)) (by rfl)) (by rfl))
      have lt2 : ∀ p j, (own_put (own_put (own_put own_t0 f1.val 0) q2.val 1) q3.val 2) p = some j → j < 3 := (own_lt3 (own_lt3 (own_lt3 own_lt30 (by decide)) (by decide)) (by decide))
      have inj2 : ∀ j, (∃ p, (own_put (own_put (own_put own_t0 f1.val 0) q2.val 1) q3.val 2) p = some j) → (own_K b763 b770 b782) j = b770 → j = 1 := fun j hj hk => by by_cases u0 : j = 0 <;> by_cases u1 : j = 1 <;> simp [own_K, u0, u1] at hk <;> first | exact u0 | exact u1 | exact absurd hk ne771 | exact absurd hk (Ne.symm ne784) | omega
      have fr2 : findP (own_put (own_put (own_put own_t0 f1.val 0) q2.val 1) q3.val 2) (fun j => decide ((own_H p1 g2 g3) j = g2)) 8 1 (own_f g2 (29 : Int32)).toNatClampNeg = some (some 1) := by rw [own_e1, ← hf2]; exact fd2
      obtain ⟨_, _, ⟨T1015, L1015, k1015, n1015⟩, -, X1015, ⟨Lc1015, hQ1015, l1015, y1015, z1015⟩, st1015⟩ := Jvm.LawKit.callS X1014 hx (y := (⟨"com/example/nehaba/nehaba/input/KeptValuesPutPinLaw", "find", "(Lcom/example/nehaba/nehaba/input/KeptValues;ILjava/lang/Object;)Ljava/lang/Object;"⟩ : MethodName)) hown (mvT hZ (hw _ (List.mem_of_getElem? (i := 50) rfl))) (mvT hZ (hw _ (List.mem_of_getElem? (i := 51) rfl))) (mvT hZ (hw _ (List.mem_of_getElem? (i := 52) rfl))) (mvT hZ (hw _ (List.mem_of_getElem? (i := 53) rfl))) (by decide) (backOf (W := 0) (rm8 l Z a0 hw [] b880 g2 b770 r900_0_0 r900_0_1 r900_0_2 kk900_0_0 kk900_0_1 kk900_0_2 8 (own_put (own_put (own_put own_t0 f1.val 0) q2.val 1) q3.val 2) (own_hp (own_hp (own_hp (fun _ => (0 : Int32)) f1.val p1) q2.val g2) q3.val g3) (own_K b763 b770 b782) (own_K b799 b821 b848) (29 : Int32) (4 : Int32) (3 : Int32) (own_H p1 g2 g3) 1 (some 1) T990.heap n0 Z1013 pf990_0 pf990_1 pf990_2 pf990_3 pf990_4 pf990_5 pf990_6 pf990_7 pf990_8 pf990_9 hN8 hH2 hS8 rfl inj2 fr2) hZ (hw _ (List.mem_of_getElem? (i := 53) rfl)) (hw _ (List.mem_of_getElem? (i := 52) rfl)) (by decide) (by decide)) (g := (mkF m 232 #[.val (.int p0), .val (.int p1), .val (.int p2), .val (.int p3), .val (.int p4), .val (.int (4 : Int32)), .val (.int g2), .val (.int g3), .val (.ref b763), .val (.ref b770), .val (.ref b782), .val (.ref b799), .val (.ref b821), .val (.ref b848), .val (.ref b880), .val (.ref b799), .val (.ref b821), .val (.ref b848), .val (.int (1 : Int32)), .val (.ref b799), .val (.ref b821)] [(.ref b770), (.int g2), (.ref b880)])) rfl (by rw [hml]; rfl) (argsL := [(.ref b880), (.int g2), (.ref b770)]) (rest := []) (lenOf pd_5 rfl) rfl (by show 2 * 0 + _ ≤ _; exact Nat.le_of_eq rfl) (hb hby at_232) (fun _ _ => ⟨rfl, eh1014, (by decide : 10 + 0 ≤ _), (by decide : 36 + 0 ≤ _)⟩)
      dsimp only [Pt.U, Pt.locs, Pt.cells, Pt.slots] at X1015 l1015 y1015 z1015 st1015 hQ1015
      subst l1015 y1015 z1015
      obtain ⟨N1015, eh1015, rfl⟩ := hQ1015
      have NA1015 := Fr.app NA1014 N1015
      refine Goes.step st1015 ?_
      show Goes _ _ _ _ _ _ _ (T1015.setTop (mkF m 235 #[.val (.int p0), .val (.int p1), .val (.int p2), .val (.int p3), .val (.int p4), .val (.int (4 : Int32)), .val (.int g2), .val (.int g3), .val (.ref b763), .val (.ref b770), .val (.ref b782), .val (.ref b799), .val (.ref b821), .val (.ref b848), .val (.ref b880), .val (.ref b799), .val (.ref b821), .val (.ref b848), .val (.int (1 : Int32)), .val (.ref b799), .val (.ref b821)] [(.ref b821)]))
      refine Goes.step (fun _ k => XS.aload X1015.here hx rfl (hb hby at_235) rfl rfl k) ?_
      show Goes _ _ _ _ _ _ _ (T1015.setTop (mkF m 237 #[.val (.int p0), .val (.int p1), .val (.int p2), .val (.int p3), .val (.int p4), .val (.int (4 : Int32)), .val (.int g2), .val (.int g3), .val (.ref b763), .val (.ref b770), .val (.ref b782), .val (.ref b799), .val (.ref b821), .val (.ref b848), .val (.ref b880), .val (.ref b799), .val (.ref b821), .val (.ref b848), .val (.int (1 : Int32)), .val (.ref b799), .val (.ref b821)] [(.ref b821), (.ref b821)]))
      refine Goes.step (fun _ k => Jvm.RoadKit.acmp X1015 hx rfl rfl rfl (pc0 := 237) (pc' := 240) (same := true) rfl (hb hby at_237) rfl (decide_eq_true rfl) (by decide) (by decide) k) ?_
      show Goes _ _ _ _ _ _ _ (T1015.setTop (mkF m 240 #[.val (.int p0), .val (.int p1), .val (.int p2), .val (.int p3), .val (.int p4), .val (.int (4 : Int32)), .val (.int g2), .val (.int g3), .val (.ref b763), .val (.ref b770), .val (.ref b782), .val (.ref b799), .val (.ref b821), .val (.ref b848), .val (.ref b880), .val (.ref b799), .val (.ref b821), .val (.ref b848), .val (.int (1 : Int32)), .val (.ref b799), .val (.ref b821)] []))
      refine Goes.step (fun _ k => XS.aload X1015.here hx rfl (hb hby at_240) rfl rfl k) ?_
      show Goes _ _ _ _ _ _ _ (T1015.setTop (mkF m 242 #[.val (.int p0), .val (.int p1), .val (.int p2), .val (.int p3), .val (.int p4), .val (.int (4 : Int32)), .val (.int g2), .val (.int g3), .val (.ref b763), .val (.ref b770), .val (.ref b782), .val (.ref b799), .val (.ref b821), .val (.ref b848), .val (.ref b880), .val (.ref b799), .val (.ref b821), .val (.ref b848), .val (.int (1 : Int32)), .val (.ref b799), .val (.ref b821)] [(.ref b880)]))
      refine Goes.step (fun _ k => XS.iload X1015.here hx rfl (hb hby at_242) rfl  k) ?_
      show Goes _ _ _ _ _ _ _ (T1015.setTop (mkF m 244 #[.val (.int p0), .val (.int p1), .val (.int p2), .val (.int p3), .val (.int p4), .val (.int (4 : Int32)), .val (.int g2), .val (.int g3), .val (.ref b763), .val (.ref b770), .val (.ref b782), .val (.ref b799), .val (.ref b821), .val (.ref b848), .val (.ref b880), .val (.ref b799), .val (.ref b821), .val (.ref b848), .val (.int (1 : Int32)), .val (.ref b799), .val (.ref b821)] [(.int g3), (.ref b880)]))
      refine Goes.step (fun _ k => XS.aload X1015.here hx rfl (hb hby at_244) rfl rfl k) ?_
      show Goes _ _ _ _ _ _ _ (T1015.setTop (mkF m 246 #[.val (.int p0), .val (.int p1), .val (.int p2), .val (.int p3), .val (.int p4), .val (.int (4 : Int32)), .val (.int g2), .val (.int g3), .val (.ref b763), .val (.ref b770), .val (.ref b782), .val (.ref b799), .val (.ref b821), .val (.ref b848), .val (.ref b880), .val (.ref b799), .val (.ref b821), .val (.ref b848), .val (.int (1 : Int32)), .val (.ref b799), .val (.ref b821)] [(.ref b782), (.int g3), (.ref b880)]))
      have hH3 : ∀ p j, (own_put (own_put (own_put own_t0 f1.val 0) q2.val 1) q3.val 2) p = some j → (own_hp (own_hp (own_hp (fun _ => (0 : Int32)) f1.val p1) q2.val g2) q3.val g3) p = (own_H p1 g2 g3) j := (own_hH (own_hH (own_hH own_hH0 (by rfl)) (by rfl)) (by rfl))
      have lt3 : ∀ p j, (own_put (own_put (own_put own_t0 f1.val 0) q2.val 1) q3.val 2) p = some j → j < 3 := (own_lt3 (own_lt3 (own_lt3 own_lt30 (by decide)) (by decide)) (by decide))
      have inj3 : ∀ j, (∃ p, (own_put (own_put (own_put own_t0 f1.val 0) q2.val 1) q3.val 2) p = some j) → (own_K b763 b770 b782) j = b782 → j = 2 := fun j ⟨p, hj⟩ hk => by have h3 := lt3 p j hj; rcases (show j = 0 ∨ j = 1 ∨ j = 2 by omega) with rfl | rfl | rfl <;> simp [own_K] at hk <;> first | rfl | exact absurd hk ne783 | exact absurd hk ne784
      have fr3 : findP (own_put (own_put (own_put own_t0 f1.val 0) q2.val 1) q3.val 2) (fun j => decide ((own_H p1 g2 g3) j = g3)) 8 2 (own_f g3 (29 : Int32)).toNatClampNeg = some (some 2) := by rw [own_findCongr lt3 (own_e2 _ _ _), ← hf3]; exact fd3
      obtain ⟨_, _, ⟨T1016, L1016, k1016, n1016⟩, -, X1016, ⟨Lc1016, hQ1016, l1016, y1016, z1016⟩, st1016⟩ := Jvm.LawKit.callS X1015 hx (y := (⟨"com/example/nehaba/nehaba/input/KeptValuesPutPinLaw", "find", "(Lcom/example/nehaba/nehaba/input/KeptValues;ILjava/lang/Object;)Ljava/lang/Object;"⟩ : MethodName)) hown (mvT hZ (hw _ (List.mem_of_getElem? (i := 50) rfl))) (mvT hZ (hw _ (List.mem_of_getElem? (i := 51) rfl))) (mvT hZ (hw _ (List.mem_of_getElem? (i := 52) rfl))) (mvT hZ (hw _ (List.mem_of_getElem? (i := 53) rfl))) (by decide) (backOf (W := 0) (rm8 l Z a0 hw [] b880 g3 b782 r900_0_0 r900_0_1 r900_0_2 kk900_0_0 kk900_0_1 kk900_0_2 8 (own_put (own_put (own_put own_t0 f1.val 0) q2.val 1) q3.val 2) (own_hp (own_hp (own_hp (fun _ => (0 : Int32)) f1.val p1) q2.val g2) q3.val g3) (own_K b763 b770 b782) (own_K b799 b821 b848) (29 : Int32) (4 : Int32) (3 : Int32) (own_H p1 g2 g3) 2 (some 2) T990.heap n0 Z1013 pf990_0 pf990_1 pf990_2 pf990_3 pf990_4 pf990_5 pf990_6 pf990_7 pf990_8 pf990_9 hN8 hH3 hS8 rfl inj3 fr3) hZ (hw _ (List.mem_of_getElem? (i := 53) rfl)) (hw _ (List.mem_of_getElem? (i := 52) rfl)) (by decide) (by decide)) (g := (mkF m 246 #[.val (.int p0), .val (.int p1), .val (.int p2), .val (.int p3), .val (.int p4), .val (.int (4 : Int32)), .val (.int g2), .val (.int g3), .val (.ref b763), .val (.ref b770), .val (.ref b782), .val (.ref b799), .val (.ref b821), .val (.ref b848), .val (.ref b880), .val (.ref b799), .val (.ref b821), .val (.ref b848), .val (.int (1 : Int32)), .val (.ref b799), .val (.ref b821)] [(.ref b782), (.int g3), (.ref b880)])) rfl (by rw [hml]; rfl) (argsL := [(.ref b880), (.int g3), (.ref b782)]) (rest := []) (lenOf pd_5 rfl) rfl (by show 2 * 0 + _ ≤ _; exact Nat.le_of_eq rfl) (hb hby at_246) (fun _ _ => ⟨rfl, eh1015, (by decide : 10 + 0 ≤ _), (by decide : 36 + 0 ≤ _)⟩)
      dsimp only [Pt.U, Pt.locs, Pt.cells, Pt.slots] at X1016 l1016 y1016 z1016 st1016 hQ1016
      subst l1016 y1016 z1016
      obtain ⟨N1016, eh1016, rfl⟩ := hQ1016
      have NA1016 := Fr.app NA1015 N1016
      refine Goes.step st1016 ?_
      show Goes _ _ _ _ _ _ _ (T1016.setTop (mkF m 249 #[.val (.int p0), .val (.int p1), .val (.int p2), .val (.int p3), .val (.int p4), .val (.int (4 : Int32)), .val (.int g2), .val (.int g3), .val (.ref b763), .val (.ref b770), .val (.ref b782), .val (.ref b799), .val (.ref b821), .val (.ref b848), .val (.ref b880), .val (.ref b799), .val (.ref b821), .val (.ref b848), .val (.int (1 : Int32)), .val (.ref b799), .val (.ref b821)] [(.ref b848)]))
      refine Goes.step (fun _ k => XS.aload X1016.here hx rfl (hb hby at_249) rfl rfl k) ?_
      show Goes _ _ _ _ _ _ _ (T1016.setTop (mkF m 251 #[.val (.int p0), .val (.int p1), .val (.int p2), .val (.int p3), .val (.int p4), .val (.int (4 : Int32)), .val (.int g2), .val (.int g3), .val (.ref b763), .val (.ref b770), .val (.ref b782), .val (.ref b799), .val (.ref b821), .val (.ref b848), .val (.ref b880), .val (.ref b799), .val (.ref b821), .val (.ref b848), .val (.int (1 : Int32)), .val (.ref b799), .val (.ref b821)] [(.ref b848), (.ref b848)]))
      refine Goes.step (fun _ k => Jvm.RoadKit.acmp X1016 hx rfl rfl rfl (pc0 := 251) (pc' := 254) (same := true) rfl (hb hby at_251) rfl (decide_eq_true rfl) (by decide) (by decide) k) ?_
      show Goes _ _ _ _ _ _ _ (T1016.setTop (mkF m 254 #[.val (.int p0), .val (.int p1), .val (.int p2), .val (.int p3), .val (.int p4), .val (.int (4 : Int32)), .val (.int g2), .val (.int g3), .val (.ref b763), .val (.ref b770), .val (.ref b782), .val (.ref b799), .val (.ref b821), .val (.ref b848), .val (.ref b880), .val (.ref b799), .val (.ref b821), .val (.ref b848), .val (.int (1 : Int32)), .val (.ref b799), .val (.ref b821)] []))
      refine Goes.step (fun _ k => XS.iconst X1016.here hx rfl (hb hby at_254) k) ?_
      show Goes _ _ _ _ _ _ _ (T1016.setTop (mkF m 255 #[.val (.int p0), .val (.int p1), .val (.int p2), .val (.int p3), .val (.int p4), .val (.int (4 : Int32)), .val (.int g2), .val (.int g3), .val (.ref b763), .val (.ref b770), .val (.ref b782), .val (.ref b799), .val (.ref b821), .val (.ref b848), .val (.ref b880), .val (.ref b799), .val (.ref b821), .val (.ref b848), .val (.int (1 : Int32)), .val (.ref b799), .val (.ref b821)] [(.int (1 : Int32))]))
      refine Goes.step (fun _ k => XS.goto X1016.here hx rfl (pc0 := 255) (pc' := 259) rfl (hb hby at_255) (by decide) (by decide) k) ?_
      show Goes _ _ _ _ _ _ _ (T1016.setTop (mkF m 259 #[.val (.int p0), .val (.int p1), .val (.int p2), .val (.int p3), .val (.int p4), .val (.int (4 : Int32)), .val (.int g2), .val (.int g3), .val (.ref b763), .val (.ref b770), .val (.ref b782), .val (.ref b799), .val (.ref b821), .val (.ref b848), .val (.ref b880), .val (.ref b799), .val (.ref b821), .val (.ref b848), .val (.int (1 : Int32)), .val (.ref b799), .val (.ref b821)] [(.int (1 : Int32))]))
      exact Goes.ret X1016 hx (BodyLoose.notSynchronized Bd) Bd.returns rfl (Or.inl ⟨rfl, by simp, _, rfl⟩) (hb hby at_259) (by show Q0 Z p0 p1 p2 p3 p4 h0 n0 (some (.int (1 : Int32))) T1016.heap _; rw [eh1016]; exact ⟨rfl, NA1016⟩) (by decide) (by decide)
  show Goes _ _ _ _ _ _ _ (s₁.setTop (mkF m 0 #[.val (.int p0), .val (.int p1), .val (.int p2), .val (.int p3), .val (.int p4), .unset, .unset, .unset, .unset, .unset, .unset, .unset, .unset, .unset, .unset, .unset, .unset, .unset, .unset, .unset, .unset] []))
  refine Goes.step (fun _ k => XS.iconst X0.here hx rfl (hb hby at_0) k) ?_
  show Goes _ _ _ _ _ _ _ (s₁.setTop (mkF m 1 #[.val (.int p0), .val (.int p1), .val (.int p2), .val (.int p3), .val (.int p4), .unset, .unset, .unset, .unset, .unset, .unset, .unset, .unset, .unset, .unset, .unset, .unset, .unset, .unset, .unset, .unset] [(.int (1 : Int32))]))
  refine Goes.step (fun _ k => XS.iloadN X0.here hx rfl (hb hby at_1) rfl  k) ?_
  show Goes _ _ _ _ _ _ _ (s₁.setTop (mkF m 2 #[.val (.int p0), .val (.int p1), .val (.int p2), .val (.int p3), .val (.int p4), .unset, .unset, .unset, .unset, .unset, .unset, .unset, .unset, .unset, .unset, .unset, .unset, .unset, .unset, .unset, .unset] [(.int p0), (.int (1 : Int32))]))
  refine Goes.step (fun _ k => XS.iconst X0.here hx rfl (hb hby at_2) k) ?_
  show Goes _ _ _ _ _ _ _ (s₁.setTop (mkF m 3 #[.val (.int p0), .val (.int p1), .val (.int p2), .val (.int p3), .val (.int p4), .unset, .unset, .unset, .unset, .unset, .unset, .unset, .unset, .unset, .unset, .unset, .unset, .unset, .unset, .unset, .unset] [(.int (3 : Int32)), (.int p0), (.int (1 : Int32))]))
  refine Goes.step (fun _ k => XS.iand X0.here hx rfl (hb hby at_3) rfl k) ?_
  show Goes _ _ _ _ _ _ _ (s₁.setTop (mkF m 4 #[.val (.int p0), .val (.int p1), .val (.int p2), .val (.int p3), .val (.int p4), .unset, .unset, .unset, .unset, .unset, .unset, .unset, .unset, .unset, .unset, .unset, .unset, .unset, .unset, .unset, .unset] [(.int (p0 &&& (3 : Int32))), (.int (1 : Int32))]))
  refine Goes.step (fun _ k => XS.iadd X0.here hx rfl (hb hby at_4) rfl k) ?_
  show Goes _ _ _ _ _ _ _ (s₁.setTop (mkF m 5 #[.val (.int p0), .val (.int p1), .val (.int p2), .val (.int p3), .val (.int p4), .unset, .unset, .unset, .unset, .unset, .unset, .unset, .unset, .unset, .unset, .unset, .unset, .unset, .unset, .unset, .unset] [(.int ((1 : Int32) + (p0 &&& (3 : Int32))))]))
  refine Goes.step (fun _ k => XS.istore X0.here hx rfl (hb hby at_5) rfl (l' := #[.val (.int p0), .val (.int p1), .val (.int p2), .val (.int p3), .val (.int p4), .val (.int ((1 : Int32) + (p0 &&& (3 : Int32)))), .unset, .unset, .unset, .unset, .unset, .unset, .unset, .unset, .unset, .unset, .unset, .unset, .unset, .unset, .unset]) rfl k) ?_
  show Goes _ _ _ _ _ _ _ (s₁.setTop (mkF m 7 #[.val (.int p0), .val (.int p1), .val (.int p2), .val (.int p3), .val (.int p4), .val (.int ((1 : Int32) + (p0 &&& (3 : Int32)))), .unset, .unset, .unset, .unset, .unset, .unset, .unset, .unset, .unset, .unset, .unset, .unset, .unset, .unset, .unset] []))
  refine Goes.step (fun _ k => XS.iload X0.here hx rfl (hb hby at_7) rfl  k) ?_
  show Goes _ _ _ _ _ _ _ (s₁.setTop (mkF m 9 #[.val (.int p0), .val (.int p1), .val (.int p2), .val (.int p3), .val (.int p4), .val (.int ((1 : Int32) + (p0 &&& (3 : Int32)))), .unset, .unset, .unset, .unset, .unset, .unset, .unset, .unset, .unset, .unset, .unset, .unset, .unset, .unset, .unset] [(.int p4)]))
  refine Goes.step (fun _ k => XS.iconst X0.here hx rfl (hb hby at_9) k) ?_
  show Goes _ _ _ _ _ _ _ (s₁.setTop (mkF m 10 #[.val (.int p0), .val (.int p1), .val (.int p2), .val (.int p3), .val (.int p4), .val (.int ((1 : Int32) + (p0 &&& (3 : Int32)))), .unset, .unset, .unset, .unset, .unset, .unset, .unset, .unset, .unset, .unset, .unset, .unset, .unset, .unset, .unset] [(.int (1 : Int32)), (.int p4)]))
  refine Goes.step (fun _ k => XS.iand X0.here hx rfl (hb hby at_10) rfl k) ?_
  show Goes _ _ _ _ _ _ _ (s₁.setTop (mkF m 11 #[.val (.int p0), .val (.int p1), .val (.int p2), .val (.int p3), .val (.int p4), .val (.int ((1 : Int32) + (p0 &&& (3 : Int32)))), .unset, .unset, .unset, .unset, .unset, .unset, .unset, .unset, .unset, .unset, .unset, .unset, .unset, .unset, .unset] [(.int (p4 &&& (1 : Int32)))]))
  by_cases c11_1017 : (p4 &&& (1 : Int32)) = (0 : Int32)
  · refine Goes.step (fun _ k => XS.ifYes X0.here hx rfl (pc0 := 11) (pc' := 18) rfl (hb hby at_11) rfl ((if0 _ _).trans (teq c11_1017).1) (by decide) (by decide) k) ?_
    show Goes _ _ _ _ _ _ _ (s₁.setTop (mkF m 18 #[.val (.int p0), .val (.int p1), .val (.int p2), .val (.int p3), .val (.int p4), .val (.int ((1 : Int32) + (p0 &&& (3 : Int32)))), .unset, .unset, .unset, .unset, .unset, .unset, .unset, .unset, .unset, .unset, .unset, .unset, .unset, .unset, .unset] []))
    refine Goes.step (fun _ k => XS.iloadN X0.here hx rfl (hb hby at_18) rfl  k) ?_
    show Goes _ _ _ _ _ _ _ (s₁.setTop (mkF m 19 #[.val (.int p0), .val (.int p1), .val (.int p2), .val (.int p3), .val (.int p4), .val (.int ((1 : Int32) + (p0 &&& (3 : Int32)))), .unset, .unset, .unset, .unset, .unset, .unset, .unset, .unset, .unset, .unset, .unset, .unset, .unset, .unset, .unset] [(.int p2)]))
    refine Goes.step (fun _ k => XS.istore X0.here hx rfl (hb hby at_19) rfl (l' := #[.val (.int p0), .val (.int p1), .val (.int p2), .val (.int p3), .val (.int p4), .val (.int ((1 : Int32) + (p0 &&& (3 : Int32)))), .val (.int p2), .unset, .unset, .unset, .unset, .unset, .unset, .unset, .unset, .unset, .unset, .unset, .unset, .unset, .unset]) rfl k) ?_
    show Goes _ _ _ _ _ _ _ (s₁.setTop (mkF m 21 #[.val (.int p0), .val (.int p1), .val (.int p2), .val (.int p3), .val (.int p4), .val (.int ((1 : Int32) + (p0 &&& (3 : Int32)))), .val (.int p2), .unset, .unset, .unset, .unset, .unset, .unset, .unset, .unset, .unset, .unset, .unset, .unset, .unset, .unset] []))
    refine Goes.step (fun _ k => XS.iload X0.here hx rfl (hb hby at_21) rfl  k) ?_
    show Goes _ _ _ _ _ _ _ (s₁.setTop (mkF m 23 #[.val (.int p0), .val (.int p1), .val (.int p2), .val (.int p3), .val (.int p4), .val (.int ((1 : Int32) + (p0 &&& (3 : Int32)))), .val (.int p2), .unset, .unset, .unset, .unset, .unset, .unset, .unset, .unset, .unset, .unset, .unset, .unset, .unset, .unset] [(.int p4)]))
    refine Goes.step (fun _ k => XS.iconst X0.here hx rfl (hb hby at_23) k) ?_
    show Goes _ _ _ _ _ _ _ (s₁.setTop (mkF m 24 #[.val (.int p0), .val (.int p1), .val (.int p2), .val (.int p3), .val (.int p4), .val (.int ((1 : Int32) + (p0 &&& (3 : Int32)))), .val (.int p2), .unset, .unset, .unset, .unset, .unset, .unset, .unset, .unset, .unset, .unset, .unset, .unset, .unset, .unset] [(.int (2 : Int32)), (.int p4)]))
    refine Goes.step (fun _ k => XS.iand X0.here hx rfl (hb hby at_24) rfl k) ?_
    show Goes _ _ _ _ _ _ _ (s₁.setTop (mkF m 25 #[.val (.int p0), .val (.int p1), .val (.int p2), .val (.int p3), .val (.int p4), .val (.int ((1 : Int32) + (p0 &&& (3 : Int32)))), .val (.int p2), .unset, .unset, .unset, .unset, .unset, .unset, .unset, .unset, .unset, .unset, .unset, .unset, .unset, .unset] [(.int (p4 &&& (2 : Int32)))]))
    by_cases c25_1018 : (p4 &&& (2 : Int32)) = (0 : Int32)
    · refine Goes.step (fun _ k => XS.ifYes X0.here hx rfl (pc0 := 25) (pc' := 32) rfl (hb hby at_25) rfl ((if0 _ _).trans (teq c25_1018).1) (by decide) (by decide) k) ?_
      show Goes _ _ _ _ _ _ _ (s₁.setTop (mkF m 32 #[.val (.int p0), .val (.int p1), .val (.int p2), .val (.int p3), .val (.int p4), .val (.int ((1 : Int32) + (p0 &&& (3 : Int32)))), .val (.int p2), .unset, .unset, .unset, .unset, .unset, .unset, .unset, .unset, .unset, .unset, .unset, .unset, .unset, .unset] []))
      refine Goes.step (fun _ k => XS.iload X0.here hx rfl (hb hby at_32) rfl  k) ?_
      show Goes _ _ _ _ _ _ _ (s₁.setTop (mkF m 34 #[.val (.int p0), .val (.int p1), .val (.int p2), .val (.int p3), .val (.int p4), .val (.int ((1 : Int32) + (p0 &&& (3 : Int32)))), .val (.int p2), .unset, .unset, .unset, .unset, .unset, .unset, .unset, .unset, .unset, .unset, .unset, .unset, .unset, .unset] [(.int p4)]))
      refine Goes.step (fun _ k => XS.iconst X0.here hx rfl (hb hby at_34) k) ?_
      show Goes _ _ _ _ _ _ _ (s₁.setTop (mkF m 35 #[.val (.int p0), .val (.int p1), .val (.int p2), .val (.int p3), .val (.int p4), .val (.int ((1 : Int32) + (p0 &&& (3 : Int32)))), .val (.int p2), .unset, .unset, .unset, .unset, .unset, .unset, .unset, .unset, .unset, .unset, .unset, .unset, .unset, .unset] [(.int (4 : Int32)), (.int p4)]))
      refine Goes.step (fun _ k => XS.iand X0.here hx rfl (hb hby at_35) rfl k) ?_
      show Goes _ _ _ _ _ _ _ (s₁.setTop (mkF m 36 #[.val (.int p0), .val (.int p1), .val (.int p2), .val (.int p3), .val (.int p4), .val (.int ((1 : Int32) + (p0 &&& (3 : Int32)))), .val (.int p2), .unset, .unset, .unset, .unset, .unset, .unset, .unset, .unset, .unset, .unset, .unset, .unset, .unset, .unset] [(.int (p4 &&& (4 : Int32)))]))
      by_cases c36_1019 : (p4 &&& (4 : Int32)) = (0 : Int32)
      · refine Goes.step (fun _ k => XS.ifYes X0.here hx rfl (pc0 := 36) (pc' := 44) rfl (hb hby at_36) rfl ((if0 _ _).trans (teq c36_1019).1) (by decide) (by decide) k) ?_
        show Goes _ _ _ _ _ _ _ (s₁.setTop (mkF m 44 #[.val (.int p0), .val (.int p1), .val (.int p2), .val (.int p3), .val (.int p4), .val (.int ((1 : Int32) + (p0 &&& (3 : Int32)))), .val (.int p2), .unset, .unset, .unset, .unset, .unset, .unset, .unset, .unset, .unset, .unset, .unset, .unset, .unset, .unset] []))
        refine Goes.step (fun _ k => XS.iloadN X0.here hx rfl (hb hby at_44) rfl  k) ?_
        show Goes _ _ _ _ _ _ _ (s₁.setTop (mkF m 45 #[.val (.int p0), .val (.int p1), .val (.int p2), .val (.int p3), .val (.int p4), .val (.int ((1 : Int32) + (p0 &&& (3 : Int32)))), .val (.int p2), .unset, .unset, .unset, .unset, .unset, .unset, .unset, .unset, .unset, .unset, .unset, .unset, .unset, .unset] [(.int p3)]))
        refine Goes.step (fun _ k => XS.istore X0.here hx rfl (hb hby at_45) rfl (l' := #[.val (.int p0), .val (.int p1), .val (.int p2), .val (.int p3), .val (.int p4), .val (.int ((1 : Int32) + (p0 &&& (3 : Int32)))), .val (.int p2), .val (.int p3), .unset, .unset, .unset, .unset, .unset, .unset, .unset, .unset, .unset, .unset, .unset, .unset, .unset]) rfl k) ?_
        show Goes _ _ _ _ _ _ _ (s₁.setTop (mkF m 47 #[.val (.int p0), .val (.int p1), .val (.int p2), .val (.int p3), .val (.int p4), .val (.int ((1 : Int32) + (p0 &&& (3 : Int32)))), .val (.int p2), .val (.int p3), .unset, .unset, .unset, .unset, .unset, .unset, .unset, .unset, .unset, .unset, .unset, .unset, .unset] []))
        exact J47 _ _ _ (own_most rfl)
      · refine Goes.step (fun _ k => XS.ifNo X0.here hx rfl (hb hby at_36) rfl ((if0 _ _).trans (feq c36_1019).1) k) ?_
        show Goes _ _ _ _ _ _ _ (s₁.setTop (mkF m 39 #[.val (.int p0), .val (.int p1), .val (.int p2), .val (.int p3), .val (.int p4), .val (.int ((1 : Int32) + (p0 &&& (3 : Int32)))), .val (.int p2), .unset, .unset, .unset, .unset, .unset, .unset, .unset, .unset, .unset, .unset, .unset, .unset, .unset, .unset] []))
        refine Goes.step (fun _ k => XS.iload X0.here hx rfl (hb hby at_39) rfl  k) ?_
        show Goes _ _ _ _ _ _ _ (s₁.setTop (mkF m 41 #[.val (.int p0), .val (.int p1), .val (.int p2), .val (.int p3), .val (.int p4), .val (.int ((1 : Int32) + (p0 &&& (3 : Int32)))), .val (.int p2), .unset, .unset, .unset, .unset, .unset, .unset, .unset, .unset, .unset, .unset, .unset, .unset, .unset, .unset] [(.int p2)]))
        refine Goes.step (fun _ k => XS.goto X0.here hx rfl (pc0 := 41) (pc' := 45) rfl (hb hby at_41) (by decide) (by decide) k) ?_
        show Goes _ _ _ _ _ _ _ (s₁.setTop (mkF m 45 #[.val (.int p0), .val (.int p1), .val (.int p2), .val (.int p3), .val (.int p4), .val (.int ((1 : Int32) + (p0 &&& (3 : Int32)))), .val (.int p2), .unset, .unset, .unset, .unset, .unset, .unset, .unset, .unset, .unset, .unset, .unset, .unset, .unset, .unset] [(.int p2)]))
        refine Goes.step (fun _ k => XS.istore X0.here hx rfl (hb hby at_45) rfl (l' := #[.val (.int p0), .val (.int p1), .val (.int p2), .val (.int p3), .val (.int p4), .val (.int ((1 : Int32) + (p0 &&& (3 : Int32)))), .val (.int p2), .val (.int p2), .unset, .unset, .unset, .unset, .unset, .unset, .unset, .unset, .unset, .unset, .unset, .unset, .unset]) rfl k) ?_
        show Goes _ _ _ _ _ _ _ (s₁.setTop (mkF m 47 #[.val (.int p0), .val (.int p1), .val (.int p2), .val (.int p3), .val (.int p4), .val (.int ((1 : Int32) + (p0 &&& (3 : Int32)))), .val (.int p2), .val (.int p2), .unset, .unset, .unset, .unset, .unset, .unset, .unset, .unset, .unset, .unset, .unset, .unset, .unset] []))
        exact J47 _ _ _ (own_most rfl)
    · refine Goes.step (fun _ k => XS.ifNo X0.here hx rfl (hb hby at_25) rfl ((if0 _ _).trans (feq c25_1018).1) k) ?_
      show Goes _ _ _ _ _ _ _ (s₁.setTop (mkF m 28 #[.val (.int p0), .val (.int p1), .val (.int p2), .val (.int p3), .val (.int p4), .val (.int ((1 : Int32) + (p0 &&& (3 : Int32)))), .val (.int p2), .unset, .unset, .unset, .unset, .unset, .unset, .unset, .unset, .unset, .unset, .unset, .unset, .unset, .unset] []))
      refine Goes.step (fun _ k => XS.iloadN X0.here hx rfl (hb hby at_28) rfl  k) ?_
      show Goes _ _ _ _ _ _ _ (s₁.setTop (mkF m 29 #[.val (.int p0), .val (.int p1), .val (.int p2), .val (.int p3), .val (.int p4), .val (.int ((1 : Int32) + (p0 &&& (3 : Int32)))), .val (.int p2), .unset, .unset, .unset, .unset, .unset, .unset, .unset, .unset, .unset, .unset, .unset, .unset, .unset, .unset] [(.int p1)]))
      refine Goes.step (fun _ k => XS.goto X0.here hx rfl (pc0 := 29) (pc' := 45) rfl (hb hby at_29) (by decide) (by decide) k) ?_
      show Goes _ _ _ _ _ _ _ (s₁.setTop (mkF m 45 #[.val (.int p0), .val (.int p1), .val (.int p2), .val (.int p3), .val (.int p4), .val (.int ((1 : Int32) + (p0 &&& (3 : Int32)))), .val (.int p2), .unset, .unset, .unset, .unset, .unset, .unset, .unset, .unset, .unset, .unset, .unset, .unset, .unset, .unset] [(.int p1)]))
      refine Goes.step (fun _ k => XS.istore X0.here hx rfl (hb hby at_45) rfl (l' := #[.val (.int p0), .val (.int p1), .val (.int p2), .val (.int p3), .val (.int p4), .val (.int ((1 : Int32) + (p0 &&& (3 : Int32)))), .val (.int p2), .val (.int p1), .unset, .unset, .unset, .unset, .unset, .unset, .unset, .unset, .unset, .unset, .unset, .unset, .unset]) rfl k) ?_
      show Goes _ _ _ _ _ _ _ (s₁.setTop (mkF m 47 #[.val (.int p0), .val (.int p1), .val (.int p2), .val (.int p3), .val (.int p4), .val (.int ((1 : Int32) + (p0 &&& (3 : Int32)))), .val (.int p2), .val (.int p1), .unset, .unset, .unset, .unset, .unset, .unset, .unset, .unset, .unset, .unset, .unset, .unset, .unset] []))
      exact J47 _ _ _ (own_most rfl)
  · refine Goes.step (fun _ k => XS.ifNo X0.here hx rfl (hb hby at_11) rfl ((if0 _ _).trans (feq c11_1017).1) k) ?_
    show Goes _ _ _ _ _ _ _ (s₁.setTop (mkF m 14 #[.val (.int p0), .val (.int p1), .val (.int p2), .val (.int p3), .val (.int p4), .val (.int ((1 : Int32) + (p0 &&& (3 : Int32)))), .unset, .unset, .unset, .unset, .unset, .unset, .unset, .unset, .unset, .unset, .unset, .unset, .unset, .unset, .unset] []))
    refine Goes.step (fun _ k => XS.iloadN X0.here hx rfl (hb hby at_14) rfl  k) ?_
    show Goes _ _ _ _ _ _ _ (s₁.setTop (mkF m 15 #[.val (.int p0), .val (.int p1), .val (.int p2), .val (.int p3), .val (.int p4), .val (.int ((1 : Int32) + (p0 &&& (3 : Int32)))), .unset, .unset, .unset, .unset, .unset, .unset, .unset, .unset, .unset, .unset, .unset, .unset, .unset, .unset, .unset] [(.int p1)]))
    refine Goes.step (fun _ k => XS.goto X0.here hx rfl (pc0 := 15) (pc' := 19) rfl (hb hby at_15) (by decide) (by decide) k) ?_
    show Goes _ _ _ _ _ _ _ (s₁.setTop (mkF m 19 #[.val (.int p0), .val (.int p1), .val (.int p2), .val (.int p3), .val (.int p4), .val (.int ((1 : Int32) + (p0 &&& (3 : Int32)))), .unset, .unset, .unset, .unset, .unset, .unset, .unset, .unset, .unset, .unset, .unset, .unset, .unset, .unset, .unset] [(.int p1)]))
    refine Goes.step (fun _ k => XS.istore X0.here hx rfl (hb hby at_19) rfl (l' := #[.val (.int p0), .val (.int p1), .val (.int p2), .val (.int p3), .val (.int p4), .val (.int ((1 : Int32) + (p0 &&& (3 : Int32)))), .val (.int p1), .unset, .unset, .unset, .unset, .unset, .unset, .unset, .unset, .unset, .unset, .unset, .unset, .unset, .unset]) rfl k) ?_
    show Goes _ _ _ _ _ _ _ (s₁.setTop (mkF m 21 #[.val (.int p0), .val (.int p1), .val (.int p2), .val (.int p3), .val (.int p4), .val (.int ((1 : Int32) + (p0 &&& (3 : Int32)))), .val (.int p1), .unset, .unset, .unset, .unset, .unset, .unset, .unset, .unset, .unset, .unset, .unset, .unset, .unset, .unset] []))
    refine Goes.step (fun _ k => XS.iload X0.here hx rfl (hb hby at_21) rfl  k) ?_
    show Goes _ _ _ _ _ _ _ (s₁.setTop (mkF m 23 #[.val (.int p0), .val (.int p1), .val (.int p2), .val (.int p3), .val (.int p4), .val (.int ((1 : Int32) + (p0 &&& (3 : Int32)))), .val (.int p1), .unset, .unset, .unset, .unset, .unset, .unset, .unset, .unset, .unset, .unset, .unset, .unset, .unset, .unset] [(.int p4)]))
    refine Goes.step (fun _ k => XS.iconst X0.here hx rfl (hb hby at_23) k) ?_
    show Goes _ _ _ _ _ _ _ (s₁.setTop (mkF m 24 #[.val (.int p0), .val (.int p1), .val (.int p2), .val (.int p3), .val (.int p4), .val (.int ((1 : Int32) + (p0 &&& (3 : Int32)))), .val (.int p1), .unset, .unset, .unset, .unset, .unset, .unset, .unset, .unset, .unset, .unset, .unset, .unset, .unset, .unset] [(.int (2 : Int32)), (.int p4)]))
    refine Goes.step (fun _ k => XS.iand X0.here hx rfl (hb hby at_24) rfl k) ?_
    show Goes _ _ _ _ _ _ _ (s₁.setTop (mkF m 25 #[.val (.int p0), .val (.int p1), .val (.int p2), .val (.int p3), .val (.int p4), .val (.int ((1 : Int32) + (p0 &&& (3 : Int32)))), .val (.int p1), .unset, .unset, .unset, .unset, .unset, .unset, .unset, .unset, .unset, .unset, .unset, .unset, .unset, .unset] [(.int (p4 &&& (2 : Int32)))]))
    by_cases c25_1020 : (p4 &&& (2 : Int32)) = (0 : Int32)
    · refine Goes.step (fun _ k => XS.ifYes X0.here hx rfl (pc0 := 25) (pc' := 32) rfl (hb hby at_25) rfl ((if0 _ _).trans (teq c25_1020).1) (by decide) (by decide) k) ?_
      show Goes _ _ _ _ _ _ _ (s₁.setTop (mkF m 32 #[.val (.int p0), .val (.int p1), .val (.int p2), .val (.int p3), .val (.int p4), .val (.int ((1 : Int32) + (p0 &&& (3 : Int32)))), .val (.int p1), .unset, .unset, .unset, .unset, .unset, .unset, .unset, .unset, .unset, .unset, .unset, .unset, .unset, .unset] []))
      refine Goes.step (fun _ k => XS.iload X0.here hx rfl (hb hby at_32) rfl  k) ?_
      show Goes _ _ _ _ _ _ _ (s₁.setTop (mkF m 34 #[.val (.int p0), .val (.int p1), .val (.int p2), .val (.int p3), .val (.int p4), .val (.int ((1 : Int32) + (p0 &&& (3 : Int32)))), .val (.int p1), .unset, .unset, .unset, .unset, .unset, .unset, .unset, .unset, .unset, .unset, .unset, .unset, .unset, .unset] [(.int p4)]))
      refine Goes.step (fun _ k => XS.iconst X0.here hx rfl (hb hby at_34) k) ?_
      show Goes _ _ _ _ _ _ _ (s₁.setTop (mkF m 35 #[.val (.int p0), .val (.int p1), .val (.int p2), .val (.int p3), .val (.int p4), .val (.int ((1 : Int32) + (p0 &&& (3 : Int32)))), .val (.int p1), .unset, .unset, .unset, .unset, .unset, .unset, .unset, .unset, .unset, .unset, .unset, .unset, .unset, .unset] [(.int (4 : Int32)), (.int p4)]))
      refine Goes.step (fun _ k => XS.iand X0.here hx rfl (hb hby at_35) rfl k) ?_
      show Goes _ _ _ _ _ _ _ (s₁.setTop (mkF m 36 #[.val (.int p0), .val (.int p1), .val (.int p2), .val (.int p3), .val (.int p4), .val (.int ((1 : Int32) + (p0 &&& (3 : Int32)))), .val (.int p1), .unset, .unset, .unset, .unset, .unset, .unset, .unset, .unset, .unset, .unset, .unset, .unset, .unset, .unset] [(.int (p4 &&& (4 : Int32)))]))
      by_cases c36_1021 : (p4 &&& (4 : Int32)) = (0 : Int32)
      · refine Goes.step (fun _ k => XS.ifYes X0.here hx rfl (pc0 := 36) (pc' := 44) rfl (hb hby at_36) rfl ((if0 _ _).trans (teq c36_1021).1) (by decide) (by decide) k) ?_
        show Goes _ _ _ _ _ _ _ (s₁.setTop (mkF m 44 #[.val (.int p0), .val (.int p1), .val (.int p2), .val (.int p3), .val (.int p4), .val (.int ((1 : Int32) + (p0 &&& (3 : Int32)))), .val (.int p1), .unset, .unset, .unset, .unset, .unset, .unset, .unset, .unset, .unset, .unset, .unset, .unset, .unset, .unset] []))
        refine Goes.step (fun _ k => XS.iloadN X0.here hx rfl (hb hby at_44) rfl  k) ?_
        show Goes _ _ _ _ _ _ _ (s₁.setTop (mkF m 45 #[.val (.int p0), .val (.int p1), .val (.int p2), .val (.int p3), .val (.int p4), .val (.int ((1 : Int32) + (p0 &&& (3 : Int32)))), .val (.int p1), .unset, .unset, .unset, .unset, .unset, .unset, .unset, .unset, .unset, .unset, .unset, .unset, .unset, .unset] [(.int p3)]))
        refine Goes.step (fun _ k => XS.istore X0.here hx rfl (hb hby at_45) rfl (l' := #[.val (.int p0), .val (.int p1), .val (.int p2), .val (.int p3), .val (.int p4), .val (.int ((1 : Int32) + (p0 &&& (3 : Int32)))), .val (.int p1), .val (.int p3), .unset, .unset, .unset, .unset, .unset, .unset, .unset, .unset, .unset, .unset, .unset, .unset, .unset]) rfl k) ?_
        show Goes _ _ _ _ _ _ _ (s₁.setTop (mkF m 47 #[.val (.int p0), .val (.int p1), .val (.int p2), .val (.int p3), .val (.int p4), .val (.int ((1 : Int32) + (p0 &&& (3 : Int32)))), .val (.int p1), .val (.int p3), .unset, .unset, .unset, .unset, .unset, .unset, .unset, .unset, .unset, .unset, .unset, .unset, .unset] []))
        exact J47 _ _ _ (own_most rfl)
      · refine Goes.step (fun _ k => XS.ifNo X0.here hx rfl (hb hby at_36) rfl ((if0 _ _).trans (feq c36_1021).1) k) ?_
        show Goes _ _ _ _ _ _ _ (s₁.setTop (mkF m 39 #[.val (.int p0), .val (.int p1), .val (.int p2), .val (.int p3), .val (.int p4), .val (.int ((1 : Int32) + (p0 &&& (3 : Int32)))), .val (.int p1), .unset, .unset, .unset, .unset, .unset, .unset, .unset, .unset, .unset, .unset, .unset, .unset, .unset, .unset] []))
        refine Goes.step (fun _ k => XS.iload X0.here hx rfl (hb hby at_39) rfl  k) ?_
        show Goes _ _ _ _ _ _ _ (s₁.setTop (mkF m 41 #[.val (.int p0), .val (.int p1), .val (.int p2), .val (.int p3), .val (.int p4), .val (.int ((1 : Int32) + (p0 &&& (3 : Int32)))), .val (.int p1), .unset, .unset, .unset, .unset, .unset, .unset, .unset, .unset, .unset, .unset, .unset, .unset, .unset, .unset] [(.int p1)]))
        refine Goes.step (fun _ k => XS.goto X0.here hx rfl (pc0 := 41) (pc' := 45) rfl (hb hby at_41) (by decide) (by decide) k) ?_
        show Goes _ _ _ _ _ _ _ (s₁.setTop (mkF m 45 #[.val (.int p0), .val (.int p1), .val (.int p2), .val (.int p3), .val (.int p4), .val (.int ((1 : Int32) + (p0 &&& (3 : Int32)))), .val (.int p1), .unset, .unset, .unset, .unset, .unset, .unset, .unset, .unset, .unset, .unset, .unset, .unset, .unset, .unset] [(.int p1)]))
        refine Goes.step (fun _ k => XS.istore X0.here hx rfl (hb hby at_45) rfl (l' := #[.val (.int p0), .val (.int p1), .val (.int p2), .val (.int p3), .val (.int p4), .val (.int ((1 : Int32) + (p0 &&& (3 : Int32)))), .val (.int p1), .val (.int p1), .unset, .unset, .unset, .unset, .unset, .unset, .unset, .unset, .unset, .unset, .unset, .unset, .unset]) rfl k) ?_
        show Goes _ _ _ _ _ _ _ (s₁.setTop (mkF m 47 #[.val (.int p0), .val (.int p1), .val (.int p2), .val (.int p3), .val (.int p4), .val (.int ((1 : Int32) + (p0 &&& (3 : Int32)))), .val (.int p1), .val (.int p1), .unset, .unset, .unset, .unset, .unset, .unset, .unset, .unset, .unset, .unset, .unset, .unset, .unset] []))
        exact J47 _ _ _ (own_most rfl)
    · refine Goes.step (fun _ k => XS.ifNo X0.here hx rfl (hb hby at_25) rfl ((if0 _ _).trans (feq c25_1020).1) k) ?_
      show Goes _ _ _ _ _ _ _ (s₁.setTop (mkF m 28 #[.val (.int p0), .val (.int p1), .val (.int p2), .val (.int p3), .val (.int p4), .val (.int ((1 : Int32) + (p0 &&& (3 : Int32)))), .val (.int p1), .unset, .unset, .unset, .unset, .unset, .unset, .unset, .unset, .unset, .unset, .unset, .unset, .unset, .unset] []))
      refine Goes.step (fun _ k => XS.iloadN X0.here hx rfl (hb hby at_28) rfl  k) ?_
      show Goes _ _ _ _ _ _ _ (s₁.setTop (mkF m 29 #[.val (.int p0), .val (.int p1), .val (.int p2), .val (.int p3), .val (.int p4), .val (.int ((1 : Int32) + (p0 &&& (3 : Int32)))), .val (.int p1), .unset, .unset, .unset, .unset, .unset, .unset, .unset, .unset, .unset, .unset, .unset, .unset, .unset, .unset] [(.int p1)]))
      refine Goes.step (fun _ k => XS.goto X0.here hx rfl (pc0 := 29) (pc' := 45) rfl (hb hby at_29) (by decide) (by decide) k) ?_
      show Goes _ _ _ _ _ _ _ (s₁.setTop (mkF m 45 #[.val (.int p0), .val (.int p1), .val (.int p2), .val (.int p3), .val (.int p4), .val (.int ((1 : Int32) + (p0 &&& (3 : Int32)))), .val (.int p1), .unset, .unset, .unset, .unset, .unset, .unset, .unset, .unset, .unset, .unset, .unset, .unset, .unset, .unset] [(.int p1)]))
      refine Goes.step (fun _ k => XS.istore X0.here hx rfl (hb hby at_45) rfl (l' := #[.val (.int p0), .val (.int p1), .val (.int p2), .val (.int p3), .val (.int p4), .val (.int ((1 : Int32) + (p0 &&& (3 : Int32)))), .val (.int p1), .val (.int p1), .unset, .unset, .unset, .unset, .unset, .unset, .unset, .unset, .unset, .unset, .unset, .unset, .unset]) rfl k) ?_
      show Goes _ _ _ _ _ _ _ (s₁.setTop (mkF m 47 #[.val (.int p0), .val (.int p1), .val (.int p2), .val (.int p3), .val (.int p4), .val (.int ((1 : Int32) + (p0 &&& (3 : Int32)))), .val (.int p1), .val (.int p1), .unset, .unset, .unset, .unset, .unset, .unset, .unset, .unset, .unset, .unset, .unset, .unset, .unset] []))
      exact J47 _ _ _ (own_most rfl)
set_option maxRecDepth 65536 in
set_option maxHeartbeats 40000000 in
theorem comes_1 {Post : Tables → Env → Array Value → State → Outcome → State → Prop} (hpost : ∀ tb e args s v u, (limb_1_1.after args s (.returned v) u = true ∧ limb_1_2.after args s (.returned v) u = true ∧ True) → FrameEnd s (.returned v) u (Jvm.fieldLocs frame_1_writes args s ++ Jvm.arrayLocs frame_1_arrays args s ++ Jvm.staticLocs frame_1_statics s) 32 192 → Post tb e args s (.returned v) u) :
    ArmFor flags0 classFile x code maxLocals ret World_1 tables_1 room_1 Calls_1 rest_1 Pre_1 Post := by
  intro l hfl _ _ p e ha hc hk s m args below hf hA hF happ hP
  obtain ⟨hcalls, hrest, hpre⟩ := hP
  obtain ⟨-, -, -, hnamed, -, -, -, hat⟩ := (Spec.applies_iff hf).mp happ
  obtain ⟨hg, hn⟩ := and_e (Cond.before_iff.mp (show (Jvm.Cond.and given_1 narrow_1).before args s = true from hpre))
  obtain ⟨gg1, gg2⟩ := and_e hg
  obtain ⟨gg3, gg4⟩ := and_e gg2
  obtain ⟨gg5, gg6⟩ := and_e gg4
  obtain ⟨gg7, gg8⟩ := and_e gg6
  obtain ⟨gg9, gg10⟩ := and_e gg8
  obtain ⟨w0, w1, w2, w3, w4, rfl⟩ : ∃ w0 w1 w2 w3 w4 : Value, args = #[w0, w1, w2, w3, w4] := by
    have hs : args.size = 5 := by simpa [Cond.value, given_1] using gg1
    obtain ⟨L⟩ := args
    match L, hs with
    | [w0, w1, w2, w3, w4], _ => exact ⟨w0, w1, w2, w3, w4, rfl⟩
  have hw := fun d (hd : d ∈ tables_1) => atoms_spec (ws := Jvm.Cond.code x code maxLocals ret :: tables_1) hat d (List.mem_cons_of_mem _ hd)
  have hfit : Fit s := fun {y c} hc i hi => by
    obtain ⟨ha, rfl⟩ := Array.getElem?_eq_some_iff.mp hc
    have q := List.all_eq_true.mp ((Array.all_eq_true_iff_forall_mem.mp hF) _ (Array.getElem_mem ha)) i (List.mem_range.mpr hi)
    simpa [Array.getElem?_eq_getElem hi] using q
  obtain ⟨i0, ei0⟩ := is_v gg3
  obtain rfl : w0 = (.int i0) := Option.some.inj ei0
  obtain ⟨i1, ei1⟩ := is_v gg5
  obtain rfl : w1 = (.int i1) := Option.some.inj ei1
  obtain ⟨i2, ei2⟩ := is_v gg7
  obtain rfl : w2 = (.int i2) := Option.some.inj ei2
  obtain ⟨i3, ei3⟩ := is_v gg9
  obtain rfl : w3 = (.int i3) := Option.some.inj ei3
  obtain ⟨i4, ei4⟩ := is_v gg10
  obtain rfl : w4 = (.int i4) := Option.some.inj ei4
  obtain ⟨n, o, h1, h2, h3, _, L, rfl, ⟨rfl, N⟩, hq⟩ := rm0 l s _ hw tables_1 i0 i1 i2 i3 i4 s.heap s.heap.size (Nat.le_refl _)  p e ha hc hk s m _ below hf ((Spec.applies_iff_loose hf).mp happ).1 ⟨rfl, State.Warmed39.refl s, rfl⟩ trivial
  refine ⟨n, _, h1, h2, h3, hpost _ _ _ _ _ _ ⟨Cond.after_iff.mpr rfl, Cond.after_iff.mpr (eq_i res_at (Term.int_eval (1)) rfl), trivial⟩ ⟨hq.1, hq.2.1, (hq.2.2.sift fun y hy => Or.inr (N y hy)).mono (by decide) (by decide)⟩⟩
theorem main_1_1 : Claimed_1_1 := comes_1 fun _ _ _ _ _ _ h hF => ⟨h.1, hF⟩
theorem main_1_2 : Claimed_1_2 := comes_1 fun _ _ _ _ _ _ h hF => ⟨h.2.1, hF⟩
end Jvm.Pilot.@@N@@
namespace Jvm.Pilot.@@N@@
open Jvm Jvm.ClassFile Sem Op Lib Jvm.Free Jvm.Stand Jvm.Pilot.@@N@@.Jvm.D
/-! MADE BY PROGRAM (witnessworld.py) out of the Statement's table words and the real class files: 16 classes; the members and pool entries that the words name. The judged class is class 1, her method 1. -/
namespace start1
open Jvm.ClassFile
def u (s : String) : CpInfo := .utf8 (stringToUtf16 s)
/-- a pool by its gaps: so many unusable entries, then the entry; so many at the end -/
def gap : Nat → List CpInfo → List CpInfo
  | 0, r => r
  | n + 1, r => .unusable :: gap n r
def poolList (es : List (Nat × CpInfo)) (last : Nat) : List CpInfo := es.foldr (fun e r => gap e.1 (e.2 :: r)) (gap last [])
def pool (es : List (Nat × CpInfo)) (last : Nat) : Array CpInfo := ⟨poolList es last⟩
def fileOf (pool : Array CpInfo) (this : Nat) (attrs : Array Attribute := #[]) (ms : Array MethodInfo := #[]) (fl : Nat := 33) (sup : Nat := 0) (ifs : Array Nat := #[]) (fds : Array FieldInfo := #[]) : ClassFile where
  minorVersion := 0
  majorVersion := 65
  constantPool := pool
  accessFlags := fl
  thisClass := this
  superClass := sup
  interfaces := ifs
  fields := fds
  methods := ms
  attributes := attrs
def plain (name : String) (sup : Option ClassId) : Class where
  name := name
  kind := .ordinary
  loader := none
  accessFlags := 33
  super := sup
  interfaces := #[]
  cf := none
  fields := #[]
  methods := #[]
  instanceTypes := #[]
  staticTypes := #[]
  resolved := #[]
  callSites := []
  init := .initialized
  statics := none
  mirror := none

def pool0 : Array CpInfo := pool [(5, u "<init>"), (0, u "()V"), (1, .class_ 10), (1, u "java/lang/Object")] 113

def k0c0 : Code := { maxStack := 0, maxLocals := 1, code := object_method_1_code, exceptionTable := #[], attributes := #[] }
def k0m0 : Method := { name := "<init>", desc := "()V", sig := { parameters := [], returnType := none }, accessFlags := 1, code := some k0c0 }
/-- java/lang/Object -/
def k0 : Class := { plain "java/lang/Object" none with
  accessFlags := 33
  interfaces := #[]
  cf := some (fileOf pool0 8 #[] #[{ accessFlags := 1, nameIndex := 5, descriptorIndex := 6, attributes := #[] }] 33 0 #[] #[])
  fields := #[]
  methods := #[k0m0]
  instanceTypes := #[]
  staticTypes := #[]
  resolved := Array.replicate 124 none
  statics := none }

def pool1 : Array CpInfo := pool [(2, .class_ 4), (1, u "java/lang/Object"), (0, u "<init>"), (0, u "()V"), (0, .class_ 8), (0, u "com/example/nehaba/nehaba/input/KeptValues"), (0, .methodref 7 10), (0, .nameAndType 5 11), (0, u "(I)V"), (0, .methodref 7 13), (0, .nameAndType 14 15), (0, u "put"), (0, u "(ILjava/lang/Object;Ljava/lang/Object;)Ljava/lang/Object;"), (0, .methodref 17 18), (0, .class_ 19), (0, .nameAndType 20 21), (0, u "com/example/nehaba/nehaba/input/KeptValuesPutPinLaw"), (0, u "find"), (0, u "(Lcom/example/nehaba/nehaba/input/KeptValues;ILjava/lang/Object;)Ljava/lang/Object;"), (0, .methodref 7 23), (0, .nameAndType 24 25), (0, u "place"), (0, u "(I)I"), (0, .methodref 7 27), (0, .nameAndType 28 29), (0, u "holds"), (0, u "(I)Z"), (0, .methodref 7 31), (0, .nameAndType 32 33), (0, u "key"), (0, u "(I)Ljava/lang/Object;"), (0, .methodref 7 35), (0, .nameAndType 36 33), (0, u "value"), (0, .methodref 7 38), (0, .nameAndType 39 40), (0, u "next"), (0, u "(II)I"), (2, u "law"), (0, u "(IIIII)Z")] 5

def k1m0 : Method := { name := "<init>", desc := "()V", sig := { parameters := [], returnType := none }, accessFlags := 1, code := none }
def k1c1 : Code := { maxStack := 4, maxLocals := 21, code := code, exceptionTable := #[], attributes := #[] }
def k1m1 : Method := { name := "law", desc := "(IIIII)Z", sig := { parameters := [.int, .int, .int, .int, .int], returnType := some .boolean }, accessFlags := 9, code := some k1c1 }
def k1c2 : Code := { maxStack := 3, maxLocals := 4, code := method_3_code, exceptionTable := #[], attributes := #[] }
def k1m2 : Method := { name := "find", desc := "(Lcom/example/nehaba/nehaba/input/KeptValues;ILjava/lang/Object;)Ljava/lang/Object;", sig := { parameters := [(.object "com/example/nehaba/nehaba/input/KeptValues"), .int, (.object "java/lang/Object")], returnType := some (.object "java/lang/Object") }, accessFlags := 10, code := some k1c2 }
/-- com/example/nehaba/nehaba/input/KeptValuesPutPinLaw -/
def k1 : Class := { plain "com/example/nehaba/nehaba/input/KeptValuesPutPinLaw" (some 0) with
  accessFlags := 49
  interfaces := #[]
  cf := some (fileOf pool1 17 #[] #[{ accessFlags := 1, nameIndex := 5, descriptorIndex := 6, attributes := #[] }, { accessFlags := 9, nameIndex := 43, descriptorIndex := 44, attributes := #[] }, { accessFlags := 10, nameIndex := 20, descriptorIndex := 21, attributes := #[] }] 49 2 #[] #[])
  fields := #[]
  methods := #[k1m0, k1m1, k1m2]
  instanceTypes := #[]
  staticTypes := #[]
  resolved := Array.replicate 50 none
  statics := none }

def pool2 : Array CpInfo := pool [(1, .methodref 2 3), (0, .class_ 4), (0, .nameAndType 5 6), (0, u "java/lang/Object"), (0, u "<init>"), (0, u "()V"), (0, .class_ 8), (0, u "com/example/nehaba/nehaba/input/KeptValues"), (0, .integer 536870912), (9, .fieldref 7 20), (0, .nameAndType 21 22), (0, u "most"), (0, u "I"), (0, .methodref 24 25), (0, .class_ 26), (0, .nameAndType 27 28), (0, u "java/lang/Integer"), (0, u "highestOneBit"), (0, u "(I)I"), (0, .fieldref 7 30), (0, .nameAndType 31 32), (0, u "keys"), (0, u "[Ljava/lang/Object;"), (0, .fieldref 7 34), (0, .nameAndType 35 36), (0, u "hashes"), (0, u "[I"), (0, .fieldref 7 38), (0, .nameAndType 39 32), (0, u "values"), (0, .methodref 24 41), (0, .nameAndType 42 28), (0, u "numberOfLeadingZeros"), (0, .fieldref 7 44), (0, .nameAndType 45 22), (0, u "shift"), (0, .methodref 7 47), (0, .nameAndType 48 28), (0, u "first"), (0, .methodref 7 50), (0, .nameAndType 51 52), (0, u "seek"), (0, u "(II)I"), (0, .methodref 7 54), (0, .nameAndType 55 28), (0, u "after"), (0, .fieldref 7 57), (0, .nameAndType 58 22), (0, u "size"), (0, .methodref 60 61), (0, .class_ 62), (0, .nameAndType 63 64), (0, u "java/util/Arrays"), (0, u "fill"), (0, u "([Ljava/lang/Object;Ljava/lang/Object;)V"), (10, .integer 2654435769), (0, u "MOST"), (1, u "(I)V"), (3, u "place"), (0, u "next"), (0, u "holds"), (0, u "(I)Z"), (0, u "key"), (0, u "(I)Ljava/lang/Object;"), (2, u "value"), (1, u "put"), (0, u "(ILjava/lang/Object;Ljava/lang/Object;)Ljava/lang/Object;")] 21

def k2c0 : Code := { maxStack := 3, maxLocals := 3, code := prog_31_method_1_code, exceptionTable := #[], attributes := #[] }
def k2m0 : Method := { name := "<init>", desc := "(I)V", sig := { parameters := [.int], returnType := none }, accessFlags := 1, code := some k2c0 }
def k2c1 : Code := { maxStack := 3, maxLocals := 2, code := prog_31_method_2_code, exceptionTable := #[], attributes := #[] }
def k2m1 : Method := { name := "place", desc := "(I)I", sig := { parameters := [.int], returnType := some .int }, accessFlags := 1, code := some k2c1 }
def k2c2 : Code := { maxStack := 3, maxLocals := 3, code := prog_31_method_3_code, exceptionTable := #[], attributes := #[] }
def k2m2 : Method := { name := "next", desc := "(II)I", sig := { parameters := [.int, .int], returnType := some .int }, accessFlags := 1, code := some k2c2 }
def k2c3 : Code := { maxStack := 2, maxLocals := 2, code := prog_31_method_4_code, exceptionTable := #[], attributes := #[] }
def k2m3 : Method := { name := "holds", desc := "(I)Z", sig := { parameters := [.int], returnType := some .boolean }, accessFlags := 1, code := some k2c3 }
def k2c4 : Code := { maxStack := 2, maxLocals := 2, code := prog_31_method_5_code, exceptionTable := #[], attributes := #[] }
def k2m4 : Method := { name := "key", desc := "(I)Ljava/lang/Object;", sig := { parameters := [.int], returnType := some (.object "java/lang/Object") }, accessFlags := 1, code := some k2c4 }
def k2c5 : Code := { maxStack := 2, maxLocals := 2, code := prog_31_method_6_code, exceptionTable := #[], attributes := #[] }
def k2m5 : Method := { name := "value", desc := "(I)Ljava/lang/Object;", sig := { parameters := [.int], returnType := some (.object "java/lang/Object") }, accessFlags := 1, code := some k2c5 }
def k2c6 : Code := { maxStack := 3, maxLocals := 5, code := prog_31_method_7_code, exceptionTable := #[], attributes := #[] }
def k2m6 : Method := { name := "put", desc := "(ILjava/lang/Object;Ljava/lang/Object;)Ljava/lang/Object;", sig := { parameters := [.int, (.object "java/lang/Object"), (.object "java/lang/Object")], returnType := some (.object "java/lang/Object") }, accessFlags := 1, code := some k2c6 }
def k2c7 : Code := { maxStack := 2, maxLocals := 2, code := prog_31_method_9_code, exceptionTable := #[], attributes := #[] }
def k2m7 : Method := { name := "first", desc := "(I)I", sig := { parameters := [.int], returnType := some .int }, accessFlags := 2, code := some k2c7 }
def k2c8 : Code := { maxStack := 2, maxLocals := 3, code := prog_31_method_10_code, exceptionTable := #[], attributes := #[] }
def k2m8 : Method := { name := "seek", desc := "(II)I", sig := { parameters := [.int, .int], returnType := some .int }, accessFlags := 2, code := some k2c8 }
def k2c9 : Code := { maxStack := 3, maxLocals := 2, code := prog_31_method_11_code, exceptionTable := #[], attributes := #[] }
def k2m9 : Method := { name := "after", desc := "(I)I", sig := { parameters := [.int], returnType := some .int }, accessFlags := 2, code := some k2c9 }
/-- com/example/nehaba/nehaba/input/KeptValues -/
def k2 : Class := { plain "com/example/nehaba/nehaba/input/KeptValues" (some 0) with
  accessFlags := 49
  interfaces := #[]
  cf := some (fileOf pool2 7 #[] #[{ accessFlags := 1, nameIndex := 5, descriptorIndex := 78, attributes := #[] }, { accessFlags := 1, nameIndex := 82, descriptorIndex := 28, attributes := #[] }, { accessFlags := 1, nameIndex := 83, descriptorIndex := 52, attributes := #[] }, { accessFlags := 1, nameIndex := 84, descriptorIndex := 85, attributes := #[] }, { accessFlags := 1, nameIndex := 86, descriptorIndex := 87, attributes := #[] }, { accessFlags := 1, nameIndex := 90, descriptorIndex := 87, attributes := #[] }, { accessFlags := 1, nameIndex := 92, descriptorIndex := 93, attributes := #[] }, { accessFlags := 2, nameIndex := 48, descriptorIndex := 28, attributes := #[] }, { accessFlags := 2, nameIndex := 51, descriptorIndex := 52, attributes := #[] }, { accessFlags := 2, nameIndex := 55, descriptorIndex := 28, attributes := #[] }] 49 2 #[] #[{ accessFlags := 26, nameIndex := 76, descriptorIndex := 22, attributes := #[] }, { accessFlags := 18, nameIndex := 21, descriptorIndex := 22, attributes := #[] }, { accessFlags := 18, nameIndex := 31, descriptorIndex := 32, attributes := #[] }, { accessFlags := 18, nameIndex := 35, descriptorIndex := 36, attributes := #[] }, { accessFlags := 18, nameIndex := 39, descriptorIndex := 32, attributes := #[] }, { accessFlags := 18, nameIndex := 45, descriptorIndex := 22, attributes := #[] }, { accessFlags := 2, nameIndex := 58, descriptorIndex := 22, attributes := #[] }])
  fields := #[{ name := "MOST", type := .int, accessFlags := 26, slot := 0, constantValue := 0 }, { name := "most", type := .int, accessFlags := 18, slot := 0, constantValue := 0 }, { name := "keys", type := (.array (.object "java/lang/Object")), accessFlags := 18, slot := 1, constantValue := 0 }, { name := "hashes", type := (.array .int), accessFlags := 18, slot := 2, constantValue := 0 }, { name := "values", type := (.array (.object "java/lang/Object")), accessFlags := 18, slot := 3, constantValue := 0 }, { name := "shift", type := .int, accessFlags := 18, slot := 4, constantValue := 0 }, { name := "size", type := .int, accessFlags := 2, slot := 5, constantValue := 0 }]
  methods := #[k2m0, k2m1, k2m2, k2m3, k2m4, k2m5, k2m6, k2m7, k2m8, k2m9]
  instanceTypes := #[.int, (.array (.object "java/lang/Object")), (.array .int), (.array (.object "java/lang/Object")), .int, .int]
  staticTypes := #[.int]
  resolved := Array.replicate 115 none
  statics := none }

def pool3 : Array CpInfo := pool [(1, .class_ 2), (0, u "java/io/Serializable"), (0, .class_ 4), (0, u "java/lang/Object")] 2

/-- java/io/Serializable -/
def k3 : Class := { plain "java/io/Serializable" (some 0) with
  accessFlags := 1537
  interfaces := #[]
  cf := some (fileOf pool3 1 #[] #[] 1537 3 #[] #[])
  fields := #[]
  methods := #[]
  instanceTypes := #[]
  staticTypes := #[]
  resolved := Array.replicate 7 none
  statics := none }

def pool4 : Array CpInfo := pool [(2, .class_ 4), (1, u "java/lang/Object"), (0, u "<init>"), (0, u "()V"), (1, .class_ 10), (1, u "java/lang/Number"), (2, .class_ 14), (0, u "java/io/Serializable"), (0, u "serialVersionUID"), (0, u "J")] 20

def k4m0 : Method := { name := "<init>", desc := "()V", sig := { parameters := [], returnType := none }, accessFlags := 1, code := none }
/-- java/lang/Number -/
def k4 : Class := { plain "java/lang/Number" (some 0) with
  accessFlags := 1057
  interfaces := #[3]
  cf := some (fileOf pool4 8 #[] #[{ accessFlags := 1, nameIndex := 5, descriptorIndex := 6, attributes := #[] }] 1057 2 #[13] #[{ accessFlags := 26, nameIndex := 15, descriptorIndex := 16, attributes := #[] }])
  fields := #[{ name := "serialVersionUID", type := .long, accessFlags := 26, slot := 0, constantValue := 0 }]
  methods := #[k4m0]
  instanceTypes := #[]
  staticTypes := #[.long]
  resolved := Array.replicate 37 none
  statics := none }

def pool5 : Array CpInfo := pool [(1, .class_ 2), (0, u "java/lang/Comparable"), (0, .class_ 4), (0, u "java/lang/Object")] 7

/-- java/lang/Comparable -/
def k5 : Class := { plain "java/lang/Comparable" (some 0) with
  accessFlags := 1537
  interfaces := #[]
  cf := some (fileOf pool5 1 #[] #[] 1537 3 #[] #[])
  fields := #[]
  methods := #[]
  instanceTypes := #[]
  staticTypes := #[]
  resolved := Array.replicate 12 none
  statics := none }

def pool6 : Array CpInfo := pool [(1, .class_ 2), (0, u "java/lang/constant/Constable"), (0, .class_ 4), (0, u "java/lang/Object")] 6

/-- java/lang/constant/Constable -/
def k6 : Class := { plain "java/lang/constant/Constable" (some 0) with
  accessFlags := 1537
  interfaces := #[]
  cf := some (fileOf pool6 1 #[] #[] 1537 3 #[] #[])
  fields := #[]
  methods := #[]
  instanceTypes := #[]
  staticTypes := #[]
  resolved := Array.replicate 11 none
  statics := none }

def pool7 : Array CpInfo := pool [(1, .class_ 2), (0, u "java/lang/constant/ConstantDesc"), (0, .class_ 4), (0, u "java/lang/Object")] 32

/-- java/lang/constant/ConstantDesc -/
def k7 : Class := { plain "java/lang/constant/ConstantDesc" (some 0) with
  accessFlags := 1537
  interfaces := #[]
  cf := some (fileOf pool7 1 #[] #[] 1537 3 #[] #[])
  fields := #[]
  methods := #[]
  instanceTypes := #[]
  staticTypes := #[]
  resolved := Array.replicate 37 none
  statics := none }

def pool8 : Array CpInfo := pool [(1, .class_ 2), (0, u "java/lang/Integer"), (16, u "digits"), (0, u "[C"), (30, .methodref 1 52), (0, .nameAndType 53 54), (0, u "numberOfLeadingZeros"), (0, u "(I)I"), (30, u "DigitOnes"), (0, u "[B"), (2, u "DigitTens"), (37, .integer 2147483648), (61, .class_ 190), (0, u "java/lang/Integer$IntegerCache"), (3, u "I"), (8, .class_ 204), (0, u "java/lang/Number"), (2, u "value"), (56, .integer 65536), (37, u "TYPE"), (0, u "Ljava/lang/Class;"), (0, .class_ 305), (0, u "java/lang/Comparable"), (0, .class_ 307), (0, u "java/lang/constant/Constable"), (0, .class_ 309), (0, u "java/lang/constant/ConstantDesc"), (0, u "MIN_VALUE"), (1, u "MAX_VALUE"), (3, u "SIZE"), (1, u "BYTES"), (1, u "serialVersionUID"), (0, u "J"), (81, u "highestOneBit")] 49

def k8c0 : Code := { maxStack := 3, maxLocals := 1, code := jdk_33_method_45_code, exceptionTable := #[], attributes := #[] }
def k8m0 : Method := { name := "highestOneBit", desc := "(I)I", sig := { parameters := [.int], returnType := some .int }, accessFlags := 9, code := some k8c0 }
def k8c1 : Code := { maxStack := 3, maxLocals := 2, code := jdk_33_method_47_code, exceptionTable := #[], attributes := #[] }
def k8m1 : Method := { name := "numberOfLeadingZeros", desc := "(I)I", sig := { parameters := [.int], returnType := some .int }, accessFlags := 9, code := some k8c1 }
/-- java/lang/Integer -/
def k8 : Class := { plain "java/lang/Integer" (some 4) with
  accessFlags := 49
  interfaces := #[5, 6, 7]
  cf := some (fileOf pool8 1 #[.nestMembers #[189]] #[{ accessFlags := 9, nameIndex := 403, descriptorIndex := 54, attributes := #[] }, { accessFlags := 9, nameIndex := 53, descriptorIndex := 54, attributes := #[] }] 49 203 #[304, 306, 308] #[{ accessFlags := 25, nameIndex := 310, descriptorIndex := 194, attributes := #[] }, { accessFlags := 25, nameIndex := 312, descriptorIndex := 194, attributes := #[] }, { accessFlags := 25, nameIndex := 302, descriptorIndex := 303, attributes := #[] }, { accessFlags := 24, nameIndex := 19, descriptorIndex := 20, attributes := #[] }, { accessFlags := 24, nameIndex := 89, descriptorIndex := 86, attributes := #[] }, { accessFlags := 24, nameIndex := 85, descriptorIndex := 86, attributes := #[] }, { accessFlags := 18, nameIndex := 207, descriptorIndex := 194, attributes := #[] }, { accessFlags := 25, nameIndex := 316, descriptorIndex := 194, attributes := #[] }, { accessFlags := 25, nameIndex := 318, descriptorIndex := 194, attributes := #[] }, { accessFlags := 26, nameIndex := 320, descriptorIndex := 321, attributes := #[] }])
  fields := #[{ name := "MIN_VALUE", type := .int, accessFlags := 25, slot := 0, constantValue := 0 }, { name := "MAX_VALUE", type := .int, accessFlags := 25, slot := 1, constantValue := 0 }, { name := "TYPE", type := (.object "java/lang/Class"), accessFlags := 25, slot := 2, constantValue := 0 }, { name := "digits", type := (.array .char), accessFlags := 24, slot := 3, constantValue := 0 }, { name := "DigitTens", type := (.array .byte), accessFlags := 24, slot := 4, constantValue := 0 }, { name := "DigitOnes", type := (.array .byte), accessFlags := 24, slot := 5, constantValue := 0 }, { name := "value", type := .int, accessFlags := 18, slot := 0, constantValue := 0 }, { name := "SIZE", type := .int, accessFlags := 25, slot := 6, constantValue := 0 }, { name := "BYTES", type := .int, accessFlags := 25, slot := 7, constantValue := 0 }, { name := "serialVersionUID", type := .long, accessFlags := 26, slot := 8, constantValue := 0 }]
  methods := #[k8m0, k8m1]
  instanceTypes := #[.int]
  staticTypes := #[.int, .int, (.object "java/lang/Class"), (.array .char), (.array .byte), (.array .byte), .int, .int, .long]
  resolved := Array.replicate 453 none
  statics := none }

def pool9 : Array CpInfo := pool [(2, .class_ 4), (1, u "java/lang/Object"), (0, u "<init>"), (0, u "()V"), (7, .class_ 16), (1, u "java/util/Arrays"), (57, .class_ 76), (1, u "java/util/Arrays$NaturalOrder"), (36, .class_ 115), (1, u "java/util/Arrays$LegacyMergeSort"), (1, u "Z"), (257, .class_ 376), (0, u "java/util/Arrays$ArrayList"), (68, u "$assertionsDisabled"), (269, u "MIN_ARRAY_SORT_GRAN"), (0, u "I"), (2, u "INSERTIONSORT_THRESHOLD"), (120, u "fill"), (17, u "([Ljava/lang/Object;Ljava/lang/Object;)V"), (116, .class_ 976), (0, u "java/util/Arrays$ArrayItr")] 52

def k9m0 : Method := { name := "<init>", desc := "()V", sig := { parameters := [], returnType := none }, accessFlags := 2, code := none }
def k9c1 : Code := { maxStack := 3, maxLocals := 4, code := jdk_65_method_117_code, exceptionTable := #[], attributes := #[] }
def k9m1 : Method := { name := "fill", desc := "([Ljava/lang/Object;Ljava/lang/Object;)V", sig := { parameters := [(.array (.object "java/lang/Object")), (.object "java/lang/Object")], returnType := none }, accessFlags := 9, code := some k9c1 }
/-- java/util/Arrays -/
def k9 : Class := { plain "java/util/Arrays" (some 0) with
  accessFlags := 49
  interfaces := #[]
  cf := some (fileOf pool9 14 #[.nestMembers #[975, 375, 113, 74]] #[{ accessFlags := 2, nameIndex := 5, descriptorIndex := 6, attributes := #[] }, { accessFlags := 9, nameIndex := 840, descriptorIndex := 858, attributes := #[] }] 49 2 #[] #[{ accessFlags := 26, nameIndex := 715, descriptorIndex := 716, attributes := #[] }, { accessFlags := 26, nameIndex := 719, descriptorIndex := 716, attributes := #[] }, { accessFlags := 4120, nameIndex := 445, descriptorIndex := 117, attributes := #[] }])
  fields := #[{ name := "MIN_ARRAY_SORT_GRAN", type := .int, accessFlags := 26, slot := 0, constantValue := 0 }, { name := "INSERTIONSORT_THRESHOLD", type := .int, accessFlags := 26, slot := 1, constantValue := 0 }, { name := "$assertionsDisabled", type := .boolean, accessFlags := 4120, slot := 2, constantValue := 0 }]
  methods := #[k9m0, k9m1]
  instanceTypes := #[]
  staticTypes := #[.int, .int, .boolean]
  resolved := Array.replicate 1029 none
  statics := none }

def pool10 : Array CpInfo := pool [(1, u "java/lang/Cloneable"), (0, .class_ 1), (0, u "java/lang/Object"), (0, .class_ 3)] 3

/-- java/lang/Cloneable -/
def k10 : Class := { plain "java/lang/Cloneable" (some 0) with
  accessFlags := 1537
  interfaces := #[]
  cf := some (fileOf pool10 2 #[] #[] 1537 4 #[] #[])
  fields := #[]
  methods := #[]
  instanceTypes := #[]
  staticTypes := #[]
  resolved := Array.replicate 8 none
  statics := none }

/-- the primitive byte -/
def k11 : Class := { plain "byte" none with kind := .primitive 'B', accessFlags := 0x411 }
/-- [B -/
def k12 : Class := { plain "[B" (some 0) with kind := .array 11 .byte, interfaces := #[10, 3], accessFlags := 1041 }

/-- the primitive int -/
def k13 : Class := { plain "int" none with kind := .primitive 'I', accessFlags := 0x411 }
/-- [I -/
def k14 : Class := { plain "[I" (some 0) with kind := .array 13 .int, interfaces := #[10, 3], accessFlags := 1041 }

/-- [Ljava/lang/Object; -/
def k15 : Class := { plain "[Ljava/lang/Object;" (some 0) with kind := .array 0 (.object "java/lang/Object"), interfaces := #[10, 3], accessFlags := 1041 }

def heap : Heap := #[]
def classes : Array Class := #[k0, k1, k2, k3, k4, k5, k6, k7, k8, k9, k10, k11, k12, k13, k14, k15]
def interned : List (Array UInt16 × Addr) := []
def slotsUsed : Nat := 0
def theMethod : MethodId := ⟨1, 1⟩
def args0 : Array Value := #[.int 5, .int 5, .int 5, .int 5, .int 5]
def aboutOver (below : List Frame) : State where
  vm := { classes := classes, interned := interned.toArray }
  heap := heap
  slotsUsed := slotsUsed
  threads := #[{ frames := .invoking theMethod args0 :: below }]
def below0 : List Frame := [.native { method := ⟨0, 0⟩, args := #[] }]
def about1 : State := aboutOver below0
def p0 : Program := .bare "" "" ""
def e0 : Env := launch0.env 0 0 0
theorem w_frames : about1.frames = Frame.invoking theMethod args0 :: below0 := rfl
set_option maxRecDepth 65536 in
theorem w_args : argsFit about1.vm theMethod args0 = true := by decide +kernel
set_option maxRecDepth 65536 in
theorem w_heap : heapFits about1 = true := by decide +kernel
set_option maxRecDepth 65536 in
theorem w_runnable : about1.curStatus? = some .runnable := by decide +kernel
set_option maxRecDepth 65536 in
theorem w_alone : about1.alone = true := by decide +kernel
set_option maxRecDepth 65536 in
theorem w_named : about1.methodNamed? x = some theMethod := by decide +kernel
set_option maxRecDepth 65536 in
theorem w_hears : about1.hears theMethod below0 = true := by decide +kernel
set_option maxRecDepth 65536 in
theorem w_ripe : about1.ripe theMethod args0 below0 = true := by decide +kernel
theorem w_running : about1.status = .running := rfl
set_option maxRecDepth 65536 in
theorem w_room : about1.hasRoom e0.platform room_1 = true :=
  launch0.hasRoom_least _ room_1 (by decide +kernel) (by decide +kernel) (by decide +kernel) (by decide +kernel) (by decide +kernel) (by decide +kernel)
theorem allAtoms_all (ts : List Jvm.Cond) (a : Array Jvm.Value) (st : Jvm.State) : (allAtoms ts).before a st = ts.all (fun c => c.before a st) := by
  induction ts with
  | nil => rfl
  | cons c t ih =>
    show (Jvm.Cond.and c (allAtoms t)).before a st = _
    rw [Jvm.Cond.before_and, ih, List.all_cons]
def words1 : List Jvm.Cond := Jvm.Cond.code x code maxLocals ret :: tables_1
/-- a 'code' word, met by the world's own term for the bytes: nothing is compared byte by byte -/
theorem code_word {y : MethodName} {bytes : ByteArray} {mx : Nat} {rt : Option FieldType} {a : Array Value} {s : State} {m : MethodId} {meth : Method} {c : Code} (h1 : s.methodNamed? y = some m) (h2 : s.vm.method? m = some meth) (h3 : meth.code = some c) (h4 : c.code = bytes)
    (h5 : (c.maxLocals == mx && c.exceptionTable.isEmpty && decide (c.maxStack ≤ mostOperands) && decide (meth.sig.returnType = rt) && !meth.locks && decide (parseMethodDescriptor y.desc = some meth.sig)) = true) : (Jvm.Cond.code y bytes mx rt).before a s = true := by
  simp only [Bool.and_eq_true, beq_iff_eq, Bool.not_eq_true', decide_eq_true_eq] at h5
  obtain ⟨⟨⟨⟨⟨g1, g2⟩, g3⟩, g4⟩, g5⟩, g6⟩ := h5
  simp [Cond.before, Cond.holds, Cond.value, h1, h2, h3, h4, g1, g2, g3, g4, g5, g6]
def isCode : Jvm.Cond → Bool
  | .code _ _ _ _ => true
  | _ => false
theorem all_split {L : List Jvm.Cond} {P : Jvm.Cond → Bool} (h1 : L.all (fun c => isCode c || P c) = true) (h2 : ∀ c ∈ L.filter isCode, P c = true) : L.all P = true := by
  refine List.all_eq_true.mpr fun c hc => ?_
  have h := List.all_eq_true.mp h1 c hc
  rcases Bool.eq_false_or_eq_true (isCode c) with hi | hi
  · exact h2 c (List.mem_filter.mpr ⟨hc, hi⟩)
  · simpa [hi] using h
set_option maxRecDepth 65536 in
theorem w_c0 : (Jvm.Cond.code x code maxLocals ret).before args0 about1 = true := code_word (m := ⟨1, 1⟩) (meth := k1m1) (c := k1c1) (by decide +kernel) rfl rfl rfl (by decide +kernel)
set_option maxRecDepth 65536 in
theorem w_c1 : (Jvm.Cond.code ({ cls := "com/example/nehaba/nehaba/input/KeptValues", name := "<init>", desc := "(I)V" } : Jvm.MethodName) prog_31_method_1_code (3 : Nat) (Option.none : Option Jvm.ClassFile.FieldType)).before args0 about1 = true := code_word (m := ⟨2, 0⟩) (meth := k2m0) (c := k2c0) (by decide +kernel) rfl rfl rfl (by decide +kernel)
set_option maxRecDepth 65536 in
theorem w_c2 : (Jvm.Cond.code ({ cls := "java/lang/Object", name := "<init>", desc := "()V" } : Jvm.MethodName) object_method_1_code (1 : Nat) (Option.none : Option Jvm.ClassFile.FieldType)).before args0 about1 = true := code_word (m := ⟨0, 0⟩) (meth := k0m0) (c := k0c0) (by decide +kernel) rfl rfl rfl (by decide +kernel)
set_option maxRecDepth 65536 in
theorem w_c3 : (Jvm.Cond.code ({ cls := "java/lang/Integer", name := "highestOneBit", desc := "(I)I" } : Jvm.MethodName) jdk_33_method_45_code (1 : Nat) (Option.some Jvm.ClassFile.FieldType.int)).before args0 about1 = true := code_word (m := ⟨8, 0⟩) (meth := k8m0) (c := k8c0) (by decide +kernel) rfl rfl rfl (by decide +kernel)
set_option maxRecDepth 65536 in
theorem w_c4 : (Jvm.Cond.code ({ cls := "java/lang/Integer", name := "numberOfLeadingZeros", desc := "(I)I" } : Jvm.MethodName) jdk_33_method_47_code (2 : Nat) (Option.some Jvm.ClassFile.FieldType.int)).before args0 about1 = true := code_word (m := ⟨8, 1⟩) (meth := k8m1) (c := k8c1) (by decide +kernel) rfl rfl rfl (by decide +kernel)
set_option maxRecDepth 65536 in
theorem w_c5 : (Jvm.Cond.code ({ cls := "com/example/nehaba/nehaba/input/KeptValues", name := "put", desc := "(ILjava/lang/Object;Ljava/lang/Object;)Ljava/lang/Object;" } : Jvm.MethodName) prog_31_method_7_code (5 : Nat) (Option.some (Jvm.ClassFile.FieldType.object "java/lang/Object"))).before args0 about1 = true := code_word (m := ⟨2, 6⟩) (meth := k2m6) (c := k2c6) (by decide +kernel) rfl rfl rfl (by decide +kernel)
set_option maxRecDepth 65536 in
theorem w_c6 : (Jvm.Cond.code ({ cls := "com/example/nehaba/nehaba/input/KeptValues", name := "first", desc := "(I)I" } : Jvm.MethodName) prog_31_method_9_code (2 : Nat) (Option.some Jvm.ClassFile.FieldType.int)).before args0 about1 = true := code_word (m := ⟨2, 7⟩) (meth := k2m7) (c := k2c7) (by decide +kernel) rfl rfl rfl (by decide +kernel)
set_option maxRecDepth 65536 in
theorem w_c7 : (Jvm.Cond.code ({ cls := "java/util/Arrays", name := "fill", desc := "([Ljava/lang/Object;Ljava/lang/Object;)V" } : Jvm.MethodName) jdk_65_method_117_code (4 : Nat) (Option.none : Option Jvm.ClassFile.FieldType)).before args0 about1 = true := code_word (m := ⟨9, 1⟩) (meth := k9m1) (c := k9c1) (by decide +kernel) rfl rfl rfl (by decide +kernel)
set_option maxRecDepth 65536 in
theorem w_c8 : (Jvm.Cond.code ({ cls := "com/example/nehaba/nehaba/input/KeptValuesPutPinLaw", name := "find", desc := "(Lcom/example/nehaba/nehaba/input/KeptValues;ILjava/lang/Object;)Ljava/lang/Object;" } : Jvm.MethodName) method_3_code (4 : Nat) (Option.some (Jvm.ClassFile.FieldType.object "java/lang/Object"))).before args0 about1 = true := code_word (m := ⟨1, 2⟩) (meth := k1m2) (c := k1c2) (by decide +kernel) rfl rfl rfl (by decide +kernel)
set_option maxRecDepth 65536 in
theorem w_c9 : (Jvm.Cond.code ({ cls := "com/example/nehaba/nehaba/input/KeptValues", name := "place", desc := "(I)I" } : Jvm.MethodName) prog_31_method_2_code (2 : Nat) (Option.some Jvm.ClassFile.FieldType.int)).before args0 about1 = true := code_word (m := ⟨2, 1⟩) (meth := k2m1) (c := k2c1) (by decide +kernel) rfl rfl rfl (by decide +kernel)
set_option maxRecDepth 65536 in
theorem w_c10 : (Jvm.Cond.code ({ cls := "com/example/nehaba/nehaba/input/KeptValues", name := "seek", desc := "(II)I" } : Jvm.MethodName) prog_31_method_10_code (3 : Nat) (Option.some Jvm.ClassFile.FieldType.int)).before args0 about1 = true := code_word (m := ⟨2, 8⟩) (meth := k2m8) (c := k2c8) (by decide +kernel) rfl rfl rfl (by decide +kernel)
set_option maxRecDepth 65536 in
theorem w_c11 : (Jvm.Cond.code ({ cls := "com/example/nehaba/nehaba/input/KeptValues", name := "after", desc := "(I)I" } : Jvm.MethodName) prog_31_method_11_code (2 : Nat) (Option.some Jvm.ClassFile.FieldType.int)).before args0 about1 = true := code_word (m := ⟨2, 9⟩) (meth := k2m9) (c := k2c9) (by decide +kernel) rfl rfl rfl (by decide +kernel)
set_option maxRecDepth 65536 in
theorem w_c12 : (Jvm.Cond.code ({ cls := "com/example/nehaba/nehaba/input/KeptValues", name := "holds", desc := "(I)Z" } : Jvm.MethodName) prog_31_method_4_code (2 : Nat) (Option.some Jvm.ClassFile.FieldType.boolean)).before args0 about1 = true := code_word (m := ⟨2, 3⟩) (meth := k2m3) (c := k2c3) (by decide +kernel) rfl rfl rfl (by decide +kernel)
set_option maxRecDepth 65536 in
theorem w_c13 : (Jvm.Cond.code ({ cls := "com/example/nehaba/nehaba/input/KeptValues", name := "key", desc := "(I)Ljava/lang/Object;" } : Jvm.MethodName) prog_31_method_5_code (2 : Nat) (Option.some (Jvm.ClassFile.FieldType.object "java/lang/Object"))).before args0 about1 = true := code_word (m := ⟨2, 4⟩) (meth := k2m4) (c := k2c4) (by decide +kernel) rfl rfl rfl (by decide +kernel)
set_option maxRecDepth 65536 in
theorem w_c14 : (Jvm.Cond.code ({ cls := "com/example/nehaba/nehaba/input/KeptValues", name := "value", desc := "(I)Ljava/lang/Object;" } : Jvm.MethodName) prog_31_method_6_code (2 : Nat) (Option.some (Jvm.ClassFile.FieldType.object "java/lang/Object"))).before args0 about1 = true := code_word (m := ⟨2, 5⟩) (meth := k2m5) (c := k2c5) (by decide +kernel) rfl rfl rfl (by decide +kernel)
set_option maxRecDepth 65536 in
theorem w_c15 : (Jvm.Cond.code ({ cls := "com/example/nehaba/nehaba/input/KeptValues", name := "next", desc := "(II)I" } : Jvm.MethodName) prog_31_method_3_code (3 : Nat) (Option.some Jvm.ClassFile.FieldType.int)).before args0 about1 = true := code_word (m := ⟨2, 2⟩) (meth := k2m2) (c := k2c2) (by decide +kernel) rfl rfl rfl (by decide +kernel)
def codes1 : List Jvm.Cond := [Jvm.Cond.code x code maxLocals ret, Jvm.Cond.code ({ cls := "com/example/nehaba/nehaba/input/KeptValues", name := "<init>", desc := "(I)V" } : Jvm.MethodName) prog_31_method_1_code (3 : Nat) (Option.none : Option Jvm.ClassFile.FieldType), Jvm.Cond.code ({ cls := "java/lang/Object", name := "<init>", desc := "()V" } : Jvm.MethodName) object_method_1_code (1 : Nat) (Option.none : Option Jvm.ClassFile.FieldType), Jvm.Cond.code ({ cls := "java/lang/Integer", name := "highestOneBit", desc := "(I)I" } : Jvm.MethodName) jdk_33_method_45_code (1 : Nat) (Option.some Jvm.ClassFile.FieldType.int), Jvm.Cond.code ({ cls := "java/lang/Integer", name := "numberOfLeadingZeros", desc := "(I)I" } : Jvm.MethodName) jdk_33_method_47_code (2 : Nat) (Option.some Jvm.ClassFile.FieldType.int), Jvm.Cond.code ({ cls := "com/example/nehaba/nehaba/input/KeptValues", name := "put", desc := "(ILjava/lang/Object;Ljava/lang/Object;)Ljava/lang/Object;" } : Jvm.MethodName) prog_31_method_7_code (5 : Nat) (Option.some (Jvm.ClassFile.FieldType.object "java/lang/Object")), Jvm.Cond.code ({ cls := "com/example/nehaba/nehaba/input/KeptValues", name := "first", desc := "(I)I" } : Jvm.MethodName) prog_31_method_9_code (2 : Nat) (Option.some Jvm.ClassFile.FieldType.int), Jvm.Cond.code ({ cls := "java/util/Arrays", name := "fill", desc := "([Ljava/lang/Object;Ljava/lang/Object;)V" } : Jvm.MethodName) jdk_65_method_117_code (4 : Nat) (Option.none : Option Jvm.ClassFile.FieldType), Jvm.Cond.code ({ cls := "com/example/nehaba/nehaba/input/KeptValuesPutPinLaw", name := "find", desc := "(Lcom/example/nehaba/nehaba/input/KeptValues;ILjava/lang/Object;)Ljava/lang/Object;" } : Jvm.MethodName) method_3_code (4 : Nat) (Option.some (Jvm.ClassFile.FieldType.object "java/lang/Object")), Jvm.Cond.code ({ cls := "com/example/nehaba/nehaba/input/KeptValues", name := "place", desc := "(I)I" } : Jvm.MethodName) prog_31_method_2_code (2 : Nat) (Option.some Jvm.ClassFile.FieldType.int), Jvm.Cond.code ({ cls := "com/example/nehaba/nehaba/input/KeptValues", name := "seek", desc := "(II)I" } : Jvm.MethodName) prog_31_method_10_code (3 : Nat) (Option.some Jvm.ClassFile.FieldType.int), Jvm.Cond.code ({ cls := "com/example/nehaba/nehaba/input/KeptValues", name := "after", desc := "(I)I" } : Jvm.MethodName) prog_31_method_11_code (2 : Nat) (Option.some Jvm.ClassFile.FieldType.int), Jvm.Cond.code ({ cls := "com/example/nehaba/nehaba/input/KeptValues", name := "holds", desc := "(I)Z" } : Jvm.MethodName) prog_31_method_4_code (2 : Nat) (Option.some Jvm.ClassFile.FieldType.boolean), Jvm.Cond.code ({ cls := "com/example/nehaba/nehaba/input/KeptValues", name := "key", desc := "(I)Ljava/lang/Object;" } : Jvm.MethodName) prog_31_method_5_code (2 : Nat) (Option.some (Jvm.ClassFile.FieldType.object "java/lang/Object")), Jvm.Cond.code ({ cls := "com/example/nehaba/nehaba/input/KeptValues", name := "value", desc := "(I)Ljava/lang/Object;" } : Jvm.MethodName) prog_31_method_6_code (2 : Nat) (Option.some (Jvm.ClassFile.FieldType.object "java/lang/Object")), Jvm.Cond.code ({ cls := "com/example/nehaba/nehaba/input/KeptValues", name := "next", desc := "(II)I" } : Jvm.MethodName) prog_31_method_3_code (3 : Nat) (Option.some Jvm.ClassFile.FieldType.int)]
set_option maxRecDepth 65536 in
theorem codes_eq : words1.filter isCode = codes1 := rfl
theorem w_codes : ∀ c ∈ words1.filter isCode, c.before args0 about1 = true := by
  rw [codes_eq]
  intro c hc
  simp only [codes1, List.mem_cons, List.not_mem_nil, or_false] at hc
  rcases hc with rfl | rfl | rfl | rfl | rfl | rfl | rfl | rfl | rfl | rfl | rfl | rfl | rfl | rfl | rfl | rfl
  · exact w_c0
  · exact w_c1
  · exact w_c2
  · exact w_c3
  · exact w_c4
  · exact w_c5
  · exact w_c6
  · exact w_c7
  · exact w_c8
  · exact w_c9
  · exact w_c10
  · exact w_c11
  · exact w_c12
  · exact w_c13
  · exact w_c14
  · exact w_c15
set_option maxRecDepth 65536 in
theorem w_t1 : (words1.take 24).all (fun c => isCode c || c.before args0 about1) = true := by decide +kernel
set_option maxRecDepth 65536 in
theorem w_t2 : ((words1.drop 24).take 24).all (fun c => isCode c || c.before args0 about1) = true := by decide +kernel
set_option maxRecDepth 65536 in
theorem w_t3 : (((words1.drop 24).drop 24).take 24).all (fun c => isCode c || c.before args0 about1) = true := by decide +kernel
set_option maxRecDepth 65536 in
theorem w_t4 : (((words1.drop 24).drop 24).drop 24).all (fun c => isCode c || c.before args0 about1) = true := by decide +kernel
theorem w_tables : (allAtoms (Jvm.Cond.code x code maxLocals ret :: tables_1)).before args0 about1 = true := by
  rw [allAtoms_all]
  show words1.all (fun c => c.before args0 about1) = true
  refine all_split ?_ w_codes
  rw [← List.take_append_drop 24 words1, List.all_append, w_t1, ← List.take_append_drop 24 (words1.drop 24), List.all_append, w_t2, ← List.take_append_drop 24 ((words1.drop 24).drop 24), List.all_append, w_t3, w_t4]
  rfl
set_option maxRecDepth 65536 in
theorem w_case : (Jvm.Cond.and given_1 narrow_1).before args0 about1 = true := by decide +kernel
theorem w_applies : (headSpec (Jvm.Cond.code x code maxLocals ret :: tables_1) room_1).applies x e0.platform about1 = true :=
  (Spec.applies_iff w_frames).mpr ⟨w_running, w_runnable, w_alone, w_named, w_hears, w_ripe, w_room, w_tables⟩
theorem atStart : AtStart classFile x code maxLocals ret World_1 tables_1 room_1 Calls_1 rest_1 Pre_1 launch0 p0 e0 about1 theMethod args0 below0 :=
  ⟨lists_1, trivial, launch0.admits_env _ _ _, launch0.least_env, fairChoices_fair.cas, fairChoices_fair.clock, w_frames, w_args, w_heap, w_applies, trivial, trivial, w_case⟩
end start1
theorem witness_1 : WitnessClaimed_1 := ⟨start1.p0, start1.e0, start1.about1, start1.theMethod, start1.args0, start1.below0, start1.atStart⟩
end Jvm.Pilot.@@N@@
