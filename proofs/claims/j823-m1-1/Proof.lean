import JvmDerived
import JvmDerived.Pilot.@@N@@Statement
import JvmDerived.Pilot.@@N@@Code
set_option linter.unusedVariables false
set_option linter.unusedSimpArgs false
namespace Jvm.Pilot.@@N@@
open Jvm Jvm.ClassFile Sem Op Lib Jvm.Free Jvm.Stand Jvm.LawKit Jvm.RoadKit Bundle Jvm.Pilot.@@N@@.Jvm.D
section Own
variable {p : Program} {l : Launch} {e : Env} {R : Room} {s : State} {m : MethodId} {args : Array Value} {below : List Frame} {meth : Method} {c : Code} {T : State} {locs : List Loc} {cells slots cl sl : Nat} {Q : Option Value → Heap → List Loc → Prop}
/-- from the state S the invocation comes to its end, returns, and Q holds of what it returned and left -/
def Goes (p : Program) (e : Env) (below : List Frame) (s : State) (cl sl : Nat) (Q : Option Value → Heap → List Loc → Prop) (S : State) : Prop :=
  ∃ s₂ o, Steps p.tables e below S s₂ ∧ s₂.status = .running ∧ Ended s₂ below o ∧ ∃ v L, o = .returned v ∧ Q v s₂.heap L ∧ FrameEnd s o s₂ L cl sl
theorem Goes.step {S S' : State} (h : ∀ t, Steps p.tables e below S' t → Steps p.tables e below S t) (k : Goes p e below s cl sl Q S') : Goes p e below s cl sl Q S := by
  obtain ⟨s₂, o, a, b⟩ := k
  exact ⟨s₂, o, h _ a, b⟩
theorem Goes.back {S S' : State} (h : Steps p.tables e below S S') (k : Goes p e below s cl sl Q S') : Goes p e below s cl sl Q S := Goes.step (fun _ q => h.trans q) k
theorem Goes.ret (X : Stand p l e R s m args below meth c T locs cells slots) (hx : p.tables.exec = Jvm.exec) (hlk : meth.locks = false) {pc : Nat} {Ls : Array Slot} {w : Value} {t : FieldType} {i : Instr} {rest : List Value} (hret : meth.sig.returnType = some t) (hn : narrow t w = w)
    (hi : (i = .ireturn ∧ (t = .int ∨ t = .boolean ∨ t = .byte ∨ t = .char ∨ t = .short) ∧ ∃ z, w = .int z) ∨ (i = .lreturn ∧ t = .long ∧ ∃ z, w = .long z) ∨ (i = .dreturn ∧ t = .double ∧ ∃ z, w = .double z) ∨ (i = .freturn ∧ t = .float ∧ ∃ z, w = .float z) ∨ (i = .areturn ∧ t.isReference = true ∧ w.isRef = true))
    (hd : decode c.code pc = .ok (i, 1)) (hQ : Q (some w) T.heap locs) (hc : cells ≤ cl) (hs : slots ≤ sl) : Goes p e below s cl sl Q (T.setTop (mkF m pc Ls (w :: rest))) := by
  obtain ⟨fs, hr, hrun, hended, hW, hsame⟩ := X.leave (v := some w) (fun h => by rw [hret] at h; cases h) hlk
  exact ⟨_, _, retOut X hx hret hn hi hd hr, hrun, hended, _, _, rfl, hQ, ⟨_, rfl⟩, hW, hsame.mono hc hs⟩
theorem Goes.retV (X : Stand p l e R s m args below meth c T locs cells slots) (hx : p.tables.exec = Jvm.exec) (hlk : meth.locks = false) {pc : Nat} {Ls : Array Slot} (hret : meth.sig.returnType = none)
    (hd : decode c.code pc = .ok (.return_, 1)) (hQ : Q none T.heap locs) (hc : cells ≤ cl) (hs : slots ≤ sl) : Goes p e below s cl sl Q (T.setTop (mkF m pc Ls [])) := by
  obtain ⟨fs, hr, hrun, hended, hW, hsame⟩ := X.leave (v := none) (fun _ => rfl) hlk
  exact ⟨_, _, X.returnOut hx hret hd hr, hrun, hended, _, _, rfl, hQ, ⟨_, rfl⟩, hW, hsame.mono hc hs⟩
theorem own_eqInt {args : Array Value} {s : State} {t : Term} {k : Int32} (h : (Cond.eq t (.int k)).value args s none s [] = some true) : t.eval args s none [] s = some (.int k) := by
  obtain ⟨x, y, hx, hy, -, k2⟩ := cmp_v (Or.inl h)
  obtain rfl : y = .int k := (Option.some.inj hy).symm
  obtain ⟨z, rfl⟩ := k2
  have e : (Cond.eq t (.int k)).value args s none s [] = some (decide (z = k)) := by simp [Cond.value, hx, hy]
  rw [hx, gotT e h]
theorem own_eqLong {args : Array Value} {s : State} {t : Term} {k : Int64} (h : (Cond.eq t (.long k)).value args s none s [] = some true) : t.eval args s none [] s = some (.long k) := by
  obtain ⟨x, y, hx, hy, -, k2⟩ := cmp_v (Or.inl h)
  obtain rfl : y = .long k := (Option.some.inj hy).symm
  obtain ⟨z, rfl⟩ := k2
  rw [hx, gotT (eq_L hx hy) h]
theorem own_neFld {Z : State} {h : Heap} {a b : Addr} {C n d : String} {x y : Int32} (F : Fld Z h a C n d (.int x)) (G : Fld Z h b C n d (.int y)) (q : x ≠ y) : a ≠ b := fun e => by
  subst e
  obtain ⟨cell, cf, k, i, f, h1, h2, -, -, -, -, h7⟩ := F
  obtain ⟨cell', cf', k', i', f', g1, g2, -, -, -, -, g7⟩ := G
  cases h1.symm.trans g1
  cases h2.symm.trans g2
  rw [h7] at g7
  injection g7 with g8
  injection g8 with g9
  exact q g9
theorem own_miss1 {k : Int32} {a : Int} (b : Int32) (hb : b.toInt = a) (h : ¬ k = b) : a ≠ k.toInt := fun q => h (Int32.toInt_inj.mp (by rw [hb, q]))
theorem own_find3 {k : Int32} {a b c' o1 o2 o3 : Int} {a' b' d' : Int32} (ha : ¬ k = a') (hb : ¬ k = b') (hc : ¬ k = d') (ea : a'.toInt = a := by rfl) (eb : b'.toInt = b := by rfl) (ec : d'.toInt = c' := by rfl) : (#[(a, o1), (b, o2), (c', o3)] : Array (Int × Int)).find? (·.1 == k.toInt) = none :=
  find_miss fun p hp => by
    simp only [List.mem_cons, List.not_mem_nil, or_false] at hp
    rcases hp with rfl | rfl | rfl
    · exact own_miss1 _ ea ha
    · exact own_miss1 _ eb hb
    · exact own_miss1 _ ec hc
theorem own_insKeep {Z : State} {h h' : Heap} {a : Addr} {C : String} {b : Bool} {ws : List Addr} (F : Ins Z h a C b) (K : Keep h h' ws) : Ins Z h' a C b := by
  obtain ⟨cell, cT, h1, h2, h3⟩ := F
  obtain ⟨c', q, r1, r2, r3⟩ := K.2.2 a cell h1
  exact ⟨c', cT, q, h2, by rw [r1, r2]; exact h3⟩
theorem own_insLt {Z : State} {h : Heap} {a : Addr} {C : String} {b : Bool} (F : Ins Z h a C b) : a < h.size := by
  obtain ⟨cell, cT, h1, -⟩ := F
  exact (Array.getElem?_eq_some_iff.mp h1).1
theorem own_cat {v : Value} (h : v.isRef = true) : v.category = 1 := by cases v <;> first | rfl | (simp [Value.isRef] at h)
theorem own_nar {ty : FieldType} {v : Value} (h : v.isRef = true) : narrow ty v = v := by cases v <;> first | (simp [Value.isRef] at h; done) | (cases ty <;> rfl)
theorem own_fit {C : String} {v : Value} (h : v.isRef = true) : fits (.object C) v = true := by cases v <;> first | rfl | (simp [Value.isRef] at h)
/-- a private method is selected by its own type, which is no interface since another method of it is selected -/
theorem own_selPriv {s : State} {args : Array Value} {C : String} {x z y : MethodName} (w : (Cond.selects C x z).before args s = true) (hc : z.cls = y.cls) (hp : (Cond.privateMethod y).before args s = true) (hi : (Cond.instanceMethod y).before args s = true)
    (hy : y.cls ≠ "java/lang/invoke/MethodHandle" ∧ y.cls ≠ "java/lang/invoke/VarHandle") : (Cond.selects y.cls y y).before args s = true := by
  obtain ⟨c2, r2, m2, -, -, q3, -, kP, hkP, hkPi⟩ := Cond.selects_spec w
  have hf := findClass_of_methodNamed q3
  rw [hc] at hf
  exact selects_self_of_private hf hkP hkPi (Cond.privateMethod_at hp) hi hy
/-- an array whose contents aren't told -/
def Arx (Z : State) (h : Heap) (a : Addr) (k : ClassId) (ty : FieldType) (n : Int32) : Prop :=
  ∃ cl : Cell, Arr Z h a cl ty ∧ cl.cls = k ∧ cl.slots.size = n.toNatClampNeg ∧ ¬ n < 0 ∧ ∀ i, i < cl.slots.size → ∃ v, cl.slots[i]? = some v ∧ fits ty v = true
theorem Arx.lt {Z : State} {h : Heap} {a : Addr} {k : ClassId} {ty : FieldType} {n : Int32} (F : Arx Z h a k ty n) : a < h.size := by obtain ⟨cl, A, -⟩ := F; exact A.lt
theorem Arx.ext {Z : State} {h h' : Heap} {a : Addr} {k : ClassId} {ty : FieldType} {n : Int32} (F : Arx Z h a k ty n) (E : Ext h h') : Arx Z h' a k ty n := by obtain ⟨cl, A, r⟩ := F; exact ⟨cl, A.ext E, r⟩
theorem Arx.other {Z : State} {h h' : Heap} {a b : Addr} {k : ClassId} {ty : FieldType} {n : Int32} {sl : Nat} {v : Value} (F : Arx Z h b k ty n) (W : Wr h h' a sl v) (q : b ≠ a) : Arx Z h' b k ty n := by obtain ⟨cl, A, r⟩ := F; exact ⟨cl, A.other W q, r⟩
theorem Arx.keep {Z : State} {h h' : Heap} {a : Addr} {k : ClassId} {ty : FieldType} {n : Int32} {ws : List Addr} (F : Arx Z h a k ty n) (K : Keep h h' ws) (q : a ∉ ws) : Arx Z h' a k ty n := by obtain ⟨cl, A, r⟩ := F; exact ⟨cl, ⟨K.2.1 a cl A.1 q, A.2⟩, r⟩
theorem Arx.set {Z : State} {h h' : Heap} {a : Addr} {k : ClassId} {ty : FieldType} {n : Int32} {cl : Cell} {sl : Nat} {v : Value} (A : Arr Z h a cl ty) (q1 : cl.cls = k) (S : cl.slots.size = n.toNatClampNeg) (P : ¬ n < 0) (G : ∀ i, i < cl.slots.size → ∃ v, cl.slots[i]? = some v ∧ fits ty v = true) (hv : fits ty v = true) (W : Wr h h' a sl v) : Arx Z h' a k ty n := by
  refine ⟨_, A.same W, q1, by rw [sz_set]; exact S, P, fun i hi => ?_⟩
  rw [sz_set] at hi
  by_cases u : sl = i
  · subst u
    exact ⟨v, by simp [Cell.setSlot, hi], hv⟩
  · obtain ⟨w, e1, e2⟩ := G i hi
    refine ⟨w, ?_, e2⟩
    show (cl.slots.setIfInBounds sl v)[i]? = some w
    rw [Array.getElem?_setIfInBounds_ne u]
    exact e1
theorem own_arx {Z : State} {h : Heap} {a : Addr} {k : ClassId} {ty : FieldType} {n : Int32} {vs : List Value} {d : Value} (F : Arv Z h a k ty n vs d) : Arx Z h a k ty n := by
  obtain ⟨cl, A, r1, r2, r3, H, G⟩ := F
  exact ⟨cl, A, r1, r2, r3, fun i hi => ⟨_, H i hi, G i hi⟩⟩
theorem own_arI {cl : Cell} {j : Int32} (G : ∀ i, i < cl.slots.size → ∃ v, cl.slots[i]? = some v ∧ fits .int v = true) (hin : ¬ (j < 0 ∨ cl.slots.size ≤ j.toNatClampNeg)) : ∃ x : Int32, cl.slots[j.toNatClampNeg]? = some (.int x) := by
  obtain ⟨v, e1, e2⟩ := G _ (Nat.lt_of_not_le fun q => hin (Or.inr q))
  obtain ⟨x, rfl⟩ := fit_I e2 (Or.inl rfl)
  exact ⟨x, e1⟩
theorem own_arD {cl : Cell} {j : Int32} (G : ∀ i, i < cl.slots.size → ∃ v, cl.slots[i]? = some v ∧ fits .double v = true) (hin : ¬ (j < 0 ∨ cl.slots.size ≤ j.toNatClampNeg)) : ∃ x, cl.slots[j.toNatClampNeg]? = some (.double x) := by
  obtain ⟨v, e1, e2⟩ := G _ (Nat.lt_of_not_le fun q => hin (Or.inr q))
  obtain ⟨x, rfl⟩ := fit_D e2
  exact ⟨x, e1⟩
end Own
theorem own_arx0 {s : State} {args : Array Value} {t : Term} {a : Addr} {cl : Cell} {ty : FieldType} {n : Int32} (hfit : Fit s) (et : t.eval args s none [] s = some (.ref a)) (A : Arr s s.heap a cl ty) (hl : (Term.length t).eval args s none [] s = some (.int n)) (hn : ¬ n < 0) : Arx s s.heap a cl.cls ty n := by
  obtain ⟨x, c2, e1, e2, e4, e3⟩ := Jvm.Free.SB.Term.length_small hl
  cases et.symm.trans e1
  cases (A.fin (Vm.Alike.refl _)).symm.trans e2
  injection e4 with e5
  have hs : cl.slots.size = n.toNatClampNeg := by
    rw [e5]
    simp only [Int32.toNatClampNeg, len_toInt e3]
    rfl
  refine ⟨cl, A, rfl, hs, hn, fun i hi => ?_⟩
  have hq : ¬ (i.toInt32 < 0 ∨ cl.slots.size ≤ i.toInt32.toNatClampNeg) := idx_in hi e3
  obtain ⟨v, r1, r2⟩ := elem_fit hfit A hq
  refine ⟨v, ?_, r2⟩
  have hi2 : i.toInt32.toNatClampNeg = i := by simp only [Int32.toNatClampNeg, len_toInt (Nat.lt_trans hi e3)]; rfl
  rw [hi2] at r1
  exact r1
section OwnHeap
theorem own_b53 (x : Int32) : B53 x.toInt64 := by
  have h1 := x.toInt_lt
  have h2 := x.le_toInt
  have e := Int32.toInt_toInt64 x
  exact ⟨by omega, by omega⟩
theorem own_dlt (x y : Int32) (o : CmpOp) : cmpValue (FP.dcmp (FP.i2d x) (FP.i2d y)) o < 0 ↔ x < y := by
  rw [i2d_w, i2d_w, dcmpV_w (own_b53 x) (own_b53 y), lw_lt, Int64.lt_iff_toInt_lt, Int32.lt_iff_toInt_lt, Int32.toInt_toInt64, Int32.toInt_toInt64]
theorem own_dgt (x y : Int32) (o : CmpOp) : 0 < cmpValue (FP.dcmp (FP.i2d x) (FP.i2d y)) o ↔ y < x := by
  rw [i2d_w, i2d_w, dcmpV_w (own_b53 x) (own_b53 y), lw_gt, Int64.lt_iff_toInt_lt, Int32.lt_iff_toInt_lt, Int32.toInt_toInt64, Int32.toInt_toInt64]
theorem own_l {x y : Int32} (h : x < y) : x.toInt < y.toInt := Int32.lt_iff_toInt_lt.mp h
theorem own_nl {x y : Int32} (h : ¬ (x < y)) : y.toInt ≤ x.toInt := Int.not_lt.mp fun q => h (Int32.lt_iff_toInt_lt.mpr q)
theorem own_gel {x y : Int32} (h : x.toInt ≤ y.toInt) : ¬ (y < x) := fun q => absurd (Int32.lt_iff_toInt_lt.mp q) (Int.not_lt.mpr h)
theorem own_subK (b i : Int32) : b + i - b = i := by rw [Int32.add_comm, Int32.add_sub_cancel]
theorem own_one {b n t k0 k1 k2 k3 k4 k5 : Int32} (h : (n, t) ∈ ([(b + (5 : Int32), k5), (b + (4 : Int32), k4), (b + (3 : Int32), k3), (b + (2 : Int32), k2), (b + (1 : Int32), k1), (b, k0)] : List (Int32 × Int32))) : ¬ ((n - b) < (0 : Int32)) ∧ (n - b) < (6 : Int32) ∧ ([(.int k0), (.int k1), (.int k2), (.int k3), (.int k4), (.int k5)] : List Value).getD (n - b).toNatClampNeg (.int (0 : Int32)) = (.int t) := by
  simp only [List.mem_cons, List.not_mem_nil, or_false, Prod.mk.injEq] at h
  rcases h with ⟨rfl, rfl⟩ | ⟨rfl, rfl⟩ | ⟨rfl, rfl⟩ | ⟨rfl, rfl⟩ | ⟨rfl, rfl⟩ | ⟨rfl, rfl⟩
  · rw [own_subK]; exact ⟨by decide, by decide, rfl⟩
  · rw [own_subK]; exact ⟨by decide, by decide, rfl⟩
  · rw [own_subK]; exact ⟨by decide, by decide, rfl⟩
  · rw [own_subK]; exact ⟨by decide, by decide, rfl⟩
  · rw [own_subK]; exact ⟨by decide, by decide, rfl⟩
  · rw [Int32.sub_self]; exact ⟨by decide, by decide, rfl⟩
def own_g (b : Int32) (z : Int32 × Int32) : Int32 := (1 : Int32) <<< ((z.1 - b) &&& 31)
theorem own_orP {b : Int32} {l m : List (Int32 × Int32)} (h : l.Perm m) : ∀ a : Int32, l.foldl (fun a z => a ||| own_g b z) a = m.foldl (fun a z => a ||| own_g b z) a := by
  induction h with
  | nil => intro a; rfl
  | cons x _ ih => intro a; exact ih _
  | swap x y l =>
    intro a
    have e : a ||| own_g b y ||| own_g b x = a ||| own_g b x ||| own_g b y := by rw [Int32.or_assoc, Int32.or_comm (own_g b y), ← Int32.or_assoc]
    show List.foldl _ (a ||| own_g b y ||| own_g b x) l = List.foldl _ (a ||| own_g b x ||| own_g b y) l
    rw [e]
  | trans _ _ ih1 ih2 => intro a; rw [ih1, ih2]
theorem own_seen {b k0 k1 k2 k3 k4 k5 n0 n1 n2 n3 n4 n5 t0 t1 t2 t3 t4 t5 : Int32} (h : ([(n0, t0), (n1, t1), (n2, t2), (n3, t3), (n4, t4), (n5, t5)] : List (Int32 × Int32)).Perm ([(b + (5 : Int32), k5), (b + (4 : Int32), k4), (b + (3 : Int32), k3), (b + (2 : Int32), k2), (b + (1 : Int32), k1), (b, k0)] : List (Int32 × Int32))) : (((((((1 : Int32) <<< ((n0 - b) &&& 31)) ||| ((1 : Int32) <<< ((n1 - b) &&& 31))) ||| ((1 : Int32) <<< ((n2 - b) &&& 31))) ||| ((1 : Int32) <<< ((n3 - b) &&& 31))) ||| ((1 : Int32) <<< ((n4 - b) &&& 31))) ||| ((1 : Int32) <<< ((n5 - b) &&& 31))) = (63 : Int32) := by
  have q := own_orP (b := b) h 0
  have g5 : own_g b (b + (5 : Int32), k5) = 32 := by
    show (1 : Int32) <<< ((b + (5 : Int32) - b) &&& 31) = 32
    rw [own_subK]; decide
  have g4 : own_g b (b + (4 : Int32), k4) = 16 := by
    show (1 : Int32) <<< ((b + (4 : Int32) - b) &&& 31) = 16
    rw [own_subK]; decide
  have g3 : own_g b (b + (3 : Int32), k3) = 8 := by
    show (1 : Int32) <<< ((b + (3 : Int32) - b) &&& 31) = 8
    rw [own_subK]; decide
  have g2 : own_g b (b + (2 : Int32), k2) = 4 := by
    show (1 : Int32) <<< ((b + (2 : Int32) - b) &&& 31) = 4
    rw [own_subK]; decide
  have g1 : own_g b (b + (1 : Int32), k1) = 2 := by
    show (1 : Int32) <<< ((b + (1 : Int32) - b) &&& 31) = 2
    rw [own_subK]; decide
  have g0 : own_g b (b, k0) = 1 := by
    show (1 : Int32) <<< ((b - b) &&& 31) = 1
    rw [Int32.sub_self]; decide
  have q2 : (0 : Int32) ||| own_g b (n0, t0) ||| own_g b (n1, t1) ||| own_g b (n2, t2) ||| own_g b (n3, t3) ||| own_g b (n4, t4) ||| own_g b (n5, t5) = (0 : Int32) ||| own_g b (b + (5 : Int32), k5) ||| own_g b (b + (4 : Int32), k4) ||| own_g b (b + (3 : Int32), k3) ||| own_g b (b + (2 : Int32), k2) ||| own_g b (b + (1 : Int32), k1) ||| own_g b (b, k0) := q
  rw [g5, g4, g3, g2, g1, g0, Int32.zero_or] at q2
  exact q2.trans (by decide)
end OwnHeap
theorem d1_0 : decode method_2_code 0 = .ok (.iload_n 0, 1) := by decide +kernel
theorem d1_1 : decode method_2_code 1 = .ok (.iconst 3, 1) := by decide +kernel
theorem d1_2 : decode method_2_code 2 = .ok (.iload_n 1, 1) := by decide +kernel
theorem d1_3 : decode method_2_code 3 = .ok (.imul, 1) := by decide +kernel
theorem d1_4 : decode method_2_code 4 = .ok (.iushr, 1) := by decide +kernel
theorem d1_5 : decode method_2_code 5 = .ok (.bipush 7, 2) := by decide +kernel
theorem d1_7 : decode method_2_code 7 = .ok (.iand, 1) := by decide +kernel
theorem d1_8 : decode method_2_code 8 = .ok (.iconst 3, 1) := by decide +kernel
theorem d1_9 : decode method_2_code 9 = .ok (.isub, 1) := by decide +kernel
theorem d1_10 : decode method_2_code 10 = .ok (.ireturn, 1) := by decide +kernel
theorem pn_1 : plainName "com/example/hailwise/hailwise/NodeQueuePollPinLaw" = true := by first | (simp [plainName, overriddenIn]; done) | decide +kernel
theorem ef_1 (m : MethodId) (x0 : Int32) (x1 : Int32)  : entryFrame m #[(.int x0), (.int x1)] 2 = mkF m 0 #[.val (.int x0), .val (.int x1)] [] := by first | (simp [entryFrame, mkF, argsToLocals, Value.category]; done) | rfl
def Q1 (Z : State) (x0 : Int32) (x1 : Int32) (h0 : Heap) (n0 : Nat) (v : Option Value) (h : Heap) (L : List Loc) : Prop := Fr n0 L ∧ h = h0 ∧ ((∃ (rv : Int32), v = some (.int rv)))
set_option maxRecDepth 65536 in
set_option maxHeartbeats 40000000 in
theorem rm1 (l : Launch) (Z : State) (a0 : Array Value) (hw : ∀ d ∈ tables_1, d.before a0 Z = true) (ws : List Jvm.Cond) (x0 : Int32) (x1 : Int32) (h0 : Heap) (n0 : Nat) (Z0 : n0 ≤ h0.size) :
    MetFree l (⟨"com/example/hailwise/hailwise/NodeQueuePollPinLaw", "kk", "(II)I"⟩ : MethodName) (head1 (Jvm.Cond.code (⟨"com/example/hailwise/hailwise/NodeQueuePollPinLaw", "kk", "(II)I"⟩ : MethodName) method_2_code 2 (some .int) :: ws) ({ frames := 0, cells := 0, slots := 0, locals := 0 } : Room)) (fun a U => a = #[(.int x0), (.int x1)] ∧ Z.Warmed39 U.vm ∧ U.heap = h0) (fun _ _ _ _ _ => True) (fun _ U o U' => ∃ v L, o = .returned v ∧ Q1 Z x0 x1 h0 n0 v U'.heap L ∧ FrameEnd U o U' L ({ frames := 0, cells := 0, slots := 0, locals := 0 } : Room).cells ({ frames := 0, cells := 0, slots := 0, locals := 0 } : Room).slots) := by
  refine MetFree.of_bodySF (plainFor_of_name pn_1) hisR ?_
  intro p e s m args below meth c s₁ Bd hml0 hP hK
  obtain ⟨rfl, hZ, hh⟩ := hP
  have hx := Bd.exec
  have hby := Bd.bytes
  have hml : c.maxLocals = 2 := hml0
  have hown : s.vm.findClass "com/example/hailwise/hailwise/NodeQueuePollPinLaw" = some m.cls := findClass_of_methodNamed Bd.named
  have hnm := (name_of_methodNamed Bd.named Bd.method).1
  have X0 : Stand p l e ({ frames := 0, cells := 0, slots := 0, locals := 0 } : Room) s m #[(.int x0), (.int x1)] below meth c s₁ [] 0 0 := Stand.of_body Bd
  have e0 : s₁.heap = h0 := by rw [← hh, Bd.state]; rfl
  have N0 := Fr.nil n0
  have K0 : Keep h0 h0 [] := Keep.refl h0 _
  refine (?_ : Goes p e below s ({ frames := 0, cells := 0, slots := 0, locals := 0 } : Room).cells ({ frames := 0, cells := 0, slots := 0, locals := 0 } : Room).slots (fun v h L => Q1 Z x0 x1 h0 n0 v h L) (s₁.setTop (entryFrame m #[(.int x0), (.int x1)] 2)))
  rw [ef_1 m x0 x1 ]
  show Goes _ _ _ _ _ _ _ (s₁.setTop (mkF m 0 #[.val (.int x0), .val (.int x1)] []))
  refine Goes.step (fun _ k => XS.iloadN X0.here hx rfl (hb hby d1_0) rfl  k) ?_
  refine Goes.step (fun _ k => XS.iconst X0.here hx rfl (hb hby d1_1) k) ?_
  refine Goes.step (fun _ k => XS.iloadN X0.here hx rfl (hb hby d1_2) rfl  k) ?_
  refine Goes.step (fun _ k => XS.imul X0.here hx rfl (hb hby d1_3) rfl k) ?_
  show Goes _ _ _ _ _ _ _ (s₁.setTop (mkF m 4 _ [(.int ((3 : Int32) * x1)), (.int x0)]))
  refine Goes.step (fun _ k => XS.iushr X0.here hx rfl (hb hby d1_4) rfl k) ?_
  show Goes _ _ _ _ _ _ _ (s₁.setTop (mkF m 5 _ [(.int ((x0.toUInt32 >>> (((3 : Int32) * x1) &&& 31).toUInt32).toInt32))]))
  refine Goes.step (fun _ k => XS.bipush X0.here hx rfl (hb hby d1_5) k) ?_
  refine Goes.step (fun _ k => XS.iand X0.here hx rfl (hb hby d1_7) rfl k) ?_
  show Goes _ _ _ _ _ _ _ (s₁.setTop (mkF m 8 _ [(.int (((x0.toUInt32 >>> (((3 : Int32) * x1) &&& 31).toUInt32).toInt32) &&& (7 : Int32)))]))
  refine Goes.step (fun _ k => XS.iconst X0.here hx rfl (hb hby d1_8) k) ?_
  refine Goes.step (fun _ k => XS.isub X0.here hx rfl (hb hby d1_9) rfl k) ?_
  show Goes _ _ _ _ _ _ _ (s₁.setTop (mkF m 10 _ [(.int ((((x0.toUInt32 >>> (((3 : Int32) * x1) &&& 31).toUInt32).toInt32) &&& (7 : Int32)) - (3 : Int32)))]))
  exact Goes.ret X0 hx (BodyLoose.notSynchronized Bd) Bd.returns rfl (Or.inl ⟨rfl, by simp, _, rfl⟩) (hb hby d1_10) (by show Q1 Z x0 x1 h0 n0 (some (.int ((((x0.toUInt32 >>> (((3 : Int32) * x1) &&& 31).toUInt32).toInt32) &&& (7 : Int32)) - (3 : Int32)))) s₁.heap _; rw [e0]; exact ⟨N0, rfl, ⟨((((x0.toUInt32 >>> (((3 : Int32) * x1) &&& 31).toUInt32).toInt32) &&& (7 : Int32)) - (3 : Int32)), rfl⟩⟩) (by decide) (by decide)
theorem d6_0 : decode method_3_code 0 = .ok (.iload_n 0, 1) := by decide +kernel
theorem d6_1 : decode method_3_code 1 = .ok (.ifCond .lt 13, 3) := by decide +kernel
theorem d6_4 : decode method_3_code 4 = .ok (.iload_n 0, 1) := by decide +kernel
theorem d6_5 : decode method_3_code 5 = .ok (.bipush 6, 2) := by decide +kernel
theorem d6_7 : decode method_3_code 7 = .ok (.if_icmp .ge 7, 3) := by decide +kernel
theorem d6_10 : decode method_3_code 10 = .ok (.iconst 1, 1) := by decide +kernel
theorem d6_11 : decode method_3_code 11 = .ok (.goto 4, 3) := by decide +kernel
theorem d6_14 : decode method_3_code 14 = .ok (.iconst 0, 1) := by decide +kernel
theorem d6_15 : decode method_3_code 15 = .ok (.ireturn, 1) := by decide +kernel
theorem pn_6 : plainName "com/example/hailwise/hailwise/NodeQueuePollPinLaw" = true := by first | (simp [plainName, overriddenIn]; done) | decide +kernel
theorem ef_6 (m : MethodId) (x0 : Int32)  : entryFrame m #[(.int x0)] 1 = mkF m 0 #[.val (.int x0)] [] := by first | (simp [entryFrame, mkF, argsToLocals, Value.category]; done) | rfl
def Q6 (Z : State) (x0 : Int32) (h0 : Heap) (n0 : Nat) (v : Option Value) (h : Heap) (L : List Loc) : Prop := Fr n0 L ∧ h = h0 ∧ ((v = some (.int (0 : Int32)) ∧ x0 < (0 : Int32)) ∨ (v = some (.int (1 : Int32)) ∧ ¬ (x0 < (0 : Int32)) ∧ x0 < (6 : Int32)) ∨ (v = some (.int (0 : Int32)) ∧ ¬ (x0 < (0 : Int32)) ∧ ¬ (x0 < (6 : Int32))))
set_option maxRecDepth 65536 in
set_option maxHeartbeats 40000000 in
theorem rm6 (l : Launch) (Z : State) (a0 : Array Value) (hw : ∀ d ∈ tables_1, d.before a0 Z = true) (ws : List Jvm.Cond) (x0 : Int32) (h0 : Heap) (n0 : Nat) (Z0 : n0 ≤ h0.size) :
    MetFree l (⟨"com/example/hailwise/hailwise/NodeQueuePollPinLaw", "in", "(I)Z"⟩ : MethodName) (head1 (Jvm.Cond.code (⟨"com/example/hailwise/hailwise/NodeQueuePollPinLaw", "in", "(I)Z"⟩ : MethodName) method_3_code 1 (some .boolean) :: ws) ({ frames := 0, cells := 0, slots := 0, locals := 0 } : Room)) (fun a U => a = #[(.int x0)] ∧ Z.Warmed39 U.vm ∧ U.heap = h0) (fun _ _ _ _ _ => True) (fun _ U o U' => ∃ v L, o = .returned v ∧ Q6 Z x0 h0 n0 v U'.heap L ∧ FrameEnd U o U' L ({ frames := 0, cells := 0, slots := 0, locals := 0 } : Room).cells ({ frames := 0, cells := 0, slots := 0, locals := 0 } : Room).slots) := by
  refine MetFree.of_bodySF (plainFor_of_name pn_6) hisR ?_
  intro p e s m args below meth c s₁ Bd hml0 hP hK
  obtain ⟨rfl, hZ, hh⟩ := hP
  have hx := Bd.exec
  have hby := Bd.bytes
  have hml : c.maxLocals = 1 := hml0
  have hown : s.vm.findClass "com/example/hailwise/hailwise/NodeQueuePollPinLaw" = some m.cls := findClass_of_methodNamed Bd.named
  have hnm := (name_of_methodNamed Bd.named Bd.method).1
  have X0 : Stand p l e ({ frames := 0, cells := 0, slots := 0, locals := 0 } : Room) s m #[(.int x0)] below meth c s₁ [] 0 0 := Stand.of_body Bd
  have e0 : s₁.heap = h0 := by rw [← hh, Bd.state]; rfl
  have N0 := Fr.nil n0
  have K0 : Keep h0 h0 [] := Keep.refl h0 _
  refine (?_ : Goes p e below s ({ frames := 0, cells := 0, slots := 0, locals := 0 } : Room).cells ({ frames := 0, cells := 0, slots := 0, locals := 0 } : Room).slots (fun v h L => Q6 Z x0 h0 n0 v h L) (s₁.setTop (entryFrame m #[(.int x0)] 1)))
  rw [ef_6 m x0 ]
  show Goes _ _ _ _ _ _ _ (s₁.setTop (mkF m 0 #[.val (.int x0)] []))
  refine Goes.step (fun _ k => XS.iloadN X0.here hx rfl (hb hby d6_0) rfl  k) ?_
  by_cases c1_1 : x0 < (0 : Int32)
  · refine Goes.step (fun _ k => XS.ifYes X0.here hx rfl (pc0 := 1) (pc' := 14) rfl (hb hby d6_1) rfl ((if0 _ _).trans (tlt c1_1).1) (by decide) (by decide) k) ?_
    show Goes _ _ _ _ _ _ _ (s₁.setTop (mkF m 14 _ []))
    refine Goes.step (fun _ k => XS.iconst X0.here hx rfl (hb hby d6_14) k) ?_
    exact Goes.ret X0 hx (BodyLoose.notSynchronized Bd) Bd.returns rfl (Or.inl ⟨rfl, by simp, _, rfl⟩) (hb hby d6_15) (by show Q6 Z x0 h0 n0 (some (.int (0 : Int32))) s₁.heap _; rw [e0]; exact ⟨N0, rfl, Or.inl (⟨rfl, c1_1⟩)⟩) (by decide) (by decide)
  · refine Goes.step (fun _ k => XS.ifNo X0.here hx rfl (hb hby d6_1) rfl ((if0 _ _).trans (flt c1_1).1) k) ?_
    show Goes _ _ _ _ _ _ _ (s₁.setTop (mkF m 4 _ []))
    refine Goes.step (fun _ k => XS.iloadN X0.here hx rfl (hb hby d6_4) rfl  k) ?_
    refine Goes.step (fun _ k => XS.bipush X0.here hx rfl (hb hby d6_5) k) ?_
    by_cases c7_2 : x0 < (6 : Int32)
    · refine Goes.step (fun _ k => XS.icmpNo X0.here hx rfl (hb hby d6_7) rfl (tlt c7_2).2.1 k) ?_
      show Goes _ _ _ _ _ _ _ (s₁.setTop (mkF m 10 _ []))
      refine Goes.step (fun _ k => XS.iconst X0.here hx rfl (hb hby d6_10) k) ?_
      refine Goes.step (fun _ k => XS.goto X0.here hx rfl (pc0 := 11) (pc' := 15) rfl (hb hby d6_11) (by decide) (by decide) k) ?_
      show Goes _ _ _ _ _ _ _ (s₁.setTop (mkF m 15 _ [(.int (1 : Int32))]))
      exact Goes.ret X0 hx (BodyLoose.notSynchronized Bd) Bd.returns rfl (Or.inl ⟨rfl, by simp, _, rfl⟩) (hb hby d6_15) (by show Q6 Z x0 h0 n0 (some (.int (1 : Int32))) s₁.heap _; rw [e0]; exact ⟨N0, rfl, Or.inr (Or.inl (⟨rfl, c1_1, c7_2⟩))⟩) (by decide) (by decide)
    · refine Goes.step (fun _ k => XS.icmpYes X0.here hx rfl (pc0 := 7) (pc' := 14) rfl (hb hby d6_7) rfl (flt c7_2).2.1 (by decide) (by decide) k) ?_
      show Goes _ _ _ _ _ _ _ (s₁.setTop (mkF m 14 _ []))
      refine Goes.step (fun _ k => XS.iconst X0.here hx rfl (hb hby d6_14) k) ?_
      exact Goes.ret X0 hx (BodyLoose.notSynchronized Bd) Bd.returns rfl (Or.inl ⟨rfl, by simp, _, rfl⟩) (hb hby d6_15) (by show Q6 Z x0 h0 n0 (some (.int (0 : Int32))) s₁.heap _; rw [e0]; exact ⟨N0, rfl, Or.inr (Or.inr (⟨rfl, c1_1, c7_2⟩))⟩) (by decide) (by decide)
theorem d2_0 : decode prog_21_method_1_code 0 = .ok (.aload_n 0, 1) := by decide +kernel
theorem d2_1 : decode prog_21_method_1_code 1 = .ok (.invokespecial 1, 3) := by decide +kernel
theorem d2_4 : decode prog_21_method_1_code 4 = .ok (.aload_n 0, 1) := by decide +kernel
theorem d2_5 : decode prog_21_method_1_code 5 = .ok (.bipush 64, 2) := by decide +kernel
theorem d2_7 : decode prog_21_method_1_code 7 = .ok (.newarray .int, 2) := by decide +kernel
theorem d2_9 : decode prog_21_method_1_code 9 = .ok (.putfield 7, 3) := by decide +kernel
theorem d2_12 : decode prog_21_method_1_code 12 = .ok (.aload_n 0, 1) := by decide +kernel
theorem d2_13 : decode prog_21_method_1_code 13 = .ok (.bipush 64, 2) := by decide +kernel
theorem d2_15 : decode prog_21_method_1_code 15 = .ok (.newarray .double, 2) := by decide +kernel
theorem d2_17 : decode prog_21_method_1_code 17 = .ok (.putfield 13, 3) := by decide +kernel
theorem d2_20 : decode prog_21_method_1_code 20 = .ok (.return_, 1) := by decide +kernel
theorem pn_2 : plainName "com/example/hailwise/hailwise/NodeQueue" = true := by first | (simp [plainName, overriddenIn]; done) | decide +kernel
theorem ef_2 (m : MethodId) (x0 : Addr)  : entryFrame m #[(.ref x0)] 1 = mkF m 0 #[.val (.ref x0)] [] := by first | (simp [entryFrame, mkF, argsToLocals, Value.category]; done) | rfl
def Q2 (Z : State) (x0 : Addr) (h0 : Heap) (n0 : Nat) (v : Option Value) (h : Heap) (L : List Loc) : Prop := Fr n0 L ∧ Keep h0 h [x0] ∧ ((∃ (r_0 : Addr) (r_1 : Addr) (k_0 : ClassId) (k_1 : ClassId), v = none ∧ n0 ≤ r_0 ∧ h0.size ≤ r_0 ∧ n0 ≤ r_1 ∧ h0.size ≤ r_1 ∧ r_1 ≠ r_0 ∧ Fld Z h x0 "com/example/hailwise/hailwise/NodeQueue" "nodes" "[I" (.ref r_0) ∧ Fld Z h x0 "com/example/hailwise/hailwise/NodeQueue" "keys" "[D" (.ref r_1) ∧ Fld Z h x0 "com/example/hailwise/hailwise/NodeQueue" "size" "I" (.int (0 : Int32)) ∧ Exa Z h x0 "com/example/hailwise/hailwise/NodeQueue" ∧ Arv Z h r_0 k_0 .int (64 : Int32) [(.int (0 : Int32)), (.int (0 : Int32)), (.int (0 : Int32)), (.int (0 : Int32)), (.int (0 : Int32)), (.int (0 : Int32))] (.int (0 : Int32)) ∧ Arv Z h r_1 k_1 .double (64 : Int32) [(.double (0 : UInt64)), (.double (0 : UInt64)), (.double (0 : UInt64)), (.double (0 : UInt64)), (.double (0 : UInt64)), (.double (0 : UInt64))] (.double (0 : UInt64))))
set_option maxRecDepth 65536 in
set_option maxHeartbeats 40000000 in
theorem rm2 (l : Launch) (Z : State) (a0 : Array Value) (hw : ∀ d ∈ tables_1, d.before a0 Z = true) (ws : List Jvm.Cond) (x0 : Addr) (h0 : Heap) (n0 : Nat) (Z0 : n0 ≤ h0.size) (F0_nodes : Fld Z h0 x0 "com/example/hailwise/hailwise/NodeQueue" "nodes" "[I" .null) (F0_keys : Fld Z h0 x0 "com/example/hailwise/hailwise/NodeQueue" "keys" "[D" .null) (F0_size : Fld Z h0 x0 "com/example/hailwise/hailwise/NodeQueue" "size" "I" (.int (0 : Int32))) (E_x0 : Exa Z h0 x0 "com/example/hailwise/hailwise/NodeQueue") (g_x0 : n0 ≤ x0) :
    MetFree l (⟨"com/example/hailwise/hailwise/NodeQueue", "<init>", "()V"⟩ : MethodName) (head1 (Jvm.Cond.code (⟨"com/example/hailwise/hailwise/NodeQueue", "<init>", "()V"⟩ : MethodName) prog_21_method_1_code 1 none :: ws) ({ frames := 1, cells := 2, slots := 128, locals := 12 } : Room)) (fun a U => a = #[(.ref x0)] ∧ Z.Warmed39 U.vm ∧ U.heap = h0) (fun _ _ _ _ _ => True) (fun _ U o U' => ∃ v L, o = .returned v ∧ Q2 Z x0 h0 n0 v U'.heap L ∧ FrameEnd U o U' L ({ frames := 1, cells := 2, slots := 128, locals := 12 } : Room).cells ({ frames := 1, cells := 2, slots := 128, locals := 12 } : Room).slots) := by
  refine MetFree.of_bodySF (plainFor_of_name pn_2) hisR ?_
  intro p e s m args below meth c s₁ Bd hml0 hP hK
  obtain ⟨rfl, hZ, hh⟩ := hP
  have w_0 := hw _ (List.mem_of_getElem? (i := 0) rfl)
  have w_6 := hw _ (List.mem_of_getElem? (i := 6) rfl)
  have w_11 := hw _ (List.mem_of_getElem? (i := 11) rfl)
  have w_12 := hw _ (List.mem_of_getElem? (i := 12) rfl)
  have w_13 := hw _ (List.mem_of_getElem? (i := 13) rfl)
  have w_14 := hw _ (List.mem_of_getElem? (i := 14) rfl)
  have w_15 := hw _ (List.mem_of_getElem? (i := 15) rfl)
  have w_16 := hw _ (List.mem_of_getElem? (i := 16) rfl)
  have w_17 := hw _ (List.mem_of_getElem? (i := 17) rfl)
  have w_18 := hw _ (List.mem_of_getElem? (i := 18) rfl)
  have w_25 := hw _ (List.mem_of_getElem? (i := 25) rfl)
  have hx := Bd.exec
  have hby := Bd.bytes
  have hml : c.maxLocals = 1 := hml0
  have hown : s.vm.findClass "com/example/hailwise/hailwise/NodeQueue" = some m.cls := findClass_of_methodNamed Bd.named
  have hnm := (name_of_methodNamed Bd.named Bd.method).1
  have X0 : Stand p l e ({ frames := 1, cells := 2, slots := 128, locals := 12 } : Room) s m #[(.ref x0)] below meth c s₁ [] 0 0 := Stand.of_body Bd
  have e0 : s₁.heap = h0 := by rw [← hh, Bd.state]; rfl
  have N0 := Fr.nil n0
  have K0 : Keep h0 h0 [x0] := Keep.refl h0 _
  refine (?_ : Goes p e below s ({ frames := 1, cells := 2, slots := 128, locals := 12 } : Room).cells ({ frames := 1, cells := 2, slots := 128, locals := 12 } : Room).slots (fun v h L => Q2 Z x0 h0 n0 v h L) (s₁.setTop (entryFrame m #[(.ref x0)] 1)))
  rw [ef_2 m x0 ]
  show Goes _ _ _ _ _ _ _ (s₁.setTop (mkF m 0 #[.val (.ref x0)] []))
  refine Goes.step (fun _ k => XS.aloadN X0.here hx rfl (hb hby d2_0) rfl rfl k) ?_
  obtain ⟨T1, X1, e1, st1⟩ := initO X0 hx hZ hown w_11 w_12 w_13 e0 (g := (mkF m 1 #[.val (.ref x0)] [(.ref x0)])) rfl (by rw [hml]; rfl) rfl (hb hby d2_1) (by decide) (W := 0) (by show 2 * 0 + _ ≤ _; exact Nat.le_of_eq rfl) (by decide)
  refine Goes.step st1 ?_
  show Goes _ _ _ _ _ _ _ (T1.setTop (mkF m 4 _ []))
  refine Goes.step (fun _ k => XS.aloadN X1.here hx rfl (hb hby d2_4) rfl rfl k) ?_
  refine Goes.step (fun _ k => XS.bipush X1.here hx rfl (hb hby d2_5) k) ?_
  obtain ⟨T2, h2, k2, X2, e2, E2, A2, st2⟩ := newP X1 hx hZ (hw _ (List.mem_of_getElem? (i := 0) rfl)) e1 (g := (mkF m 7 #[.val (.ref x0)] [(.int (64 : Int32)), (.ref x0)])) rfl (hb hby d2_7) rfl (by decide) (cap := 64) (by decide) (by decide) (by decide) (by decide)
  obtain ⟨b2, g2⟩ : ∃ z, z = h0.size := ⟨_, rfl⟩
  rw [← g2] at A2 st2
  refine Goes.step st2 ?_
  have g_b2 : n0 ≤ b2 := Nat.le_trans Z0 (Nat.le_of_eq g2.symm)
  have sz_b2 : h0.size ≤ b2 := Nat.le_trans K0.1 (Nat.le_of_eq g2.symm)
  have ne3 : x0 ≠ b2 := Nat.ne_of_lt (Nat.lt_of_lt_of_le F0_nodes.lt (Nat.le_of_eq g2.symm))
  have f4 := F0_nodes.ext E2
  have f5 := F0_keys.ext E2
  have f6 := F0_size.ext E2
  have f7 := E_x0.ext E2
  have K8 : Keep h0 h2 [x0] := K0.ext E2
  have Z8 : n0 ≤ h2.size := Nat.le_trans Z0 E2.1
  have V_b2 : Arv Z h2 b2 k2 .int (64 : Int32) [(.int (0 : Int32)), (.int (0 : Int32)), (.int (0 : Int32)), (.int (0 : Int32)), (.int (0 : Int32)), (.int (0 : Int32))] (.int (0 : Int32)) := (Arv.new A2 (by decide)).pad (pad_rep [] (.int (0 : Int32)) 6)
  show Goes _ _ _ _ _ _ _ (T2.setTop (mkF m 9 _ [(.ref b2), (.ref x0)]))
  obtain ⟨T9, h9, X9, e9, W9, st9⟩ := putF X2 hx hZ hown (host := "") (Or.inl w_14) Via.refl e2 f4 f7 (Or.inl w_15) w_6 (ty := (.array .int)) (by decide) rfl rfl (g := (mkF m 9 #[.val (.ref x0)] [(.ref b2), (.ref x0)])) rfl rfl (hb hby d2_9)
  refine Goes.step st9 ?_
  have f10 := f4.same W9
  have f11 := f5.other W9 (Or.inr (slot_ne (Or.inl w_18) (Or.inl w_15) (by decide) (t := (.array .double)) (t' := (.array .int)) (by decide) (by decide)))
  have f12 := f6.other W9 (Or.inr (slot_ne (Or.inl w_25) (Or.inl w_15) (by decide) (t := .int) (t' := (.array .int)) (by decide) (by decide)))
  have f13 := f7.wr W9
  have f14 := V_b2.other W9 (Ne.symm ne3)
  have K15 : Keep h0 h9 [x0] := K8.wr W9 (Or.inl (List.mem_of_getElem? (i := 0) rfl))
  have Z15 : n0 ≤ h9.size := by rw [Wr.size W9]; exact Z8
  have N15 := Fr.snoc X9 N0 g_x0
  show Goes _ _ _ _ _ _ _ (T9.setTop (mkF m 12 _ []))
  refine Goes.step (fun _ k => XS.aloadN X9.here hx rfl (hb hby d2_12) rfl rfl k) ?_
  refine Goes.step (fun _ k => XS.bipush X9.here hx rfl (hb hby d2_13) k) ?_
  obtain ⟨T16, h16, k16, X16, e16, E16, A16, st16⟩ := newP X9 hx hZ (hw _ (List.mem_of_getElem? (i := 16) rfl)) e9 (g := (mkF m 15 #[.val (.ref x0)] [(.int (64 : Int32)), (.ref x0)])) rfl (hb hby d2_15) rfl (by decide) (cap := 64) (by decide) (by decide) (by decide) (by decide)
  obtain ⟨b16, g16⟩ : ∃ z, z = h9.size := ⟨_, rfl⟩
  rw [← g16] at A16 st16
  refine Goes.step st16 ?_
  have g_b16 : n0 ≤ b16 := Nat.le_trans Z15 (Nat.le_of_eq g16.symm)
  have sz_b16 : h0.size ≤ b16 := Nat.le_trans K15.1 (Nat.le_of_eq g16.symm)
  have ne17 : x0 ≠ b16 := Nat.ne_of_lt (Nat.lt_of_lt_of_le f10.lt (Nat.le_of_eq g16.symm))
  have ne18 : b2 ≠ b16 := Nat.ne_of_lt (Nat.lt_of_lt_of_le f14.lt (Nat.le_of_eq g16.symm))
  have f19 := f10.ext E16
  have f20 := f11.ext E16
  have f21 := f12.ext E16
  have f22 := f13.ext E16
  have f23 := f14.ext E16
  have K24 : Keep h0 h16 [x0] := K15.ext E16
  have Z24 : n0 ≤ h16.size := Nat.le_trans Z15 E16.1
  have V_b16 : Arv Z h16 b16 k16 .double (64 : Int32) [(.double (0 : UInt64)), (.double (0 : UInt64)), (.double (0 : UInt64)), (.double (0 : UInt64)), (.double (0 : UInt64)), (.double (0 : UInt64))] (.double (0 : UInt64)) := (Arv.new A16 (by decide)).pad (pad_rep [] (.double (0 : UInt64)) 6)
  show Goes _ _ _ _ _ _ _ (T16.setTop (mkF m 17 _ [(.ref b16), (.ref x0)]))
  obtain ⟨T25, h25, X25, e25, W25, st25⟩ := putF X16 hx hZ hown (host := "") (Or.inl w_17) Via.refl e16 f20 f22 (Or.inl w_18) w_6 (ty := (.array .double)) (by decide) rfl rfl (g := (mkF m 17 #[.val (.ref x0)] [(.ref b16), (.ref x0)])) rfl rfl (hb hby d2_17)
  refine Goes.step st25 ?_
  have f26 := f19.other W25 (Or.inr (slot_ne (Or.inl w_15) (Or.inl w_18) (by decide) (t := (.array .int)) (t' := (.array .double)) (by decide) (by decide)))
  have f27 := f20.same W25
  have f28 := f21.other W25 (Or.inr (slot_ne (Or.inl w_25) (Or.inl w_18) (by decide) (t := .int) (t' := (.array .double)) (by decide) (by decide)))
  have f29 := f22.wr W25
  have f30 := f23.other W25 (Ne.symm ne3)
  have f31 := V_b16.other W25 (Ne.symm ne17)
  have K32 : Keep h0 h25 [x0] := K24.wr W25 (Or.inl (List.mem_of_getElem? (i := 0) rfl))
  have Z32 : n0 ≤ h25.size := by rw [Wr.size W25]; exact Z24
  have N32 := Fr.snoc X25 N15 g_x0
  show Goes _ _ _ _ _ _ _ (T25.setTop (mkF m 20 _ []))
  exact Goes.retV X25 hx (BodyLoose.notSynchronized Bd) Bd.returns (hb hby d2_20) (by show Q2 Z x0 h0 n0 none T25.heap _; rw [e25]; exact ⟨N32, K32, ⟨b2, b16, k2, k16, rfl, g_b2, sz_b2, g_b16, sz_b16, (Ne.symm ne18), f26, f27, f28, f29, f30, f31⟩⟩) (by decide) (by decide)
theorem d4_0 : decode prog_21_method_4_code 0 = .ok (.aload_n 0, 1) := by decide +kernel
theorem d4_1 : decode prog_21_method_4_code 1 = .ok (.getfield 17, 3) := by decide +kernel
theorem d4_4 : decode prog_21_method_4_code 4 = .ok (.aload_n 0, 1) := by decide +kernel
theorem d4_5 : decode prog_21_method_4_code 5 = .ok (.getfield 7, 3) := by decide +kernel
theorem d4_8 : decode prog_21_method_4_code 8 = .ok (.arraylength, 1) := by decide +kernel
theorem d4_9 : decode prog_21_method_4_code 9 = .ok (.if_icmp .ne 37, 3) := by decide +kernel
theorem d4_46 : decode prog_21_method_4_code 46 = .ok (.aload_n 0, 1) := by decide +kernel
theorem d4_47 : decode prog_21_method_4_code 47 = .ok (.dup, 1) := by decide +kernel
theorem d4_48 : decode prog_21_method_4_code 48 = .ok (.getfield 17, 3) := by decide +kernel
theorem d4_51 : decode prog_21_method_4_code 51 = .ok (.dup_x1, 1) := by decide +kernel
theorem d4_52 : decode prog_21_method_4_code 52 = .ok (.iconst 1, 1) := by decide +kernel
theorem d4_53 : decode prog_21_method_4_code 53 = .ok (.iadd, 1) := by decide +kernel
theorem d4_54 : decode prog_21_method_4_code 54 = .ok (.putfield 17, 3) := by decide +kernel
theorem d4_57 : decode prog_21_method_4_code 57 = .ok (.istore 4, 2) := by decide +kernel
theorem d4_59 : decode prog_21_method_4_code 59 = .ok (.iload 4, 2) := by decide +kernel
theorem d4_61 : decode prog_21_method_4_code 61 = .ok (.ifCond .le 62, 3) := by decide +kernel
theorem d4_123 : decode prog_21_method_4_code 123 = .ok (.aload_n 0, 1) := by decide +kernel
theorem d4_124 : decode prog_21_method_4_code 124 = .ok (.getfield 7, 3) := by decide +kernel
theorem d4_127 : decode prog_21_method_4_code 127 = .ok (.iload 4, 2) := by decide +kernel
theorem d4_129 : decode prog_21_method_4_code 129 = .ok (.iload_n 1, 1) := by decide +kernel
theorem d4_130 : decode prog_21_method_4_code 130 = .ok (.iastore, 1) := by decide +kernel
theorem d4_131 : decode prog_21_method_4_code 131 = .ok (.aload_n 0, 1) := by decide +kernel
theorem d4_132 : decode prog_21_method_4_code 132 = .ok (.getfield 13, 3) := by decide +kernel
theorem d4_135 : decode prog_21_method_4_code 135 = .ok (.iload 4, 2) := by decide +kernel
theorem d4_137 : decode prog_21_method_4_code 137 = .ok (.dload_n 2, 1) := by decide +kernel
theorem d4_138 : decode prog_21_method_4_code 138 = .ok (.dastore, 1) := by decide +kernel
theorem d4_139 : decode prog_21_method_4_code 139 = .ok (.return_, 1) := by decide +kernel
theorem pn_4 : plainName "com/example/hailwise/hailwise/NodeQueue" = true := by first | (simp [plainName, overriddenIn]; done) | decide +kernel
theorem ef_4_0 (m : MethodId) (x0 : Addr) (x1 : Int32) (kx : Int32) (nd : Addr) (ky : Addr) (kn : ClassId) (kd : ClassId)  : entryFrame m #[(.ref x0), (.int x1), (.double (FP.i2d kx))] 6 = mkF m 0 #[.val (.ref x0), .val (.int x1), .val (.double (FP.i2d kx)), .second, .unset, .unset] [] := by first | (simp [entryFrame, mkF, argsToLocals, Value.category]; done) | rfl
def Q4_0 (Z : State) (x0 : Addr) (x1 : Int32) (kx : Int32) (nd : Addr) (ky : Addr) (kn : ClassId) (kd : ClassId) (h0 : Heap) (n0 : Nat) (v : Option Value) (h : Heap) (L : List Loc) : Prop := Fr n0 L ∧ Keep h0 h [x0, nd, ky] ∧ v = none ∧ Fld Z h x0 "com/example/hailwise/hailwise/NodeQueue" "size" "I" (.int (1 : Int32)) ∧ Fld Z h x0 "com/example/hailwise/hailwise/NodeQueue" "nodes" "[I" (.ref nd) ∧ Fld Z h x0 "com/example/hailwise/hailwise/NodeQueue" "keys" "[D" (.ref ky) ∧ ∃ p0 q0 : Int32, Arv Z h nd kn .int (64 : Int32) [(.int p0), (.int (0 : Int32)), (.int (0 : Int32)), (.int (0 : Int32)), (.int (0 : Int32)), (.int (0 : Int32))] (.int (0 : Int32)) ∧ Arv Z h ky kd .double (64 : Int32) [(.double (FP.i2d q0)), (.double (0 : UInt64)), (.double (0 : UInt64)), (.double (0 : UInt64)), (.double (0 : UInt64)), (.double (0 : UInt64))] (.double (0 : UInt64)) ∧ ([(p0, q0)] : List (Int32 × Int32)).Perm ((x1, kx) :: ([] : List (Int32 × Int32)))
set_option maxRecDepth 65536 in
set_option maxHeartbeats 40000000 in
theorem rm4_0 (l : Launch) (Z : State) (a0 : Array Value) (hw : ∀ d ∈ tables_1, d.before a0 Z = true) (ws : List Jvm.Cond) (x0 : Addr) (x1 : Int32) (kx : Int32) (nd : Addr) (ky : Addr) (kn : ClassId) (kd : ClassId) (h0 : Heap) (n0 : Nat) (Z0 : n0 ≤ h0.size) (F_size : Fld Z h0 x0 "com/example/hailwise/hailwise/NodeQueue" "size" "I" (.int (0 : Int32))) (F_nd : Fld Z h0 x0 "com/example/hailwise/hailwise/NodeQueue" "nodes" "[I" (.ref nd)) (F_ky : Fld Z h0 x0 "com/example/hailwise/hailwise/NodeQueue" "keys" "[D" (.ref ky)) (E_x0 : Exa Z h0 x0 "com/example/hailwise/hailwise/NodeQueue") (V_nd : Arv Z h0 nd kn .int (64 : Int32) [(.int (0 : Int32)), (.int (0 : Int32)), (.int (0 : Int32)), (.int (0 : Int32)), (.int (0 : Int32)), (.int (0 : Int32))] (.int (0 : Int32))) (V_ky : Arv Z h0 ky kd .double (64 : Int32) [(.double (0 : UInt64)), (.double (0 : UInt64)), (.double (0 : UInt64)), (.double (0 : UInt64)), (.double (0 : UInt64)), (.double (0 : UInt64))] (.double (0 : UInt64))) (g_x0 : n0 ≤ x0) (g_nd : n0 ≤ nd) (g_ky : n0 ≤ ky) (ne1 : x0 ≠ nd) (ne2 : x0 ≠ ky) (ne3 : nd ≠ ky) :
    MetFree l (⟨"com/example/hailwise/hailwise/NodeQueue", "add", "(ID)V"⟩ : MethodName) (head1 (Jvm.Cond.code (⟨"com/example/hailwise/hailwise/NodeQueue", "add", "(ID)V"⟩ : MethodName) prog_21_method_4_code 6 none :: ws) ({ frames := 0, cells := 0, slots := 0, locals := 0 } : Room)) (fun a U => a = #[(.ref x0), (.int x1), (.double (FP.i2d kx))] ∧ Z.Warmed39 U.vm ∧ U.heap = h0) (fun _ _ _ _ _ => True) (fun _ U o U' => ∃ v L, o = .returned v ∧ Q4_0 Z x0 x1 kx nd ky kn kd h0 n0 v U'.heap L ∧ FrameEnd U o U' L ({ frames := 0, cells := 0, slots := 0, locals := 0 } : Room).cells ({ frames := 0, cells := 0, slots := 0, locals := 0 } : Room).slots) := by
  refine MetFree.of_bodySF (plainFor_of_name pn_4) hisR ?_
  intro p e s m args below meth c s₁ Bd hml0 hP hK
  obtain ⟨rfl, hZ, hh⟩ := hP
  have w_6 := hw _ (List.mem_of_getElem? (i := 6) rfl)
  have w_14 := hw _ (List.mem_of_getElem? (i := 14) rfl)
  have w_15 := hw _ (List.mem_of_getElem? (i := 15) rfl)
  have w_17 := hw _ (List.mem_of_getElem? (i := 17) rfl)
  have w_18 := hw _ (List.mem_of_getElem? (i := 18) rfl)
  have w_24 := hw _ (List.mem_of_getElem? (i := 24) rfl)
  have w_25 := hw _ (List.mem_of_getElem? (i := 25) rfl)
  have hx := Bd.exec
  have hby := Bd.bytes
  have hml : c.maxLocals = 6 := hml0
  have hown : s.vm.findClass "com/example/hailwise/hailwise/NodeQueue" = some m.cls := findClass_of_methodNamed Bd.named
  have hnm := (name_of_methodNamed Bd.named Bd.method).1
  have X0 : Stand p l e ({ frames := 0, cells := 0, slots := 0, locals := 0 } : Room) s m #[(.ref x0), (.int x1), (.double (FP.i2d kx))] below meth c s₁ [] 0 0 := Stand.of_body Bd
  have e0 : s₁.heap = h0 := by rw [← hh, Bd.state]; rfl
  have N0 := Fr.nil n0
  have K0 : Keep h0 h0 [x0, nd, ky] := Keep.refl h0 _
  refine (?_ : Goes p e below s ({ frames := 0, cells := 0, slots := 0, locals := 0 } : Room).cells ({ frames := 0, cells := 0, slots := 0, locals := 0 } : Room).slots (fun v h L => Q4_0 Z x0 x1 kx nd ky kn kd h0 n0 v h L) (s₁.setTop (entryFrame m #[(.ref x0), (.int x1), (.double (FP.i2d kx))] 6)))
  rw [ef_4_0 m x0 x1 kx nd ky kn kd ]
  show Goes _ _ _ _ _ _ _ (s₁.setTop (mkF m 0 #[.val (.ref x0), .val (.int x1), .val (.double (FP.i2d kx)), .second, .unset, .unset] []))
  refine Goes.step (fun _ k => XS.aloadN X0.here hx rfl (hb hby d4_0) rfl rfl k) ?_
  obtain ⟨T1, X1, e1, st1⟩ := getF X0 hx hZ hown (host := "") (Or.inl w_24) Via.refl e0 F_size (g := (mkF m 1 #[.val (.ref x0), .val (.int x1), .val (.double (FP.i2d kx)), .second, .unset, .unset] [(.ref x0)])) rfl rfl (hb hby d4_1)
  refine Goes.step st1 ?_
  show Goes _ _ _ _ _ _ _ (T1.setTop (mkF m 4 _ [(.int (0 : Int32))]))
  refine Goes.step (fun _ k => XS.aloadN X1.here hx rfl (hb hby d4_4) rfl rfl k) ?_
  obtain ⟨T2, X2, e2, st2⟩ := getF X1 hx hZ hown (host := "") (Or.inl w_14) Via.refl e1 F_nd (g := (mkF m 5 #[.val (.ref x0), .val (.int x1), .val (.double (FP.i2d kx)), .second, .unset, .unset] [(.ref x0), (.int (0 : Int32))])) rfl rfl (hb hby d4_5)
  refine Goes.step st2 ?_
  show Goes _ _ _ _ _ _ _ (T2.setTop (mkF m 8 _ [(.ref nd), (.int (0 : Int32))]))
  obtain ⟨cl3, Ar3, q3, S3, P3, H3, G3⟩ := id V_nd
  refine Goes.step (fun _ k => X2.arraylength hx (by rw [e2]; exact Ar3.1) (State.isArrayOf_alike hZ.alike Ar3.2.1) (g := (mkF m 8 #[.val (.ref x0), .val (.int x1), .val (.double (FP.i2d kx)), .second, .unset, .unset] [(.ref nd), (.int (0 : Int32))])) rfl rfl (hb hby d4_8) _ k) ?_
  rw [len_of S3 P3]
  show Goes _ _ _ _ _ _ _ (T2.setTop (mkF m 9 _ [(.int (64 : Int32)), (.int (0 : Int32))]))
  refine Goes.step (fun _ k => XS.icmpYes X2.here hx rfl (pc0 := 9) (pc' := 46) rfl (hb hby d4_9) rfl (feq (by decide : ¬ ((0 : Int32) = (64 : Int32)))).2 (by decide) (by decide) k) ?_
  show Goes _ _ _ _ _ _ _ (T2.setTop (mkF m 46 _ []))
  refine Goes.step (fun _ k => XS.aloadN X2.here hx rfl (hb hby d4_46) rfl rfl k) ?_
  refine Goes.step (fun _ k => XS.dup X2.here hx rfl (hb hby d4_47) rfl rfl k) ?_
  obtain ⟨T4, X4, e4, st4⟩ := getF X2 hx hZ hown (host := "") (Or.inl w_24) Via.refl e2 F_size (g := (mkF m 48 #[.val (.ref x0), .val (.int x1), .val (.double (FP.i2d kx)), .second, .unset, .unset] [(.ref x0), (.ref x0)])) rfl rfl (hb hby d4_48)
  refine Goes.step st4 ?_
  show Goes _ _ _ _ _ _ _ (T4.setTop (mkF m 51 _ [(.int (0 : Int32)), (.ref x0)]))
  refine Goes.step (fun _ k => XS.dupX1 X4.here hx rfl (hb hby d4_51) rfl rfl rfl k) ?_
  show Goes _ _ _ _ _ _ _ (T4.setTop (mkF m 52 _ [(.int (0 : Int32)), (.ref x0), (.int (0 : Int32))]))
  refine Goes.step (fun _ k => XS.iconst X4.here hx rfl (hb hby d4_52) k) ?_
  refine Goes.step (fun _ k => XS.iadd X4.here hx rfl (hb hby d4_53) rfl k) ?_
  show Goes _ _ _ _ _ _ _ (T4.setTop (mkF m 54 #[.val (.ref x0), .val (.int x1), .val (.double (FP.i2d kx)), .second, .unset, .unset] [(.int (1 : Int32)), (.ref x0), (.int (0 : Int32))]))
  obtain ⟨T5, h5, X5, e5, W5, st5⟩ := putF X4 hx hZ hown (host := "") (Or.inl w_24) Via.refl e4 F_size E_x0 (Or.inl w_25) w_6 (ty := .int) (by decide) rfl rfl (g := (mkF m 54 #[.val (.ref x0), .val (.int x1), .val (.double (FP.i2d kx)), .second, .unset, .unset] [(.int (1 : Int32)), (.ref x0), (.int (0 : Int32))])) rfl rfl (hb hby d4_54)
  refine Goes.step st5 ?_
  have f6 := F_size.same W5
  have f7 := F_nd.other W5 (Or.inr (slot_ne (Or.inl w_15) (Or.inl w_25) (by decide) (t := (.array .int)) (t' := .int) (by decide) (by decide)))
  have f8 := F_ky.other W5 (Or.inr (slot_ne (Or.inl w_18) (Or.inl w_25) (by decide) (t := (.array .double)) (t' := .int) (by decide) (by decide)))
  have f9 := E_x0.wr W5
  have f10 := V_nd.other W5 (Ne.symm ne1)
  have f11 := V_ky.other W5 (Ne.symm ne2)
  have K12 : Keep h0 h5 [x0, nd, ky] := K0.wr W5 (Or.inl (List.mem_of_getElem? (i := 0) rfl))
  have Z12 : n0 ≤ h5.size := by rw [Wr.size W5]; exact Z0
  have N12 := Fr.snoc X5 N0 g_x0
  show Goes _ _ _ _ _ _ _ (T5.setTop (mkF m 57 _ [(.int (0 : Int32))]))
  refine Goes.step (fun _ k => XS.istore X5.here hx rfl (hb hby d4_57) rfl (l' := #[.val (.ref x0), .val (.int x1), .val (.double (FP.i2d kx)), .second, .val (.int (0 : Int32)), .unset]) rfl k) ?_
  show Goes _ _ _ _ _ _ _ (T5.setTop (mkF m 59 _ []))
  refine Goes.step (fun _ k => XS.iload X5.here hx rfl (hb hby d4_59) rfl  k) ?_
  refine Goes.step (fun _ k => XS.ifYes X5.here hx rfl (pc0 := 61) (pc' := 123) rfl (hb hby d4_61) rfl ((if0 _ _).trans (flt (by decide : ¬ ((0 : Int32) < (0 : Int32)))).2.2.2) (by decide) (by decide) k) ?_
  show Goes _ _ _ _ _ _ _ (T5.setTop (mkF m 123 _ []))
  refine Goes.step (fun _ k => XS.aloadN X5.here hx rfl (hb hby d4_123) rfl rfl k) ?_
  obtain ⟨T13, X13, e13, st13⟩ := getF X5 hx hZ hown (host := "") (Or.inl w_14) Via.refl e5 f7 (g := (mkF m 124 #[.val (.ref x0), .val (.int x1), .val (.double (FP.i2d kx)), .second, .val (.int (0 : Int32)), .unset] [(.ref x0)])) rfl rfl (hb hby d4_124)
  refine Goes.step st13 ?_
  show Goes _ _ _ _ _ _ _ (T13.setTop (mkF m 127 _ [(.ref nd)]))
  refine Goes.step (fun _ k => XS.iload X13.here hx rfl (hb hby d4_127) rfl  k) ?_
  refine Goes.step (fun _ k => XS.iloadN X13.here hx rfl (hb hby d4_129) rfl  k) ?_
  obtain ⟨cl14, Ar14, q14, S14, P14, H14, G14⟩ := id f10
  have hin14 : ¬ ((0 : Int32) < 0 ∨ cl14.slots.size ≤ ((0 : Int32)).toNatClampNeg) := inb_of S14 ⟨by decide, by decide⟩
  obtain ⟨T15, h15, X15, e15, W15, st15⟩ := stI X13 hx hZ e13 Ar14 (j := (0 : Int32)) hin14 (g := (mkF m 130 #[.val (.ref x0), .val (.int x1), .val (.double (FP.i2d kx)), .second, .val (.int (0 : Int32)), .unset] [(.int x1), (.int (0 : Int32)), (.ref nd)])) rfl rfl (hb hby d4_130)
  refine Goes.step st15 ?_
  have V15 := Arv.set Ar14 q14 S14 P14 H14 G14 rfl W15 0 rfl (Nat.le_of_ble_eq_true rfl)
  have f16 := f6.other W15 (Or.inl ne1)
  have f17 := f7.other W15 (Or.inl ne1)
  have f18 := f8.other W15 (Or.inl ne1)
  have f19 := f9.wr W15
  have f20 := V15
  have f21 := f11.other W15 (Ne.symm ne3)
  have K22 : Keep h0 h15 [x0, nd, ky] := K12.wr W15 (Or.inl (List.mem_of_getElem? (i := 1) rfl))
  have Z22 : n0 ≤ h15.size := by rw [Wr.size W15]; exact Z12
  have N22 := Fr.snoc X15 N12 g_nd
  show Goes _ _ _ _ _ _ _ (T15.setTop (mkF m 131 _ []))
  refine Goes.step (fun _ k => XS.aloadN X15.here hx rfl (hb hby d4_131) rfl rfl k) ?_
  obtain ⟨T23, X23, e23, st23⟩ := getF X15 hx hZ hown (host := "") (Or.inl w_17) Via.refl e15 f18 (g := (mkF m 132 #[.val (.ref x0), .val (.int x1), .val (.double (FP.i2d kx)), .second, .val (.int (0 : Int32)), .unset] [(.ref x0)])) rfl rfl (hb hby d4_132)
  refine Goes.step st23 ?_
  show Goes _ _ _ _ _ _ _ (T23.setTop (mkF m 135 _ [(.ref ky)]))
  refine Goes.step (fun _ k => XS.iload X23.here hx rfl (hb hby d4_135) rfl  k) ?_
  refine Goes.step (fun _ k => XS.dloadN X23.here hx rfl (hb hby d4_137) rfl k) ?_
  obtain ⟨cl24, Ar24, q24, S24, P24, H24, G24⟩ := id f21
  have hin24 : ¬ ((0 : Int32) < 0 ∨ cl24.slots.size ≤ ((0 : Int32)).toNatClampNeg) := inb_of S24 ⟨by decide, by decide⟩
  obtain ⟨T25, h25, X25, e25, W25, st25⟩ := stD X23 hx hZ e23 Ar24 (j := (0 : Int32)) hin24 (g := (mkF m 138 #[.val (.ref x0), .val (.int x1), .val (.double (FP.i2d kx)), .second, .val (.int (0 : Int32)), .unset] [(.double (FP.i2d kx)), (.int (0 : Int32)), (.ref ky)])) rfl rfl (hb hby d4_138)
  refine Goes.step st25 ?_
  have V25 := Arv.set Ar24 q24 S24 P24 H24 G24 rfl W25 0 rfl (Nat.le_of_ble_eq_true rfl)
  have f26 := f16.other W25 (Or.inl ne2)
  have f27 := f17.other W25 (Or.inl ne2)
  have f28 := f18.other W25 (Or.inl ne2)
  have f29 := f19.wr W25
  have f30 := f20.other W25 ne3
  have f31 := V25
  have K32 : Keep h0 h25 [x0, nd, ky] := K22.wr W25 (Or.inl (List.mem_of_getElem? (i := 2) rfl))
  have Z32 : n0 ≤ h25.size := by rw [Wr.size W25]; exact Z22
  have N32 := Fr.snoc X25 N22 g_ky
  show Goes _ _ _ _ _ _ _ (T25.setTop (mkF m 139 #[.val (.ref x0), .val (.int x1), .val (.double (FP.i2d kx)), .second, .val (.int (0 : Int32)), .unset] []))
  exact Goes.retV X25 hx (BodyLoose.notSynchronized Bd) Bd.returns (hb hby d4_139) (by show Q4_0 Z x0 x1 kx nd ky kn kd h0 n0 none T25.heap _; rw [e25]; exact ⟨N32, K32, rfl, f26, f27, f28, x1, kx, f30, f31, (List.Perm.map (fun i => ([(x1, kx)] : List (Int32 × Int32)).getD i (0, 0)) (by decide : ([0] : List Nat).Perm [0]))⟩) (by decide) (by decide)
theorem d4_64 : decode prog_21_method_4_code 64 = .ok (.aload_n 0, 1) := by decide +kernel
theorem d4_65 : decode prog_21_method_4_code 65 = .ok (.getfield 13, 3) := by decide +kernel
theorem d4_68 : decode prog_21_method_4_code 68 = .ok (.iload 4, 2) := by decide +kernel
theorem d4_70 : decode prog_21_method_4_code 70 = .ok (.iconst 1, 1) := by decide +kernel
theorem d4_71 : decode prog_21_method_4_code 71 = .ok (.isub, 1) := by decide +kernel
theorem d4_72 : decode prog_21_method_4_code 72 = .ok (.iconst 2, 1) := by decide +kernel
theorem d4_73 : decode prog_21_method_4_code 73 = .ok (.idiv, 1) := by decide +kernel
theorem d4_74 : decode prog_21_method_4_code 74 = .ok (.daload, 1) := by decide +kernel
theorem d4_75 : decode prog_21_method_4_code 75 = .ok (.dload_n 2, 1) := by decide +kernel
theorem d4_76 : decode prog_21_method_4_code 76 = .ok (.dcmp .l, 1) := by decide +kernel
theorem d4_77 : decode prog_21_method_4_code 77 = .ok (.ifCond .le 46, 3) := by decide +kernel
theorem d4_80 : decode prog_21_method_4_code 80 = .ok (.iload 4, 2) := by decide +kernel
theorem d4_82 : decode prog_21_method_4_code 82 = .ok (.iconst 1, 1) := by decide +kernel
theorem d4_83 : decode prog_21_method_4_code 83 = .ok (.isub, 1) := by decide +kernel
theorem d4_84 : decode prog_21_method_4_code 84 = .ok (.iconst 2, 1) := by decide +kernel
theorem d4_85 : decode prog_21_method_4_code 85 = .ok (.idiv, 1) := by decide +kernel
theorem d4_86 : decode prog_21_method_4_code 86 = .ok (.istore 5, 2) := by decide +kernel
theorem d4_88 : decode prog_21_method_4_code 88 = .ok (.aload_n 0, 1) := by decide +kernel
theorem d4_89 : decode prog_21_method_4_code 89 = .ok (.getfield 7, 3) := by decide +kernel
theorem d4_92 : decode prog_21_method_4_code 92 = .ok (.iload 4, 2) := by decide +kernel
theorem d4_94 : decode prog_21_method_4_code 94 = .ok (.aload_n 0, 1) := by decide +kernel
theorem d4_95 : decode prog_21_method_4_code 95 = .ok (.getfield 7, 3) := by decide +kernel
theorem d4_98 : decode prog_21_method_4_code 98 = .ok (.iload 5, 2) := by decide +kernel
theorem d4_100 : decode prog_21_method_4_code 100 = .ok (.iaload, 1) := by decide +kernel
theorem d4_101 : decode prog_21_method_4_code 101 = .ok (.iastore, 1) := by decide +kernel
theorem d4_102 : decode prog_21_method_4_code 102 = .ok (.aload_n 0, 1) := by decide +kernel
theorem d4_103 : decode prog_21_method_4_code 103 = .ok (.getfield 13, 3) := by decide +kernel
theorem d4_106 : decode prog_21_method_4_code 106 = .ok (.iload 4, 2) := by decide +kernel
theorem d4_108 : decode prog_21_method_4_code 108 = .ok (.aload_n 0, 1) := by decide +kernel
theorem d4_109 : decode prog_21_method_4_code 109 = .ok (.getfield 13, 3) := by decide +kernel
theorem d4_112 : decode prog_21_method_4_code 112 = .ok (.iload 5, 2) := by decide +kernel
theorem d4_114 : decode prog_21_method_4_code 114 = .ok (.daload, 1) := by decide +kernel
theorem d4_115 : decode prog_21_method_4_code 115 = .ok (.dastore, 1) := by decide +kernel
theorem d4_116 : decode prog_21_method_4_code 116 = .ok (.iload 5, 2) := by decide +kernel
theorem d4_118 : decode prog_21_method_4_code 118 = .ok (.istore 4, 2) := by decide +kernel
theorem d4_120 : decode prog_21_method_4_code 120 = .ok (.goto (-61), 3) := by decide +kernel
theorem ef_4_1 (m : MethodId) (x0 : Addr) (x1 : Int32) (kx : Int32) (nd : Addr) (ky : Addr) (kn : ClassId) (kd : ClassId) (va0 : Int32) (vb0 : Int32)  : entryFrame m #[(.ref x0), (.int x1), (.double (FP.i2d kx))] 6 = mkF m 0 #[.val (.ref x0), .val (.int x1), .val (.double (FP.i2d kx)), .second, .unset, .unset] [] := by first | (simp [entryFrame, mkF, argsToLocals, Value.category]; done) | rfl
def Q4_1 (Z : State) (x0 : Addr) (x1 : Int32) (kx : Int32) (nd : Addr) (ky : Addr) (kn : ClassId) (kd : ClassId) (va0 : Int32) (vb0 : Int32) (h0 : Heap) (n0 : Nat) (v : Option Value) (h : Heap) (L : List Loc) : Prop := Fr n0 L ∧ Keep h0 h [x0, nd, ky] ∧ v = none ∧ Fld Z h x0 "com/example/hailwise/hailwise/NodeQueue" "size" "I" (.int (2 : Int32)) ∧ Fld Z h x0 "com/example/hailwise/hailwise/NodeQueue" "nodes" "[I" (.ref nd) ∧ Fld Z h x0 "com/example/hailwise/hailwise/NodeQueue" "keys" "[D" (.ref ky) ∧ ∃ p0 p1 q0 q1 : Int32, Arv Z h nd kn .int (64 : Int32) [(.int p0), (.int p1), (.int (0 : Int32)), (.int (0 : Int32)), (.int (0 : Int32)), (.int (0 : Int32))] (.int (0 : Int32)) ∧ Arv Z h ky kd .double (64 : Int32) [(.double (FP.i2d q0)), (.double (FP.i2d q1)), (.double (0 : UInt64)), (.double (0 : UInt64)), (.double (0 : UInt64)), (.double (0 : UInt64))] (.double (0 : UInt64)) ∧ ([(p0, q0), (p1, q1)] : List (Int32 × Int32)).Perm ((x1, kx) :: ([(va0, vb0)] : List (Int32 × Int32))) ∧ q0.toInt ≤ q1.toInt
set_option maxRecDepth 65536 in
set_option maxHeartbeats 40000000 in
theorem rm4_1 (l : Launch) (Z : State) (a0 : Array Value) (hw : ∀ d ∈ tables_1, d.before a0 Z = true) (ws : List Jvm.Cond) (x0 : Addr) (x1 : Int32) (kx : Int32) (nd : Addr) (ky : Addr) (kn : ClassId) (kd : ClassId) (va0 : Int32) (vb0 : Int32) (h0 : Heap) (n0 : Nat) (Z0 : n0 ≤ h0.size) (F_size : Fld Z h0 x0 "com/example/hailwise/hailwise/NodeQueue" "size" "I" (.int (1 : Int32))) (F_nd : Fld Z h0 x0 "com/example/hailwise/hailwise/NodeQueue" "nodes" "[I" (.ref nd)) (F_ky : Fld Z h0 x0 "com/example/hailwise/hailwise/NodeQueue" "keys" "[D" (.ref ky)) (E_x0 : Exa Z h0 x0 "com/example/hailwise/hailwise/NodeQueue") (V_nd : Arv Z h0 nd kn .int (64 : Int32) [(.int va0), (.int (0 : Int32)), (.int (0 : Int32)), (.int (0 : Int32)), (.int (0 : Int32)), (.int (0 : Int32))] (.int (0 : Int32))) (V_ky : Arv Z h0 ky kd .double (64 : Int32) [(.double (FP.i2d vb0)), (.double (0 : UInt64)), (.double (0 : UInt64)), (.double (0 : UInt64)), (.double (0 : UInt64)), (.double (0 : UInt64))] (.double (0 : UInt64))) (g_x0 : n0 ≤ x0) (g_nd : n0 ≤ nd) (g_ky : n0 ≤ ky) (ne1 : x0 ≠ nd) (ne2 : x0 ≠ ky) (ne3 : nd ≠ ky) :
    MetFree l (⟨"com/example/hailwise/hailwise/NodeQueue", "add", "(ID)V"⟩ : MethodName) (head1 (Jvm.Cond.code (⟨"com/example/hailwise/hailwise/NodeQueue", "add", "(ID)V"⟩ : MethodName) prog_21_method_4_code 6 none :: ws) ({ frames := 0, cells := 0, slots := 0, locals := 0 } : Room)) (fun a U => a = #[(.ref x0), (.int x1), (.double (FP.i2d kx))] ∧ Z.Warmed39 U.vm ∧ U.heap = h0) (fun _ _ _ _ _ => True) (fun _ U o U' => ∃ v L, o = .returned v ∧ Q4_1 Z x0 x1 kx nd ky kn kd va0 vb0 h0 n0 v U'.heap L ∧ FrameEnd U o U' L ({ frames := 0, cells := 0, slots := 0, locals := 0 } : Room).cells ({ frames := 0, cells := 0, slots := 0, locals := 0 } : Room).slots) := by
  refine MetFree.of_bodySF (plainFor_of_name pn_4) hisR ?_
  intro p e s m args below meth c s₁ Bd hml0 hP hK
  obtain ⟨rfl, hZ, hh⟩ := hP
  have w_6 := hw _ (List.mem_of_getElem? (i := 6) rfl)
  have w_14 := hw _ (List.mem_of_getElem? (i := 14) rfl)
  have w_15 := hw _ (List.mem_of_getElem? (i := 15) rfl)
  have w_17 := hw _ (List.mem_of_getElem? (i := 17) rfl)
  have w_18 := hw _ (List.mem_of_getElem? (i := 18) rfl)
  have w_24 := hw _ (List.mem_of_getElem? (i := 24) rfl)
  have w_25 := hw _ (List.mem_of_getElem? (i := 25) rfl)
  have hx := Bd.exec
  have hby := Bd.bytes
  have hml : c.maxLocals = 6 := hml0
  have hown : s.vm.findClass "com/example/hailwise/hailwise/NodeQueue" = some m.cls := findClass_of_methodNamed Bd.named
  have hnm := (name_of_methodNamed Bd.named Bd.method).1
  have X0 : Stand p l e ({ frames := 0, cells := 0, slots := 0, locals := 0 } : Room) s m #[(.ref x0), (.int x1), (.double (FP.i2d kx))] below meth c s₁ [] 0 0 := Stand.of_body Bd
  have e0 : s₁.heap = h0 := by rw [← hh, Bd.state]; rfl
  have N0 := Fr.nil n0
  have K0 : Keep h0 h0 [x0, nd, ky] := Keep.refl h0 _
  refine (?_ : Goes p e below s ({ frames := 0, cells := 0, slots := 0, locals := 0 } : Room).cells ({ frames := 0, cells := 0, slots := 0, locals := 0 } : Room).slots (fun v h L => Q4_1 Z x0 x1 kx nd ky kn kd va0 vb0 h0 n0 v h L) (s₁.setTop (entryFrame m #[(.ref x0), (.int x1), (.double (FP.i2d kx))] 6)))
  rw [ef_4_1 m x0 x1 kx nd ky kn kd va0 vb0 ]
  show Goes _ _ _ _ _ _ _ (s₁.setTop (mkF m 0 #[.val (.ref x0), .val (.int x1), .val (.double (FP.i2d kx)), .second, .unset, .unset] []))
  refine Goes.step (fun _ k => XS.aloadN X0.here hx rfl (hb hby d4_0) rfl rfl k) ?_
  obtain ⟨T1, X1, e1, st1⟩ := getF X0 hx hZ hown (host := "") (Or.inl w_24) Via.refl e0 F_size (g := (mkF m 1 #[.val (.ref x0), .val (.int x1), .val (.double (FP.i2d kx)), .second, .unset, .unset] [(.ref x0)])) rfl rfl (hb hby d4_1)
  refine Goes.step st1 ?_
  show Goes _ _ _ _ _ _ _ (T1.setTop (mkF m 4 _ [(.int (1 : Int32))]))
  refine Goes.step (fun _ k => XS.aloadN X1.here hx rfl (hb hby d4_4) rfl rfl k) ?_
  obtain ⟨T2, X2, e2, st2⟩ := getF X1 hx hZ hown (host := "") (Or.inl w_14) Via.refl e1 F_nd (g := (mkF m 5 #[.val (.ref x0), .val (.int x1), .val (.double (FP.i2d kx)), .second, .unset, .unset] [(.ref x0), (.int (1 : Int32))])) rfl rfl (hb hby d4_5)
  refine Goes.step st2 ?_
  show Goes _ _ _ _ _ _ _ (T2.setTop (mkF m 8 _ [(.ref nd), (.int (1 : Int32))]))
  obtain ⟨cl3, Ar3, q3, S3, P3, H3, G3⟩ := id V_nd
  refine Goes.step (fun _ k => X2.arraylength hx (by rw [e2]; exact Ar3.1) (State.isArrayOf_alike hZ.alike Ar3.2.1) (g := (mkF m 8 #[.val (.ref x0), .val (.int x1), .val (.double (FP.i2d kx)), .second, .unset, .unset] [(.ref nd), (.int (1 : Int32))])) rfl rfl (hb hby d4_8) _ k) ?_
  rw [len_of S3 P3]
  show Goes _ _ _ _ _ _ _ (T2.setTop (mkF m 9 _ [(.int (64 : Int32)), (.int (1 : Int32))]))
  refine Goes.step (fun _ k => XS.icmpYes X2.here hx rfl (pc0 := 9) (pc' := 46) rfl (hb hby d4_9) rfl (feq (by decide : ¬ ((1 : Int32) = (64 : Int32)))).2 (by decide) (by decide) k) ?_
  show Goes _ _ _ _ _ _ _ (T2.setTop (mkF m 46 _ []))
  refine Goes.step (fun _ k => XS.aloadN X2.here hx rfl (hb hby d4_46) rfl rfl k) ?_
  refine Goes.step (fun _ k => XS.dup X2.here hx rfl (hb hby d4_47) rfl rfl k) ?_
  obtain ⟨T4, X4, e4, st4⟩ := getF X2 hx hZ hown (host := "") (Or.inl w_24) Via.refl e2 F_size (g := (mkF m 48 #[.val (.ref x0), .val (.int x1), .val (.double (FP.i2d kx)), .second, .unset, .unset] [(.ref x0), (.ref x0)])) rfl rfl (hb hby d4_48)
  refine Goes.step st4 ?_
  show Goes _ _ _ _ _ _ _ (T4.setTop (mkF m 51 _ [(.int (1 : Int32)), (.ref x0)]))
  refine Goes.step (fun _ k => XS.dupX1 X4.here hx rfl (hb hby d4_51) rfl rfl rfl k) ?_
  show Goes _ _ _ _ _ _ _ (T4.setTop (mkF m 52 _ [(.int (1 : Int32)), (.ref x0), (.int (1 : Int32))]))
  refine Goes.step (fun _ k => XS.iconst X4.here hx rfl (hb hby d4_52) k) ?_
  refine Goes.step (fun _ k => XS.iadd X4.here hx rfl (hb hby d4_53) rfl k) ?_
  show Goes _ _ _ _ _ _ _ (T4.setTop (mkF m 54 #[.val (.ref x0), .val (.int x1), .val (.double (FP.i2d kx)), .second, .unset, .unset] [(.int (2 : Int32)), (.ref x0), (.int (1 : Int32))]))
  obtain ⟨T5, h5, X5, e5, W5, st5⟩ := putF X4 hx hZ hown (host := "") (Or.inl w_24) Via.refl e4 F_size E_x0 (Or.inl w_25) w_6 (ty := .int) (by decide) rfl rfl (g := (mkF m 54 #[.val (.ref x0), .val (.int x1), .val (.double (FP.i2d kx)), .second, .unset, .unset] [(.int (2 : Int32)), (.ref x0), (.int (1 : Int32))])) rfl rfl (hb hby d4_54)
  refine Goes.step st5 ?_
  have f6 := F_size.same W5
  have f7 := F_nd.other W5 (Or.inr (slot_ne (Or.inl w_15) (Or.inl w_25) (by decide) (t := (.array .int)) (t' := .int) (by decide) (by decide)))
  have f8 := F_ky.other W5 (Or.inr (slot_ne (Or.inl w_18) (Or.inl w_25) (by decide) (t := (.array .double)) (t' := .int) (by decide) (by decide)))
  have f9 := E_x0.wr W5
  have f10 := V_nd.other W5 (Ne.symm ne1)
  have f11 := V_ky.other W5 (Ne.symm ne2)
  have K12 : Keep h0 h5 [x0, nd, ky] := K0.wr W5 (Or.inl (List.mem_of_getElem? (i := 0) rfl))
  have Z12 : n0 ≤ h5.size := by rw [Wr.size W5]; exact Z0
  have N12 := Fr.snoc X5 N0 g_x0
  show Goes _ _ _ _ _ _ _ (T5.setTop (mkF m 57 _ [(.int (1 : Int32))]))
  refine Goes.step (fun _ k => XS.istore X5.here hx rfl (hb hby d4_57) rfl (l' := #[.val (.ref x0), .val (.int x1), .val (.double (FP.i2d kx)), .second, .val (.int (1 : Int32)), .unset]) rfl k) ?_
  show Goes _ _ _ _ _ _ _ (T5.setTop (mkF m 59 _ []))
  refine Goes.step (fun _ k => XS.iload X5.here hx rfl (hb hby d4_59) rfl  k) ?_
  refine Goes.step (fun _ k => XS.ifNo X5.here hx rfl (hb hby d4_61) rfl ((if0 _ _).trans (tlt (by decide : (0 : Int32) < (1 : Int32))).2.2.2) k) ?_
  show Goes _ _ _ _ _ _ _ (T5.setTop (mkF m 64 _ []))
  refine Goes.step (fun _ k => XS.aloadN X5.here hx rfl (hb hby d4_64) rfl rfl k) ?_
  obtain ⟨T13, X13, e13, st13⟩ := getF X5 hx hZ hown (host := "") (Or.inl w_17) Via.refl e5 f8 (g := (mkF m 65 #[.val (.ref x0), .val (.int x1), .val (.double (FP.i2d kx)), .second, .val (.int (1 : Int32)), .unset] [(.ref x0)])) rfl rfl (hb hby d4_65)
  refine Goes.step st13 ?_
  show Goes _ _ _ _ _ _ _ (T13.setTop (mkF m 68 _ [(.ref ky)]))
  refine Goes.step (fun _ k => XS.iload X13.here hx rfl (hb hby d4_68) rfl  k) ?_
  refine Goes.step (fun _ k => XS.iconst X13.here hx rfl (hb hby d4_70) k) ?_
  refine Goes.step (fun _ k => XS.isub X13.here hx rfl (hb hby d4_71) rfl k) ?_
  show Goes _ _ _ _ _ _ _ (T13.setTop (mkF m 72 _ [(.int (0 : Int32)), (.ref ky)]))
  refine Goes.step (fun _ k => XS.iconst X13.here hx rfl (hb hby d4_72) k) ?_
  refine Goes.step (fun _ k => XS.idiv X13.here hx rfl (hb hby d4_73) rfl (by decide) k) ?_
  show Goes _ _ _ _ _ _ _ (T13.setTop (mkF m 74 _ [(.int (0 : Int32)), (.ref ky)]))
  obtain ⟨cl14, Ar14, q14, S14, P14, H14, G14⟩ := id f11
  have hin14 : ¬ ((0 : Int32) < 0 ∨ cl14.slots.size ≤ ((0 : Int32)).toNatClampNeg) := inb_of S14 ⟨by decide, by decide⟩
  have hat14 : cl14.slots[((0 : Int32)).toNatClampNeg]? = some (.double (FP.i2d vb0)) := H14 _ (by rw [S14]; decide)
  refine Goes.step (fun _ k => X13.daload hx (j := (0 : Int32)) (v := (.double (FP.i2d vb0))) (by rw [e13]; exact Ar14.1) (State.isArrayOf_alike hZ.alike Ar14.2.1) Ar14.2.2 hin14 hat14 (g := (mkF m 74 #[.val (.ref x0), .val (.int x1), .val (.double (FP.i2d kx)), .second, .val (.int (1 : Int32)), .unset] [(.int (0 : Int32)), (.ref ky)])) rfl rfl (hb hby d4_74) _ k) ?_
  show Goes _ _ _ _ _ _ _ (T13.setTop (mkF m 75 #[.val (.ref x0), .val (.int x1), .val (.double (FP.i2d kx)), .second, .val (.int (1 : Int32)), .unset] [(.double (FP.i2d vb0))]))
  refine Goes.step (fun _ k => XS.dloadN X13.here hx rfl (hb hby d4_75) rfl k) ?_
  refine Goes.step (fun _ k => XS.dcmpS X13.here hx rfl (hb hby d4_76) rfl rfl k) ?_
  show Goes _ _ _ _ _ _ _ (T13.setTop (mkF m 77 _ [(.int (cmpValue (FP.dcmp (FP.i2d vb0) (FP.i2d kx)) .l))]))
  by_cases c77_15 : kx < vb0
  · refine Goes.step (fun _ k => XS.ifNo X13.here hx rfl (hb hby d4_77) rfl ((if0 _ _).trans (tlt ((own_dgt _ _ _).mpr c77_15)).2.2.2) k) ?_
    show Goes _ _ _ _ _ _ _ (T13.setTop (mkF m 80 _ []))
    refine Goes.step (fun _ k => XS.iload X13.here hx rfl (hb hby d4_80) rfl  k) ?_
    refine Goes.step (fun _ k => XS.iconst X13.here hx rfl (hb hby d4_82) k) ?_
    refine Goes.step (fun _ k => XS.isub X13.here hx rfl (hb hby d4_83) rfl k) ?_
    show Goes _ _ _ _ _ _ _ (T13.setTop (mkF m 84 _ [(.int (0 : Int32))]))
    refine Goes.step (fun _ k => XS.iconst X13.here hx rfl (hb hby d4_84) k) ?_
    refine Goes.step (fun _ k => XS.idiv X13.here hx rfl (hb hby d4_85) rfl (by decide) k) ?_
    show Goes _ _ _ _ _ _ _ (T13.setTop (mkF m 86 _ [(.int (0 : Int32))]))
    refine Goes.step (fun _ k => XS.istore X13.here hx rfl (hb hby d4_86) rfl (l' := #[.val (.ref x0), .val (.int x1), .val (.double (FP.i2d kx)), .second, .val (.int (1 : Int32)), .val (.int (0 : Int32))]) rfl k) ?_
    show Goes _ _ _ _ _ _ _ (T13.setTop (mkF m 88 _ []))
    refine Goes.step (fun _ k => XS.aloadN X13.here hx rfl (hb hby d4_88) rfl rfl k) ?_
    obtain ⟨T16, X16, e16, st16⟩ := getF X13 hx hZ hown (host := "") (Or.inl w_14) Via.refl e13 f7 (g := (mkF m 89 #[.val (.ref x0), .val (.int x1), .val (.double (FP.i2d kx)), .second, .val (.int (1 : Int32)), .val (.int (0 : Int32))] [(.ref x0)])) rfl rfl (hb hby d4_89)
    refine Goes.step st16 ?_
    show Goes _ _ _ _ _ _ _ (T16.setTop (mkF m 92 _ [(.ref nd)]))
    refine Goes.step (fun _ k => XS.iload X16.here hx rfl (hb hby d4_92) rfl  k) ?_
    refine Goes.step (fun _ k => XS.aloadN X16.here hx rfl (hb hby d4_94) rfl rfl k) ?_
    obtain ⟨T17, X17, e17, st17⟩ := getF X16 hx hZ hown (host := "") (Or.inl w_14) Via.refl e16 f7 (g := (mkF m 95 #[.val (.ref x0), .val (.int x1), .val (.double (FP.i2d kx)), .second, .val (.int (1 : Int32)), .val (.int (0 : Int32))] [(.ref x0), (.int (1 : Int32)), (.ref nd)])) rfl rfl (hb hby d4_95)
    refine Goes.step st17 ?_
    show Goes _ _ _ _ _ _ _ (T17.setTop (mkF m 98 #[.val (.ref x0), .val (.int x1), .val (.double (FP.i2d kx)), .second, .val (.int (1 : Int32)), .val (.int (0 : Int32))] [(.ref nd), (.int (1 : Int32)), (.ref nd)]))
    refine Goes.step (fun _ k => XS.iload X17.here hx rfl (hb hby d4_98) rfl  k) ?_
    obtain ⟨cl18, Ar18, q18, S18, P18, H18, G18⟩ := id f10
    have hin18 : ¬ ((0 : Int32) < 0 ∨ cl18.slots.size ≤ ((0 : Int32)).toNatClampNeg) := inb_of S18 ⟨by decide, by decide⟩
    have hat18 : cl18.slots[((0 : Int32)).toNatClampNeg]? = some (.int va0) := H18 _ (by rw [S18]; decide)
    refine Goes.step (fun _ k => X17.iaload hx (j := (0 : Int32)) (v := (.int va0)) (by rw [e17]; exact Ar18.1) (State.isArrayOf_alike hZ.alike Ar18.2.1) Ar18.2.2 hin18 hat18 (g := (mkF m 100 #[.val (.ref x0), .val (.int x1), .val (.double (FP.i2d kx)), .second, .val (.int (1 : Int32)), .val (.int (0 : Int32))] [(.int (0 : Int32)), (.ref nd), (.int (1 : Int32)), (.ref nd)])) rfl rfl (hb hby d4_100) _ k) ?_
    show Goes _ _ _ _ _ _ _ (T17.setTop (mkF m 101 _ [(.int va0), (.int (1 : Int32)), (.ref nd)]))
    obtain ⟨cl19, Ar19, q19, S19, P19, H19, G19⟩ := id f10
    have hin19 : ¬ ((1 : Int32) < 0 ∨ cl19.slots.size ≤ ((1 : Int32)).toNatClampNeg) := inb_of S19 ⟨by decide, by decide⟩
    obtain ⟨T20, h20, X20, e20, W20, st20⟩ := stI X17 hx hZ e17 Ar19 (j := (1 : Int32)) hin19 (g := (mkF m 101 #[.val (.ref x0), .val (.int x1), .val (.double (FP.i2d kx)), .second, .val (.int (1 : Int32)), .val (.int (0 : Int32))] [(.int va0), (.int (1 : Int32)), (.ref nd)])) rfl rfl (hb hby d4_101)
    refine Goes.step st20 ?_
    have V20 := Arv.set Ar19 q19 S19 P19 H19 G19 rfl W20 1 rfl (Nat.le_of_ble_eq_true rfl)
    have f21 := f6.other W20 (Or.inl ne1)
    have f22 := f7.other W20 (Or.inl ne1)
    have f23 := f8.other W20 (Or.inl ne1)
    have f24 := f9.wr W20
    have f25 := V20
    have f26 := f11.other W20 (Ne.symm ne3)
    have K27 : Keep h0 h20 [x0, nd, ky] := K12.wr W20 (Or.inl (List.mem_of_getElem? (i := 1) rfl))
    have Z27 : n0 ≤ h20.size := by rw [Wr.size W20]; exact Z12
    have N27 := Fr.snoc X20 N12 g_nd
    show Goes _ _ _ _ _ _ _ (T20.setTop (mkF m 102 _ []))
    refine Goes.step (fun _ k => XS.aloadN X20.here hx rfl (hb hby d4_102) rfl rfl k) ?_
    obtain ⟨T28, X28, e28, st28⟩ := getF X20 hx hZ hown (host := "") (Or.inl w_17) Via.refl e20 f23 (g := (mkF m 103 #[.val (.ref x0), .val (.int x1), .val (.double (FP.i2d kx)), .second, .val (.int (1 : Int32)), .val (.int (0 : Int32))] [(.ref x0)])) rfl rfl (hb hby d4_103)
    refine Goes.step st28 ?_
    show Goes _ _ _ _ _ _ _ (T28.setTop (mkF m 106 _ [(.ref ky)]))
    refine Goes.step (fun _ k => XS.iload X28.here hx rfl (hb hby d4_106) rfl  k) ?_
    refine Goes.step (fun _ k => XS.aloadN X28.here hx rfl (hb hby d4_108) rfl rfl k) ?_
    obtain ⟨T29, X29, e29, st29⟩ := getF X28 hx hZ hown (host := "") (Or.inl w_17) Via.refl e28 f23 (g := (mkF m 109 #[.val (.ref x0), .val (.int x1), .val (.double (FP.i2d kx)), .second, .val (.int (1 : Int32)), .val (.int (0 : Int32))] [(.ref x0), (.int (1 : Int32)), (.ref ky)])) rfl rfl (hb hby d4_109)
    refine Goes.step st29 ?_
    show Goes _ _ _ _ _ _ _ (T29.setTop (mkF m 112 _ [(.ref ky), (.int (1 : Int32)), (.ref ky)]))
    refine Goes.step (fun _ k => XS.iload X29.here hx rfl (hb hby d4_112) rfl  k) ?_
    obtain ⟨cl30, Ar30, q30, S30, P30, H30, G30⟩ := id f26
    have hin30 : ¬ ((0 : Int32) < 0 ∨ cl30.slots.size ≤ ((0 : Int32)).toNatClampNeg) := inb_of S30 ⟨by decide, by decide⟩
    have hat30 : cl30.slots[((0 : Int32)).toNatClampNeg]? = some (.double (FP.i2d vb0)) := H30 _ (by rw [S30]; decide)
    refine Goes.step (fun _ k => X29.daload hx (j := (0 : Int32)) (v := (.double (FP.i2d vb0))) (by rw [e29]; exact Ar30.1) (State.isArrayOf_alike hZ.alike Ar30.2.1) Ar30.2.2 hin30 hat30 (g := (mkF m 114 #[.val (.ref x0), .val (.int x1), .val (.double (FP.i2d kx)), .second, .val (.int (1 : Int32)), .val (.int (0 : Int32))] [(.int (0 : Int32)), (.ref ky), (.int (1 : Int32)), (.ref ky)])) rfl rfl (hb hby d4_114) _ k) ?_
    show Goes _ _ _ _ _ _ _ (T29.setTop (mkF m 115 _ [(.double (FP.i2d vb0)), (.int (1 : Int32)), (.ref ky)]))
    obtain ⟨cl31, Ar31, q31, S31, P31, H31, G31⟩ := id f26
    have hin31 : ¬ ((1 : Int32) < 0 ∨ cl31.slots.size ≤ ((1 : Int32)).toNatClampNeg) := inb_of S31 ⟨by decide, by decide⟩
    obtain ⟨T32, h32, X32, e32, W32, st32⟩ := stD X29 hx hZ e29 Ar31 (j := (1 : Int32)) hin31 (g := (mkF m 115 #[.val (.ref x0), .val (.int x1), .val (.double (FP.i2d kx)), .second, .val (.int (1 : Int32)), .val (.int (0 : Int32))] [(.double (FP.i2d vb0)), (.int (1 : Int32)), (.ref ky)])) rfl rfl (hb hby d4_115)
    refine Goes.step st32 ?_
    have V32 := Arv.set Ar31 q31 S31 P31 H31 G31 rfl W32 1 rfl (Nat.le_of_ble_eq_true rfl)
    have f33 := f21.other W32 (Or.inl ne2)
    have f34 := f22.other W32 (Or.inl ne2)
    have f35 := f23.other W32 (Or.inl ne2)
    have f36 := f24.wr W32
    have f37 := f25.other W32 ne3
    have f38 := V32
    have K39 : Keep h0 h32 [x0, nd, ky] := K27.wr W32 (Or.inl (List.mem_of_getElem? (i := 2) rfl))
    have Z39 : n0 ≤ h32.size := by rw [Wr.size W32]; exact Z27
    have N39 := Fr.snoc X32 N27 g_ky
    show Goes _ _ _ _ _ _ _ (T32.setTop (mkF m 116 _ []))
    refine Goes.step (fun _ k => XS.iload X32.here hx rfl (hb hby d4_116) rfl  k) ?_
    refine Goes.step (fun _ k => XS.istore X32.here hx rfl (hb hby d4_118) rfl (l' := #[.val (.ref x0), .val (.int x1), .val (.double (FP.i2d kx)), .second, .val (.int (0 : Int32)), .val (.int (0 : Int32))]) rfl k) ?_
    show Goes _ _ _ _ _ _ _ (T32.setTop (mkF m 120 #[.val (.ref x0), .val (.int x1), .val (.double (FP.i2d kx)), .second, .val (.int (0 : Int32)), .val (.int (0 : Int32))] []))
    refine Goes.step (fun _ k => XS.goto X32.here hx rfl (pc0 := 120) (pc' := 59) rfl (hb hby d4_120) (by decide) (by decide) k) ?_
    show Goes _ _ _ _ _ _ _ (T32.setTop (mkF m 59 _ []))
    refine Goes.step (fun _ k => XS.iload X32.here hx rfl (hb hby d4_59) rfl  k) ?_
    refine Goes.step (fun _ k => XS.ifYes X32.here hx rfl (pc0 := 61) (pc' := 123) rfl (hb hby d4_61) rfl ((if0 _ _).trans (flt (by decide : ¬ ((0 : Int32) < (0 : Int32)))).2.2.2) (by decide) (by decide) k) ?_
    show Goes _ _ _ _ _ _ _ (T32.setTop (mkF m 123 _ []))
    refine Goes.step (fun _ k => XS.aloadN X32.here hx rfl (hb hby d4_123) rfl rfl k) ?_
    obtain ⟨T40, X40, e40, st40⟩ := getF X32 hx hZ hown (host := "") (Or.inl w_14) Via.refl e32 f34 (g := (mkF m 124 #[.val (.ref x0), .val (.int x1), .val (.double (FP.i2d kx)), .second, .val (.int (0 : Int32)), .val (.int (0 : Int32))] [(.ref x0)])) rfl rfl (hb hby d4_124)
    refine Goes.step st40 ?_
    show Goes _ _ _ _ _ _ _ (T40.setTop (mkF m 127 _ [(.ref nd)]))
    refine Goes.step (fun _ k => XS.iload X40.here hx rfl (hb hby d4_127) rfl  k) ?_
    refine Goes.step (fun _ k => XS.iloadN X40.here hx rfl (hb hby d4_129) rfl  k) ?_
    obtain ⟨cl41, Ar41, q41, S41, P41, H41, G41⟩ := id f37
    have hin41 : ¬ ((0 : Int32) < 0 ∨ cl41.slots.size ≤ ((0 : Int32)).toNatClampNeg) := inb_of S41 ⟨by decide, by decide⟩
    obtain ⟨T42, h42, X42, e42, W42, st42⟩ := stI X40 hx hZ e40 Ar41 (j := (0 : Int32)) hin41 (g := (mkF m 130 #[.val (.ref x0), .val (.int x1), .val (.double (FP.i2d kx)), .second, .val (.int (0 : Int32)), .val (.int (0 : Int32))] [(.int x1), (.int (0 : Int32)), (.ref nd)])) rfl rfl (hb hby d4_130)
    refine Goes.step st42 ?_
    have V42 := Arv.set Ar41 q41 S41 P41 H41 G41 rfl W42 0 rfl (Nat.le_of_ble_eq_true rfl)
    have f43 := f33.other W42 (Or.inl ne1)
    have f44 := f34.other W42 (Or.inl ne1)
    have f45 := f35.other W42 (Or.inl ne1)
    have f46 := f36.wr W42
    have f47 := V42
    have f48 := f38.other W42 (Ne.symm ne3)
    have K49 : Keep h0 h42 [x0, nd, ky] := K39.wr W42 (Or.inl (List.mem_of_getElem? (i := 1) rfl))
    have Z49 : n0 ≤ h42.size := by rw [Wr.size W42]; exact Z39
    have N49 := Fr.snoc X42 N39 g_nd
    show Goes _ _ _ _ _ _ _ (T42.setTop (mkF m 131 _ []))
    refine Goes.step (fun _ k => XS.aloadN X42.here hx rfl (hb hby d4_131) rfl rfl k) ?_
    obtain ⟨T50, X50, e50, st50⟩ := getF X42 hx hZ hown (host := "") (Or.inl w_17) Via.refl e42 f45 (g := (mkF m 132 #[.val (.ref x0), .val (.int x1), .val (.double (FP.i2d kx)), .second, .val (.int (0 : Int32)), .val (.int (0 : Int32))] [(.ref x0)])) rfl rfl (hb hby d4_132)
    refine Goes.step st50 ?_
    show Goes _ _ _ _ _ _ _ (T50.setTop (mkF m 135 _ [(.ref ky)]))
    refine Goes.step (fun _ k => XS.iload X50.here hx rfl (hb hby d4_135) rfl  k) ?_
    refine Goes.step (fun _ k => XS.dloadN X50.here hx rfl (hb hby d4_137) rfl k) ?_
    obtain ⟨cl51, Ar51, q51, S51, P51, H51, G51⟩ := id f48
    have hin51 : ¬ ((0 : Int32) < 0 ∨ cl51.slots.size ≤ ((0 : Int32)).toNatClampNeg) := inb_of S51 ⟨by decide, by decide⟩
    obtain ⟨T52, h52, X52, e52, W52, st52⟩ := stD X50 hx hZ e50 Ar51 (j := (0 : Int32)) hin51 (g := (mkF m 138 #[.val (.ref x0), .val (.int x1), .val (.double (FP.i2d kx)), .second, .val (.int (0 : Int32)), .val (.int (0 : Int32))] [(.double (FP.i2d kx)), (.int (0 : Int32)), (.ref ky)])) rfl rfl (hb hby d4_138)
    refine Goes.step st52 ?_
    have V52 := Arv.set Ar51 q51 S51 P51 H51 G51 rfl W52 0 rfl (Nat.le_of_ble_eq_true rfl)
    have f53 := f43.other W52 (Or.inl ne2)
    have f54 := f44.other W52 (Or.inl ne2)
    have f55 := f45.other W52 (Or.inl ne2)
    have f56 := f46.wr W52
    have f57 := f47.other W52 ne3
    have f58 := V52
    have K59 : Keep h0 h52 [x0, nd, ky] := K49.wr W52 (Or.inl (List.mem_of_getElem? (i := 2) rfl))
    have Z59 : n0 ≤ h52.size := by rw [Wr.size W52]; exact Z49
    have N59 := Fr.snoc X52 N49 g_ky
    show Goes _ _ _ _ _ _ _ (T52.setTop (mkF m 139 _ []))
    have ph0 := own_l c77_15
    exact Goes.retV X52 hx (BodyLoose.notSynchronized Bd) Bd.returns (hb hby d4_139) (by show Q4_1 Z x0 x1 kx nd ky kn kd va0 vb0 h0 n0 none T52.heap _; rw [e52]; exact ⟨N59, K59, rfl, f53, f54, f55, x1, va0, kx, vb0, f57, f58, (List.Perm.map (fun i => ([(x1, kx), (va0, vb0)] : List (Int32 × Int32)).getD i (0, 0)) (by decide : ([0, 1] : List Nat).Perm [0, 1])), by omega⟩) (by decide) (by decide)
  · refine Goes.step (fun _ k => XS.ifYes X13.here hx rfl (pc0 := 77) (pc' := 123) rfl (hb hby d4_77) rfl ((if0 _ _).trans (flt (fun q => c77_15 ((own_dgt _ _ _).mp q))).2.2.2) (by decide) (by decide) k) ?_
    show Goes _ _ _ _ _ _ _ (T13.setTop (mkF m 123 _ []))
    refine Goes.step (fun _ k => XS.aloadN X13.here hx rfl (hb hby d4_123) rfl rfl k) ?_
    obtain ⟨T60, X60, e60, st60⟩ := getF X13 hx hZ hown (host := "") (Or.inl w_14) Via.refl e13 f7 (g := (mkF m 124 #[.val (.ref x0), .val (.int x1), .val (.double (FP.i2d kx)), .second, .val (.int (1 : Int32)), .unset] [(.ref x0)])) rfl rfl (hb hby d4_124)
    refine Goes.step st60 ?_
    show Goes _ _ _ _ _ _ _ (T60.setTop (mkF m 127 _ [(.ref nd)]))
    refine Goes.step (fun _ k => XS.iload X60.here hx rfl (hb hby d4_127) rfl  k) ?_
    refine Goes.step (fun _ k => XS.iloadN X60.here hx rfl (hb hby d4_129) rfl  k) ?_
    obtain ⟨cl61, Ar61, q61, S61, P61, H61, G61⟩ := id f10
    have hin61 : ¬ ((1 : Int32) < 0 ∨ cl61.slots.size ≤ ((1 : Int32)).toNatClampNeg) := inb_of S61 ⟨by decide, by decide⟩
    obtain ⟨T62, h62, X62, e62, W62, st62⟩ := stI X60 hx hZ e60 Ar61 (j := (1 : Int32)) hin61 (g := (mkF m 130 #[.val (.ref x0), .val (.int x1), .val (.double (FP.i2d kx)), .second, .val (.int (1 : Int32)), .unset] [(.int x1), (.int (1 : Int32)), (.ref nd)])) rfl rfl (hb hby d4_130)
    refine Goes.step st62 ?_
    have V62 := Arv.set Ar61 q61 S61 P61 H61 G61 rfl W62 1 rfl (Nat.le_of_ble_eq_true rfl)
    have f63 := f6.other W62 (Or.inl ne1)
    have f64 := f7.other W62 (Or.inl ne1)
    have f65 := f8.other W62 (Or.inl ne1)
    have f66 := f9.wr W62
    have f67 := V62
    have f68 := f11.other W62 (Ne.symm ne3)
    have K69 : Keep h0 h62 [x0, nd, ky] := K12.wr W62 (Or.inl (List.mem_of_getElem? (i := 1) rfl))
    have Z69 : n0 ≤ h62.size := by rw [Wr.size W62]; exact Z12
    have N69 := Fr.snoc X62 N12 g_nd
    show Goes _ _ _ _ _ _ _ (T62.setTop (mkF m 131 _ []))
    refine Goes.step (fun _ k => XS.aloadN X62.here hx rfl (hb hby d4_131) rfl rfl k) ?_
    obtain ⟨T70, X70, e70, st70⟩ := getF X62 hx hZ hown (host := "") (Or.inl w_17) Via.refl e62 f65 (g := (mkF m 132 #[.val (.ref x0), .val (.int x1), .val (.double (FP.i2d kx)), .second, .val (.int (1 : Int32)), .unset] [(.ref x0)])) rfl rfl (hb hby d4_132)
    refine Goes.step st70 ?_
    show Goes _ _ _ _ _ _ _ (T70.setTop (mkF m 135 _ [(.ref ky)]))
    refine Goes.step (fun _ k => XS.iload X70.here hx rfl (hb hby d4_135) rfl  k) ?_
    refine Goes.step (fun _ k => XS.dloadN X70.here hx rfl (hb hby d4_137) rfl k) ?_
    obtain ⟨cl71, Ar71, q71, S71, P71, H71, G71⟩ := id f68
    have hin71 : ¬ ((1 : Int32) < 0 ∨ cl71.slots.size ≤ ((1 : Int32)).toNatClampNeg) := inb_of S71 ⟨by decide, by decide⟩
    obtain ⟨T72, h72, X72, e72, W72, st72⟩ := stD X70 hx hZ e70 Ar71 (j := (1 : Int32)) hin71 (g := (mkF m 138 #[.val (.ref x0), .val (.int x1), .val (.double (FP.i2d kx)), .second, .val (.int (1 : Int32)), .unset] [(.double (FP.i2d kx)), (.int (1 : Int32)), (.ref ky)])) rfl rfl (hb hby d4_138)
    refine Goes.step st72 ?_
    have V72 := Arv.set Ar71 q71 S71 P71 H71 G71 rfl W72 1 rfl (Nat.le_of_ble_eq_true rfl)
    have f73 := f63.other W72 (Or.inl ne2)
    have f74 := f64.other W72 (Or.inl ne2)
    have f75 := f65.other W72 (Or.inl ne2)
    have f76 := f66.wr W72
    have f77 := f67.other W72 ne3
    have f78 := V72
    have K79 : Keep h0 h72 [x0, nd, ky] := K69.wr W72 (Or.inl (List.mem_of_getElem? (i := 2) rfl))
    have Z79 : n0 ≤ h72.size := by rw [Wr.size W72]; exact Z69
    have N79 := Fr.snoc X72 N69 g_ky
    show Goes _ _ _ _ _ _ _ (T72.setTop (mkF m 139 _ []))
    have ph0 := own_nl c77_15
    exact Goes.retV X72 hx (BodyLoose.notSynchronized Bd) Bd.returns (hb hby d4_139) (by show Q4_1 Z x0 x1 kx nd ky kn kd va0 vb0 h0 n0 none T72.heap _; rw [e72]; exact ⟨N79, K79, rfl, f73, f74, f75, va0, x1, vb0, kx, f77, f78, (List.Perm.map (fun i => ([(x1, kx), (va0, vb0)] : List (Int32 × Int32)).getD i (0, 0)) (by decide : ([1, 0] : List Nat).Perm [0, 1])), by omega⟩) (by decide) (by decide)
theorem ef_4_2 (m : MethodId) (x0 : Addr) (x1 : Int32) (kx : Int32) (nd : Addr) (ky : Addr) (kn : ClassId) (kd : ClassId) (va0 : Int32) (va1 : Int32) (vb0 : Int32) (vb1 : Int32)  : entryFrame m #[(.ref x0), (.int x1), (.double (FP.i2d kx))] 6 = mkF m 0 #[.val (.ref x0), .val (.int x1), .val (.double (FP.i2d kx)), .second, .unset, .unset] [] := by first | (simp [entryFrame, mkF, argsToLocals, Value.category]; done) | rfl
def Q4_2 (Z : State) (x0 : Addr) (x1 : Int32) (kx : Int32) (nd : Addr) (ky : Addr) (kn : ClassId) (kd : ClassId) (va0 : Int32) (va1 : Int32) (vb0 : Int32) (vb1 : Int32) (h0 : Heap) (n0 : Nat) (v : Option Value) (h : Heap) (L : List Loc) : Prop := Fr n0 L ∧ Keep h0 h [x0, nd, ky] ∧ v = none ∧ Fld Z h x0 "com/example/hailwise/hailwise/NodeQueue" "size" "I" (.int (3 : Int32)) ∧ Fld Z h x0 "com/example/hailwise/hailwise/NodeQueue" "nodes" "[I" (.ref nd) ∧ Fld Z h x0 "com/example/hailwise/hailwise/NodeQueue" "keys" "[D" (.ref ky) ∧ ∃ p0 p1 p2 q0 q1 q2 : Int32, Arv Z h nd kn .int (64 : Int32) [(.int p0), (.int p1), (.int p2), (.int (0 : Int32)), (.int (0 : Int32)), (.int (0 : Int32))] (.int (0 : Int32)) ∧ Arv Z h ky kd .double (64 : Int32) [(.double (FP.i2d q0)), (.double (FP.i2d q1)), (.double (FP.i2d q2)), (.double (0 : UInt64)), (.double (0 : UInt64)), (.double (0 : UInt64))] (.double (0 : UInt64)) ∧ ([(p0, q0), (p1, q1), (p2, q2)] : List (Int32 × Int32)).Perm ((x1, kx) :: ([(va0, vb0), (va1, vb1)] : List (Int32 × Int32))) ∧ q0.toInt ≤ q1.toInt ∧ q0.toInt ≤ q2.toInt
set_option maxRecDepth 65536 in
set_option maxHeartbeats 40000000 in
theorem rm4_2 (l : Launch) (Z : State) (a0 : Array Value) (hw : ∀ d ∈ tables_1, d.before a0 Z = true) (ws : List Jvm.Cond) (x0 : Addr) (x1 : Int32) (kx : Int32) (nd : Addr) (ky : Addr) (kn : ClassId) (kd : ClassId) (va0 : Int32) (va1 : Int32) (vb0 : Int32) (vb1 : Int32) (h0 : Heap) (n0 : Nat) (Z0 : n0 ≤ h0.size) (F_size : Fld Z h0 x0 "com/example/hailwise/hailwise/NodeQueue" "size" "I" (.int (2 : Int32))) (F_nd : Fld Z h0 x0 "com/example/hailwise/hailwise/NodeQueue" "nodes" "[I" (.ref nd)) (F_ky : Fld Z h0 x0 "com/example/hailwise/hailwise/NodeQueue" "keys" "[D" (.ref ky)) (E_x0 : Exa Z h0 x0 "com/example/hailwise/hailwise/NodeQueue") (V_nd : Arv Z h0 nd kn .int (64 : Int32) [(.int va0), (.int va1), (.int (0 : Int32)), (.int (0 : Int32)), (.int (0 : Int32)), (.int (0 : Int32))] (.int (0 : Int32))) (V_ky : Arv Z h0 ky kd .double (64 : Int32) [(.double (FP.i2d vb0)), (.double (FP.i2d vb1)), (.double (0 : UInt64)), (.double (0 : UInt64)), (.double (0 : UInt64)), (.double (0 : UInt64))] (.double (0 : UInt64))) (g_x0 : n0 ≤ x0) (g_nd : n0 ≤ nd) (g_ky : n0 ≤ ky) (ne1 : x0 ≠ nd) (ne2 : x0 ≠ ky) (ne3 : nd ≠ ky) (ho01 : vb0.toInt ≤ vb1.toInt) :
    MetFree l (⟨"com/example/hailwise/hailwise/NodeQueue", "add", "(ID)V"⟩ : MethodName) (head1 (Jvm.Cond.code (⟨"com/example/hailwise/hailwise/NodeQueue", "add", "(ID)V"⟩ : MethodName) prog_21_method_4_code 6 none :: ws) ({ frames := 0, cells := 0, slots := 0, locals := 0 } : Room)) (fun a U => a = #[(.ref x0), (.int x1), (.double (FP.i2d kx))] ∧ Z.Warmed39 U.vm ∧ U.heap = h0) (fun _ _ _ _ _ => True) (fun _ U o U' => ∃ v L, o = .returned v ∧ Q4_2 Z x0 x1 kx nd ky kn kd va0 va1 vb0 vb1 h0 n0 v U'.heap L ∧ FrameEnd U o U' L ({ frames := 0, cells := 0, slots := 0, locals := 0 } : Room).cells ({ frames := 0, cells := 0, slots := 0, locals := 0 } : Room).slots) := by
  refine MetFree.of_bodySF (plainFor_of_name pn_4) hisR ?_
  intro p e s m args below meth c s₁ Bd hml0 hP hK
  obtain ⟨rfl, hZ, hh⟩ := hP
  have w_6 := hw _ (List.mem_of_getElem? (i := 6) rfl)
  have w_14 := hw _ (List.mem_of_getElem? (i := 14) rfl)
  have w_15 := hw _ (List.mem_of_getElem? (i := 15) rfl)
  have w_17 := hw _ (List.mem_of_getElem? (i := 17) rfl)
  have w_18 := hw _ (List.mem_of_getElem? (i := 18) rfl)
  have w_24 := hw _ (List.mem_of_getElem? (i := 24) rfl)
  have w_25 := hw _ (List.mem_of_getElem? (i := 25) rfl)
  have hx := Bd.exec
  have hby := Bd.bytes
  have hml : c.maxLocals = 6 := hml0
  have hown : s.vm.findClass "com/example/hailwise/hailwise/NodeQueue" = some m.cls := findClass_of_methodNamed Bd.named
  have hnm := (name_of_methodNamed Bd.named Bd.method).1
  have X0 : Stand p l e ({ frames := 0, cells := 0, slots := 0, locals := 0 } : Room) s m #[(.ref x0), (.int x1), (.double (FP.i2d kx))] below meth c s₁ [] 0 0 := Stand.of_body Bd
  have e0 : s₁.heap = h0 := by rw [← hh, Bd.state]; rfl
  have N0 := Fr.nil n0
  have K0 : Keep h0 h0 [x0, nd, ky] := Keep.refl h0 _
  refine (?_ : Goes p e below s ({ frames := 0, cells := 0, slots := 0, locals := 0 } : Room).cells ({ frames := 0, cells := 0, slots := 0, locals := 0 } : Room).slots (fun v h L => Q4_2 Z x0 x1 kx nd ky kn kd va0 va1 vb0 vb1 h0 n0 v h L) (s₁.setTop (entryFrame m #[(.ref x0), (.int x1), (.double (FP.i2d kx))] 6)))
  rw [ef_4_2 m x0 x1 kx nd ky kn kd va0 va1 vb0 vb1 ]
  show Goes _ _ _ _ _ _ _ (s₁.setTop (mkF m 0 #[.val (.ref x0), .val (.int x1), .val (.double (FP.i2d kx)), .second, .unset, .unset] []))
  refine Goes.step (fun _ k => XS.aloadN X0.here hx rfl (hb hby d4_0) rfl rfl k) ?_
  obtain ⟨T1, X1, e1, st1⟩ := getF X0 hx hZ hown (host := "") (Or.inl w_24) Via.refl e0 F_size (g := (mkF m 1 #[.val (.ref x0), .val (.int x1), .val (.double (FP.i2d kx)), .second, .unset, .unset] [(.ref x0)])) rfl rfl (hb hby d4_1)
  refine Goes.step st1 ?_
  show Goes _ _ _ _ _ _ _ (T1.setTop (mkF m 4 _ [(.int (2 : Int32))]))
  refine Goes.step (fun _ k => XS.aloadN X1.here hx rfl (hb hby d4_4) rfl rfl k) ?_
  obtain ⟨T2, X2, e2, st2⟩ := getF X1 hx hZ hown (host := "") (Or.inl w_14) Via.refl e1 F_nd (g := (mkF m 5 #[.val (.ref x0), .val (.int x1), .val (.double (FP.i2d kx)), .second, .unset, .unset] [(.ref x0), (.int (2 : Int32))])) rfl rfl (hb hby d4_5)
  refine Goes.step st2 ?_
  show Goes _ _ _ _ _ _ _ (T2.setTop (mkF m 8 _ [(.ref nd), (.int (2 : Int32))]))
  obtain ⟨cl3, Ar3, q3, S3, P3, H3, G3⟩ := id V_nd
  refine Goes.step (fun _ k => X2.arraylength hx (by rw [e2]; exact Ar3.1) (State.isArrayOf_alike hZ.alike Ar3.2.1) (g := (mkF m 8 #[.val (.ref x0), .val (.int x1), .val (.double (FP.i2d kx)), .second, .unset, .unset] [(.ref nd), (.int (2 : Int32))])) rfl rfl (hb hby d4_8) _ k) ?_
  rw [len_of S3 P3]
  show Goes _ _ _ _ _ _ _ (T2.setTop (mkF m 9 _ [(.int (64 : Int32)), (.int (2 : Int32))]))
  refine Goes.step (fun _ k => XS.icmpYes X2.here hx rfl (pc0 := 9) (pc' := 46) rfl (hb hby d4_9) rfl (feq (by decide : ¬ ((2 : Int32) = (64 : Int32)))).2 (by decide) (by decide) k) ?_
  show Goes _ _ _ _ _ _ _ (T2.setTop (mkF m 46 _ []))
  refine Goes.step (fun _ k => XS.aloadN X2.here hx rfl (hb hby d4_46) rfl rfl k) ?_
  refine Goes.step (fun _ k => XS.dup X2.here hx rfl (hb hby d4_47) rfl rfl k) ?_
  obtain ⟨T4, X4, e4, st4⟩ := getF X2 hx hZ hown (host := "") (Or.inl w_24) Via.refl e2 F_size (g := (mkF m 48 #[.val (.ref x0), .val (.int x1), .val (.double (FP.i2d kx)), .second, .unset, .unset] [(.ref x0), (.ref x0)])) rfl rfl (hb hby d4_48)
  refine Goes.step st4 ?_
  show Goes _ _ _ _ _ _ _ (T4.setTop (mkF m 51 _ [(.int (2 : Int32)), (.ref x0)]))
  refine Goes.step (fun _ k => XS.dupX1 X4.here hx rfl (hb hby d4_51) rfl rfl rfl k) ?_
  show Goes _ _ _ _ _ _ _ (T4.setTop (mkF m 52 _ [(.int (2 : Int32)), (.ref x0), (.int (2 : Int32))]))
  refine Goes.step (fun _ k => XS.iconst X4.here hx rfl (hb hby d4_52) k) ?_
  refine Goes.step (fun _ k => XS.iadd X4.here hx rfl (hb hby d4_53) rfl k) ?_
  show Goes _ _ _ _ _ _ _ (T4.setTop (mkF m 54 #[.val (.ref x0), .val (.int x1), .val (.double (FP.i2d kx)), .second, .unset, .unset] [(.int (3 : Int32)), (.ref x0), (.int (2 : Int32))]))
  obtain ⟨T5, h5, X5, e5, W5, st5⟩ := putF X4 hx hZ hown (host := "") (Or.inl w_24) Via.refl e4 F_size E_x0 (Or.inl w_25) w_6 (ty := .int) (by decide) rfl rfl (g := (mkF m 54 #[.val (.ref x0), .val (.int x1), .val (.double (FP.i2d kx)), .second, .unset, .unset] [(.int (3 : Int32)), (.ref x0), (.int (2 : Int32))])) rfl rfl (hb hby d4_54)
  refine Goes.step st5 ?_
  have f6 := F_size.same W5
  have f7 := F_nd.other W5 (Or.inr (slot_ne (Or.inl w_15) (Or.inl w_25) (by decide) (t := (.array .int)) (t' := .int) (by decide) (by decide)))
  have f8 := F_ky.other W5 (Or.inr (slot_ne (Or.inl w_18) (Or.inl w_25) (by decide) (t := (.array .double)) (t' := .int) (by decide) (by decide)))
  have f9 := E_x0.wr W5
  have f10 := V_nd.other W5 (Ne.symm ne1)
  have f11 := V_ky.other W5 (Ne.symm ne2)
  have K12 : Keep h0 h5 [x0, nd, ky] := K0.wr W5 (Or.inl (List.mem_of_getElem? (i := 0) rfl))
  have Z12 : n0 ≤ h5.size := by rw [Wr.size W5]; exact Z0
  have N12 := Fr.snoc X5 N0 g_x0
  show Goes _ _ _ _ _ _ _ (T5.setTop (mkF m 57 _ [(.int (2 : Int32))]))
  refine Goes.step (fun _ k => XS.istore X5.here hx rfl (hb hby d4_57) rfl (l' := #[.val (.ref x0), .val (.int x1), .val (.double (FP.i2d kx)), .second, .val (.int (2 : Int32)), .unset]) rfl k) ?_
  show Goes _ _ _ _ _ _ _ (T5.setTop (mkF m 59 _ []))
  refine Goes.step (fun _ k => XS.iload X5.here hx rfl (hb hby d4_59) rfl  k) ?_
  refine Goes.step (fun _ k => XS.ifNo X5.here hx rfl (hb hby d4_61) rfl ((if0 _ _).trans (tlt (by decide : (0 : Int32) < (2 : Int32))).2.2.2) k) ?_
  show Goes _ _ _ _ _ _ _ (T5.setTop (mkF m 64 _ []))
  refine Goes.step (fun _ k => XS.aloadN X5.here hx rfl (hb hby d4_64) rfl rfl k) ?_
  obtain ⟨T13, X13, e13, st13⟩ := getF X5 hx hZ hown (host := "") (Or.inl w_17) Via.refl e5 f8 (g := (mkF m 65 #[.val (.ref x0), .val (.int x1), .val (.double (FP.i2d kx)), .second, .val (.int (2 : Int32)), .unset] [(.ref x0)])) rfl rfl (hb hby d4_65)
  refine Goes.step st13 ?_
  show Goes _ _ _ _ _ _ _ (T13.setTop (mkF m 68 _ [(.ref ky)]))
  refine Goes.step (fun _ k => XS.iload X13.here hx rfl (hb hby d4_68) rfl  k) ?_
  refine Goes.step (fun _ k => XS.iconst X13.here hx rfl (hb hby d4_70) k) ?_
  refine Goes.step (fun _ k => XS.isub X13.here hx rfl (hb hby d4_71) rfl k) ?_
  show Goes _ _ _ _ _ _ _ (T13.setTop (mkF m 72 _ [(.int (1 : Int32)), (.ref ky)]))
  refine Goes.step (fun _ k => XS.iconst X13.here hx rfl (hb hby d4_72) k) ?_
  refine Goes.step (fun _ k => XS.idiv X13.here hx rfl (hb hby d4_73) rfl (by decide) k) ?_
  show Goes _ _ _ _ _ _ _ (T13.setTop (mkF m 74 _ [(.int (0 : Int32)), (.ref ky)]))
  obtain ⟨cl14, Ar14, q14, S14, P14, H14, G14⟩ := id f11
  have hin14 : ¬ ((0 : Int32) < 0 ∨ cl14.slots.size ≤ ((0 : Int32)).toNatClampNeg) := inb_of S14 ⟨by decide, by decide⟩
  have hat14 : cl14.slots[((0 : Int32)).toNatClampNeg]? = some (.double (FP.i2d vb0)) := H14 _ (by rw [S14]; decide)
  refine Goes.step (fun _ k => X13.daload hx (j := (0 : Int32)) (v := (.double (FP.i2d vb0))) (by rw [e13]; exact Ar14.1) (State.isArrayOf_alike hZ.alike Ar14.2.1) Ar14.2.2 hin14 hat14 (g := (mkF m 74 #[.val (.ref x0), .val (.int x1), .val (.double (FP.i2d kx)), .second, .val (.int (2 : Int32)), .unset] [(.int (0 : Int32)), (.ref ky)])) rfl rfl (hb hby d4_74) _ k) ?_
  show Goes _ _ _ _ _ _ _ (T13.setTop (mkF m 75 #[.val (.ref x0), .val (.int x1), .val (.double (FP.i2d kx)), .second, .val (.int (2 : Int32)), .unset] [(.double (FP.i2d vb0))]))
  refine Goes.step (fun _ k => XS.dloadN X13.here hx rfl (hb hby d4_75) rfl k) ?_
  refine Goes.step (fun _ k => XS.dcmpS X13.here hx rfl (hb hby d4_76) rfl rfl k) ?_
  show Goes _ _ _ _ _ _ _ (T13.setTop (mkF m 77 _ [(.int (cmpValue (FP.dcmp (FP.i2d vb0) (FP.i2d kx)) .l))]))
  by_cases c77_15 : kx < vb0
  · refine Goes.step (fun _ k => XS.ifNo X13.here hx rfl (hb hby d4_77) rfl ((if0 _ _).trans (tlt ((own_dgt _ _ _).mpr c77_15)).2.2.2) k) ?_
    show Goes _ _ _ _ _ _ _ (T13.setTop (mkF m 80 _ []))
    refine Goes.step (fun _ k => XS.iload X13.here hx rfl (hb hby d4_80) rfl  k) ?_
    refine Goes.step (fun _ k => XS.iconst X13.here hx rfl (hb hby d4_82) k) ?_
    refine Goes.step (fun _ k => XS.isub X13.here hx rfl (hb hby d4_83) rfl k) ?_
    show Goes _ _ _ _ _ _ _ (T13.setTop (mkF m 84 _ [(.int (1 : Int32))]))
    refine Goes.step (fun _ k => XS.iconst X13.here hx rfl (hb hby d4_84) k) ?_
    refine Goes.step (fun _ k => XS.idiv X13.here hx rfl (hb hby d4_85) rfl (by decide) k) ?_
    show Goes _ _ _ _ _ _ _ (T13.setTop (mkF m 86 _ [(.int (0 : Int32))]))
    refine Goes.step (fun _ k => XS.istore X13.here hx rfl (hb hby d4_86) rfl (l' := #[.val (.ref x0), .val (.int x1), .val (.double (FP.i2d kx)), .second, .val (.int (2 : Int32)), .val (.int (0 : Int32))]) rfl k) ?_
    show Goes _ _ _ _ _ _ _ (T13.setTop (mkF m 88 _ []))
    refine Goes.step (fun _ k => XS.aloadN X13.here hx rfl (hb hby d4_88) rfl rfl k) ?_
    obtain ⟨T16, X16, e16, st16⟩ := getF X13 hx hZ hown (host := "") (Or.inl w_14) Via.refl e13 f7 (g := (mkF m 89 #[.val (.ref x0), .val (.int x1), .val (.double (FP.i2d kx)), .second, .val (.int (2 : Int32)), .val (.int (0 : Int32))] [(.ref x0)])) rfl rfl (hb hby d4_89)
    refine Goes.step st16 ?_
    show Goes _ _ _ _ _ _ _ (T16.setTop (mkF m 92 _ [(.ref nd)]))
    refine Goes.step (fun _ k => XS.iload X16.here hx rfl (hb hby d4_92) rfl  k) ?_
    refine Goes.step (fun _ k => XS.aloadN X16.here hx rfl (hb hby d4_94) rfl rfl k) ?_
    obtain ⟨T17, X17, e17, st17⟩ := getF X16 hx hZ hown (host := "") (Or.inl w_14) Via.refl e16 f7 (g := (mkF m 95 #[.val (.ref x0), .val (.int x1), .val (.double (FP.i2d kx)), .second, .val (.int (2 : Int32)), .val (.int (0 : Int32))] [(.ref x0), (.int (2 : Int32)), (.ref nd)])) rfl rfl (hb hby d4_95)
    refine Goes.step st17 ?_
    show Goes _ _ _ _ _ _ _ (T17.setTop (mkF m 98 #[.val (.ref x0), .val (.int x1), .val (.double (FP.i2d kx)), .second, .val (.int (2 : Int32)), .val (.int (0 : Int32))] [(.ref nd), (.int (2 : Int32)), (.ref nd)]))
    refine Goes.step (fun _ k => XS.iload X17.here hx rfl (hb hby d4_98) rfl  k) ?_
    obtain ⟨cl18, Ar18, q18, S18, P18, H18, G18⟩ := id f10
    have hin18 : ¬ ((0 : Int32) < 0 ∨ cl18.slots.size ≤ ((0 : Int32)).toNatClampNeg) := inb_of S18 ⟨by decide, by decide⟩
    have hat18 : cl18.slots[((0 : Int32)).toNatClampNeg]? = some (.int va0) := H18 _ (by rw [S18]; decide)
    refine Goes.step (fun _ k => X17.iaload hx (j := (0 : Int32)) (v := (.int va0)) (by rw [e17]; exact Ar18.1) (State.isArrayOf_alike hZ.alike Ar18.2.1) Ar18.2.2 hin18 hat18 (g := (mkF m 100 #[.val (.ref x0), .val (.int x1), .val (.double (FP.i2d kx)), .second, .val (.int (2 : Int32)), .val (.int (0 : Int32))] [(.int (0 : Int32)), (.ref nd), (.int (2 : Int32)), (.ref nd)])) rfl rfl (hb hby d4_100) _ k) ?_
    show Goes _ _ _ _ _ _ _ (T17.setTop (mkF m 101 _ [(.int va0), (.int (2 : Int32)), (.ref nd)]))
    obtain ⟨cl19, Ar19, q19, S19, P19, H19, G19⟩ := id f10
    have hin19 : ¬ ((2 : Int32) < 0 ∨ cl19.slots.size ≤ ((2 : Int32)).toNatClampNeg) := inb_of S19 ⟨by decide, by decide⟩
    obtain ⟨T20, h20, X20, e20, W20, st20⟩ := stI X17 hx hZ e17 Ar19 (j := (2 : Int32)) hin19 (g := (mkF m 101 #[.val (.ref x0), .val (.int x1), .val (.double (FP.i2d kx)), .second, .val (.int (2 : Int32)), .val (.int (0 : Int32))] [(.int va0), (.int (2 : Int32)), (.ref nd)])) rfl rfl (hb hby d4_101)
    refine Goes.step st20 ?_
    have V20 := Arv.set Ar19 q19 S19 P19 H19 G19 rfl W20 2 rfl (Nat.le_of_ble_eq_true rfl)
    have f21 := f6.other W20 (Or.inl ne1)
    have f22 := f7.other W20 (Or.inl ne1)
    have f23 := f8.other W20 (Or.inl ne1)
    have f24 := f9.wr W20
    have f25 := V20
    have f26 := f11.other W20 (Ne.symm ne3)
    have K27 : Keep h0 h20 [x0, nd, ky] := K12.wr W20 (Or.inl (List.mem_of_getElem? (i := 1) rfl))
    have Z27 : n0 ≤ h20.size := by rw [Wr.size W20]; exact Z12
    have N27 := Fr.snoc X20 N12 g_nd
    show Goes _ _ _ _ _ _ _ (T20.setTop (mkF m 102 _ []))
    refine Goes.step (fun _ k => XS.aloadN X20.here hx rfl (hb hby d4_102) rfl rfl k) ?_
    obtain ⟨T28, X28, e28, st28⟩ := getF X20 hx hZ hown (host := "") (Or.inl w_17) Via.refl e20 f23 (g := (mkF m 103 #[.val (.ref x0), .val (.int x1), .val (.double (FP.i2d kx)), .second, .val (.int (2 : Int32)), .val (.int (0 : Int32))] [(.ref x0)])) rfl rfl (hb hby d4_103)
    refine Goes.step st28 ?_
    show Goes _ _ _ _ _ _ _ (T28.setTop (mkF m 106 _ [(.ref ky)]))
    refine Goes.step (fun _ k => XS.iload X28.here hx rfl (hb hby d4_106) rfl  k) ?_
    refine Goes.step (fun _ k => XS.aloadN X28.here hx rfl (hb hby d4_108) rfl rfl k) ?_
    obtain ⟨T29, X29, e29, st29⟩ := getF X28 hx hZ hown (host := "") (Or.inl w_17) Via.refl e28 f23 (g := (mkF m 109 #[.val (.ref x0), .val (.int x1), .val (.double (FP.i2d kx)), .second, .val (.int (2 : Int32)), .val (.int (0 : Int32))] [(.ref x0), (.int (2 : Int32)), (.ref ky)])) rfl rfl (hb hby d4_109)
    refine Goes.step st29 ?_
    show Goes _ _ _ _ _ _ _ (T29.setTop (mkF m 112 _ [(.ref ky), (.int (2 : Int32)), (.ref ky)]))
    refine Goes.step (fun _ k => XS.iload X29.here hx rfl (hb hby d4_112) rfl  k) ?_
    obtain ⟨cl30, Ar30, q30, S30, P30, H30, G30⟩ := id f26
    have hin30 : ¬ ((0 : Int32) < 0 ∨ cl30.slots.size ≤ ((0 : Int32)).toNatClampNeg) := inb_of S30 ⟨by decide, by decide⟩
    have hat30 : cl30.slots[((0 : Int32)).toNatClampNeg]? = some (.double (FP.i2d vb0)) := H30 _ (by rw [S30]; decide)
    refine Goes.step (fun _ k => X29.daload hx (j := (0 : Int32)) (v := (.double (FP.i2d vb0))) (by rw [e29]; exact Ar30.1) (State.isArrayOf_alike hZ.alike Ar30.2.1) Ar30.2.2 hin30 hat30 (g := (mkF m 114 #[.val (.ref x0), .val (.int x1), .val (.double (FP.i2d kx)), .second, .val (.int (2 : Int32)), .val (.int (0 : Int32))] [(.int (0 : Int32)), (.ref ky), (.int (2 : Int32)), (.ref ky)])) rfl rfl (hb hby d4_114) _ k) ?_
    show Goes _ _ _ _ _ _ _ (T29.setTop (mkF m 115 _ [(.double (FP.i2d vb0)), (.int (2 : Int32)), (.ref ky)]))
    obtain ⟨cl31, Ar31, q31, S31, P31, H31, G31⟩ := id f26
    have hin31 : ¬ ((2 : Int32) < 0 ∨ cl31.slots.size ≤ ((2 : Int32)).toNatClampNeg) := inb_of S31 ⟨by decide, by decide⟩
    obtain ⟨T32, h32, X32, e32, W32, st32⟩ := stD X29 hx hZ e29 Ar31 (j := (2 : Int32)) hin31 (g := (mkF m 115 #[.val (.ref x0), .val (.int x1), .val (.double (FP.i2d kx)), .second, .val (.int (2 : Int32)), .val (.int (0 : Int32))] [(.double (FP.i2d vb0)), (.int (2 : Int32)), (.ref ky)])) rfl rfl (hb hby d4_115)
    refine Goes.step st32 ?_
    have V32 := Arv.set Ar31 q31 S31 P31 H31 G31 rfl W32 2 rfl (Nat.le_of_ble_eq_true rfl)
    have f33 := f21.other W32 (Or.inl ne2)
    have f34 := f22.other W32 (Or.inl ne2)
    have f35 := f23.other W32 (Or.inl ne2)
    have f36 := f24.wr W32
    have f37 := f25.other W32 ne3
    have f38 := V32
    have K39 : Keep h0 h32 [x0, nd, ky] := K27.wr W32 (Or.inl (List.mem_of_getElem? (i := 2) rfl))
    have Z39 : n0 ≤ h32.size := by rw [Wr.size W32]; exact Z27
    have N39 := Fr.snoc X32 N27 g_ky
    show Goes _ _ _ _ _ _ _ (T32.setTop (mkF m 116 _ []))
    refine Goes.step (fun _ k => XS.iload X32.here hx rfl (hb hby d4_116) rfl  k) ?_
    refine Goes.step (fun _ k => XS.istore X32.here hx rfl (hb hby d4_118) rfl (l' := #[.val (.ref x0), .val (.int x1), .val (.double (FP.i2d kx)), .second, .val (.int (0 : Int32)), .val (.int (0 : Int32))]) rfl k) ?_
    show Goes _ _ _ _ _ _ _ (T32.setTop (mkF m 120 #[.val (.ref x0), .val (.int x1), .val (.double (FP.i2d kx)), .second, .val (.int (0 : Int32)), .val (.int (0 : Int32))] []))
    refine Goes.step (fun _ k => XS.goto X32.here hx rfl (pc0 := 120) (pc' := 59) rfl (hb hby d4_120) (by decide) (by decide) k) ?_
    show Goes _ _ _ _ _ _ _ (T32.setTop (mkF m 59 _ []))
    refine Goes.step (fun _ k => XS.iload X32.here hx rfl (hb hby d4_59) rfl  k) ?_
    refine Goes.step (fun _ k => XS.ifYes X32.here hx rfl (pc0 := 61) (pc' := 123) rfl (hb hby d4_61) rfl ((if0 _ _).trans (flt (by decide : ¬ ((0 : Int32) < (0 : Int32)))).2.2.2) (by decide) (by decide) k) ?_
    show Goes _ _ _ _ _ _ _ (T32.setTop (mkF m 123 _ []))
    refine Goes.step (fun _ k => XS.aloadN X32.here hx rfl (hb hby d4_123) rfl rfl k) ?_
    obtain ⟨T40, X40, e40, st40⟩ := getF X32 hx hZ hown (host := "") (Or.inl w_14) Via.refl e32 f34 (g := (mkF m 124 #[.val (.ref x0), .val (.int x1), .val (.double (FP.i2d kx)), .second, .val (.int (0 : Int32)), .val (.int (0 : Int32))] [(.ref x0)])) rfl rfl (hb hby d4_124)
    refine Goes.step st40 ?_
    show Goes _ _ _ _ _ _ _ (T40.setTop (mkF m 127 _ [(.ref nd)]))
    refine Goes.step (fun _ k => XS.iload X40.here hx rfl (hb hby d4_127) rfl  k) ?_
    refine Goes.step (fun _ k => XS.iloadN X40.here hx rfl (hb hby d4_129) rfl  k) ?_
    obtain ⟨cl41, Ar41, q41, S41, P41, H41, G41⟩ := id f37
    have hin41 : ¬ ((0 : Int32) < 0 ∨ cl41.slots.size ≤ ((0 : Int32)).toNatClampNeg) := inb_of S41 ⟨by decide, by decide⟩
    obtain ⟨T42, h42, X42, e42, W42, st42⟩ := stI X40 hx hZ e40 Ar41 (j := (0 : Int32)) hin41 (g := (mkF m 130 #[.val (.ref x0), .val (.int x1), .val (.double (FP.i2d kx)), .second, .val (.int (0 : Int32)), .val (.int (0 : Int32))] [(.int x1), (.int (0 : Int32)), (.ref nd)])) rfl rfl (hb hby d4_130)
    refine Goes.step st42 ?_
    have V42 := Arv.set Ar41 q41 S41 P41 H41 G41 rfl W42 0 rfl (Nat.le_of_ble_eq_true rfl)
    have f43 := f33.other W42 (Or.inl ne1)
    have f44 := f34.other W42 (Or.inl ne1)
    have f45 := f35.other W42 (Or.inl ne1)
    have f46 := f36.wr W42
    have f47 := V42
    have f48 := f38.other W42 (Ne.symm ne3)
    have K49 : Keep h0 h42 [x0, nd, ky] := K39.wr W42 (Or.inl (List.mem_of_getElem? (i := 1) rfl))
    have Z49 : n0 ≤ h42.size := by rw [Wr.size W42]; exact Z39
    have N49 := Fr.snoc X42 N39 g_nd
    show Goes _ _ _ _ _ _ _ (T42.setTop (mkF m 131 _ []))
    refine Goes.step (fun _ k => XS.aloadN X42.here hx rfl (hb hby d4_131) rfl rfl k) ?_
    obtain ⟨T50, X50, e50, st50⟩ := getF X42 hx hZ hown (host := "") (Or.inl w_17) Via.refl e42 f45 (g := (mkF m 132 #[.val (.ref x0), .val (.int x1), .val (.double (FP.i2d kx)), .second, .val (.int (0 : Int32)), .val (.int (0 : Int32))] [(.ref x0)])) rfl rfl (hb hby d4_132)
    refine Goes.step st50 ?_
    show Goes _ _ _ _ _ _ _ (T50.setTop (mkF m 135 _ [(.ref ky)]))
    refine Goes.step (fun _ k => XS.iload X50.here hx rfl (hb hby d4_135) rfl  k) ?_
    refine Goes.step (fun _ k => XS.dloadN X50.here hx rfl (hb hby d4_137) rfl k) ?_
    obtain ⟨cl51, Ar51, q51, S51, P51, H51, G51⟩ := id f48
    have hin51 : ¬ ((0 : Int32) < 0 ∨ cl51.slots.size ≤ ((0 : Int32)).toNatClampNeg) := inb_of S51 ⟨by decide, by decide⟩
    obtain ⟨T52, h52, X52, e52, W52, st52⟩ := stD X50 hx hZ e50 Ar51 (j := (0 : Int32)) hin51 (g := (mkF m 138 #[.val (.ref x0), .val (.int x1), .val (.double (FP.i2d kx)), .second, .val (.int (0 : Int32)), .val (.int (0 : Int32))] [(.double (FP.i2d kx)), (.int (0 : Int32)), (.ref ky)])) rfl rfl (hb hby d4_138)
    refine Goes.step st52 ?_
    have V52 := Arv.set Ar51 q51 S51 P51 H51 G51 rfl W52 0 rfl (Nat.le_of_ble_eq_true rfl)
    have f53 := f43.other W52 (Or.inl ne2)
    have f54 := f44.other W52 (Or.inl ne2)
    have f55 := f45.other W52 (Or.inl ne2)
    have f56 := f46.wr W52
    have f57 := f47.other W52 ne3
    have f58 := V52
    have K59 : Keep h0 h52 [x0, nd, ky] := K49.wr W52 (Or.inl (List.mem_of_getElem? (i := 2) rfl))
    have Z59 : n0 ≤ h52.size := by rw [Wr.size W52]; exact Z49
    have N59 := Fr.snoc X52 N49 g_ky
    show Goes _ _ _ _ _ _ _ (T52.setTop (mkF m 139 _ []))
    have ph0 := own_l c77_15
    exact Goes.retV X52 hx (BodyLoose.notSynchronized Bd) Bd.returns (hb hby d4_139) (by show Q4_2 Z x0 x1 kx nd ky kn kd va0 va1 vb0 vb1 h0 n0 none T52.heap _; rw [e52]; exact ⟨N59, K59, rfl, f53, f54, f55, x1, va1, va0, kx, vb1, vb0, f57, f58, (List.Perm.map (fun i => ([(x1, kx), (va0, vb0), (va1, vb1)] : List (Int32 × Int32)).getD i (0, 0)) (by decide : ([0, 2, 1] : List Nat).Perm [0, 1, 2])), by omega, by omega⟩) (by decide) (by decide)
  · refine Goes.step (fun _ k => XS.ifYes X13.here hx rfl (pc0 := 77) (pc' := 123) rfl (hb hby d4_77) rfl ((if0 _ _).trans (flt (fun q => c77_15 ((own_dgt _ _ _).mp q))).2.2.2) (by decide) (by decide) k) ?_
    show Goes _ _ _ _ _ _ _ (T13.setTop (mkF m 123 _ []))
    refine Goes.step (fun _ k => XS.aloadN X13.here hx rfl (hb hby d4_123) rfl rfl k) ?_
    obtain ⟨T60, X60, e60, st60⟩ := getF X13 hx hZ hown (host := "") (Or.inl w_14) Via.refl e13 f7 (g := (mkF m 124 #[.val (.ref x0), .val (.int x1), .val (.double (FP.i2d kx)), .second, .val (.int (2 : Int32)), .unset] [(.ref x0)])) rfl rfl (hb hby d4_124)
    refine Goes.step st60 ?_
    show Goes _ _ _ _ _ _ _ (T60.setTop (mkF m 127 _ [(.ref nd)]))
    refine Goes.step (fun _ k => XS.iload X60.here hx rfl (hb hby d4_127) rfl  k) ?_
    refine Goes.step (fun _ k => XS.iloadN X60.here hx rfl (hb hby d4_129) rfl  k) ?_
    obtain ⟨cl61, Ar61, q61, S61, P61, H61, G61⟩ := id f10
    have hin61 : ¬ ((2 : Int32) < 0 ∨ cl61.slots.size ≤ ((2 : Int32)).toNatClampNeg) := inb_of S61 ⟨by decide, by decide⟩
    obtain ⟨T62, h62, X62, e62, W62, st62⟩ := stI X60 hx hZ e60 Ar61 (j := (2 : Int32)) hin61 (g := (mkF m 130 #[.val (.ref x0), .val (.int x1), .val (.double (FP.i2d kx)), .second, .val (.int (2 : Int32)), .unset] [(.int x1), (.int (2 : Int32)), (.ref nd)])) rfl rfl (hb hby d4_130)
    refine Goes.step st62 ?_
    have V62 := Arv.set Ar61 q61 S61 P61 H61 G61 rfl W62 2 rfl (Nat.le_of_ble_eq_true rfl)
    have f63 := f6.other W62 (Or.inl ne1)
    have f64 := f7.other W62 (Or.inl ne1)
    have f65 := f8.other W62 (Or.inl ne1)
    have f66 := f9.wr W62
    have f67 := V62
    have f68 := f11.other W62 (Ne.symm ne3)
    have K69 : Keep h0 h62 [x0, nd, ky] := K12.wr W62 (Or.inl (List.mem_of_getElem? (i := 1) rfl))
    have Z69 : n0 ≤ h62.size := by rw [Wr.size W62]; exact Z12
    have N69 := Fr.snoc X62 N12 g_nd
    show Goes _ _ _ _ _ _ _ (T62.setTop (mkF m 131 _ []))
    refine Goes.step (fun _ k => XS.aloadN X62.here hx rfl (hb hby d4_131) rfl rfl k) ?_
    obtain ⟨T70, X70, e70, st70⟩ := getF X62 hx hZ hown (host := "") (Or.inl w_17) Via.refl e62 f65 (g := (mkF m 132 #[.val (.ref x0), .val (.int x1), .val (.double (FP.i2d kx)), .second, .val (.int (2 : Int32)), .unset] [(.ref x0)])) rfl rfl (hb hby d4_132)
    refine Goes.step st70 ?_
    show Goes _ _ _ _ _ _ _ (T70.setTop (mkF m 135 _ [(.ref ky)]))
    refine Goes.step (fun _ k => XS.iload X70.here hx rfl (hb hby d4_135) rfl  k) ?_
    refine Goes.step (fun _ k => XS.dloadN X70.here hx rfl (hb hby d4_137) rfl k) ?_
    obtain ⟨cl71, Ar71, q71, S71, P71, H71, G71⟩ := id f68
    have hin71 : ¬ ((2 : Int32) < 0 ∨ cl71.slots.size ≤ ((2 : Int32)).toNatClampNeg) := inb_of S71 ⟨by decide, by decide⟩
    obtain ⟨T72, h72, X72, e72, W72, st72⟩ := stD X70 hx hZ e70 Ar71 (j := (2 : Int32)) hin71 (g := (mkF m 138 #[.val (.ref x0), .val (.int x1), .val (.double (FP.i2d kx)), .second, .val (.int (2 : Int32)), .unset] [(.double (FP.i2d kx)), (.int (2 : Int32)), (.ref ky)])) rfl rfl (hb hby d4_138)
    refine Goes.step st72 ?_
    have V72 := Arv.set Ar71 q71 S71 P71 H71 G71 rfl W72 2 rfl (Nat.le_of_ble_eq_true rfl)
    have f73 := f63.other W72 (Or.inl ne2)
    have f74 := f64.other W72 (Or.inl ne2)
    have f75 := f65.other W72 (Or.inl ne2)
    have f76 := f66.wr W72
    have f77 := f67.other W72 ne3
    have f78 := V72
    have K79 : Keep h0 h72 [x0, nd, ky] := K69.wr W72 (Or.inl (List.mem_of_getElem? (i := 2) rfl))
    have Z79 : n0 ≤ h72.size := by rw [Wr.size W72]; exact Z69
    have N79 := Fr.snoc X72 N69 g_ky
    show Goes _ _ _ _ _ _ _ (T72.setTop (mkF m 139 _ []))
    have ph0 := own_nl c77_15
    exact Goes.retV X72 hx (BodyLoose.notSynchronized Bd) Bd.returns (hb hby d4_139) (by show Q4_2 Z x0 x1 kx nd ky kn kd va0 va1 vb0 vb1 h0 n0 none T72.heap _; rw [e72]; exact ⟨N79, K79, rfl, f73, f74, f75, va0, va1, x1, vb0, vb1, kx, f77, f78, (List.Perm.map (fun i => ([(x1, kx), (va0, vb0), (va1, vb1)] : List (Int32 × Int32)).getD i (0, 0)) (by decide : ([1, 2, 0] : List Nat).Perm [0, 1, 2])), by omega, by omega⟩) (by decide) (by decide)
theorem ef_4_3 (m : MethodId) (x0 : Addr) (x1 : Int32) (kx : Int32) (nd : Addr) (ky : Addr) (kn : ClassId) (kd : ClassId) (va0 : Int32) (va1 : Int32) (va2 : Int32) (vb0 : Int32) (vb1 : Int32) (vb2 : Int32)  : entryFrame m #[(.ref x0), (.int x1), (.double (FP.i2d kx))] 6 = mkF m 0 #[.val (.ref x0), .val (.int x1), .val (.double (FP.i2d kx)), .second, .unset, .unset] [] := by first | (simp [entryFrame, mkF, argsToLocals, Value.category]; done) | rfl
def Q4_3 (Z : State) (x0 : Addr) (x1 : Int32) (kx : Int32) (nd : Addr) (ky : Addr) (kn : ClassId) (kd : ClassId) (va0 : Int32) (va1 : Int32) (va2 : Int32) (vb0 : Int32) (vb1 : Int32) (vb2 : Int32) (h0 : Heap) (n0 : Nat) (v : Option Value) (h : Heap) (L : List Loc) : Prop := Fr n0 L ∧ Keep h0 h [x0, nd, ky] ∧ v = none ∧ Fld Z h x0 "com/example/hailwise/hailwise/NodeQueue" "size" "I" (.int (4 : Int32)) ∧ Fld Z h x0 "com/example/hailwise/hailwise/NodeQueue" "nodes" "[I" (.ref nd) ∧ Fld Z h x0 "com/example/hailwise/hailwise/NodeQueue" "keys" "[D" (.ref ky) ∧ ∃ p0 p1 p2 p3 q0 q1 q2 q3 : Int32, Arv Z h nd kn .int (64 : Int32) [(.int p0), (.int p1), (.int p2), (.int p3), (.int (0 : Int32)), (.int (0 : Int32))] (.int (0 : Int32)) ∧ Arv Z h ky kd .double (64 : Int32) [(.double (FP.i2d q0)), (.double (FP.i2d q1)), (.double (FP.i2d q2)), (.double (FP.i2d q3)), (.double (0 : UInt64)), (.double (0 : UInt64))] (.double (0 : UInt64)) ∧ ([(p0, q0), (p1, q1), (p2, q2), (p3, q3)] : List (Int32 × Int32)).Perm ((x1, kx) :: ([(va0, vb0), (va1, vb1), (va2, vb2)] : List (Int32 × Int32))) ∧ q0.toInt ≤ q1.toInt ∧ q0.toInt ≤ q2.toInt ∧ q1.toInt ≤ q3.toInt
set_option maxRecDepth 65536 in
set_option maxHeartbeats 40000000 in
theorem rm4_3 (l : Launch) (Z : State) (a0 : Array Value) (hw : ∀ d ∈ tables_1, d.before a0 Z = true) (ws : List Jvm.Cond) (x0 : Addr) (x1 : Int32) (kx : Int32) (nd : Addr) (ky : Addr) (kn : ClassId) (kd : ClassId) (va0 : Int32) (va1 : Int32) (va2 : Int32) (vb0 : Int32) (vb1 : Int32) (vb2 : Int32) (h0 : Heap) (n0 : Nat) (Z0 : n0 ≤ h0.size) (F_size : Fld Z h0 x0 "com/example/hailwise/hailwise/NodeQueue" "size" "I" (.int (3 : Int32))) (F_nd : Fld Z h0 x0 "com/example/hailwise/hailwise/NodeQueue" "nodes" "[I" (.ref nd)) (F_ky : Fld Z h0 x0 "com/example/hailwise/hailwise/NodeQueue" "keys" "[D" (.ref ky)) (E_x0 : Exa Z h0 x0 "com/example/hailwise/hailwise/NodeQueue") (V_nd : Arv Z h0 nd kn .int (64 : Int32) [(.int va0), (.int va1), (.int va2), (.int (0 : Int32)), (.int (0 : Int32)), (.int (0 : Int32))] (.int (0 : Int32))) (V_ky : Arv Z h0 ky kd .double (64 : Int32) [(.double (FP.i2d vb0)), (.double (FP.i2d vb1)), (.double (FP.i2d vb2)), (.double (0 : UInt64)), (.double (0 : UInt64)), (.double (0 : UInt64))] (.double (0 : UInt64))) (g_x0 : n0 ≤ x0) (g_nd : n0 ≤ nd) (g_ky : n0 ≤ ky) (ne1 : x0 ≠ nd) (ne2 : x0 ≠ ky) (ne3 : nd ≠ ky) (ho01 : vb0.toInt ≤ vb1.toInt) (ho02 : vb0.toInt ≤ vb2.toInt) :
    MetFree l (⟨"com/example/hailwise/hailwise/NodeQueue", "add", "(ID)V"⟩ : MethodName) (head1 (Jvm.Cond.code (⟨"com/example/hailwise/hailwise/NodeQueue", "add", "(ID)V"⟩ : MethodName) prog_21_method_4_code 6 none :: ws) ({ frames := 0, cells := 0, slots := 0, locals := 0 } : Room)) (fun a U => a = #[(.ref x0), (.int x1), (.double (FP.i2d kx))] ∧ Z.Warmed39 U.vm ∧ U.heap = h0) (fun _ _ _ _ _ => True) (fun _ U o U' => ∃ v L, o = .returned v ∧ Q4_3 Z x0 x1 kx nd ky kn kd va0 va1 va2 vb0 vb1 vb2 h0 n0 v U'.heap L ∧ FrameEnd U o U' L ({ frames := 0, cells := 0, slots := 0, locals := 0 } : Room).cells ({ frames := 0, cells := 0, slots := 0, locals := 0 } : Room).slots) := by
  refine MetFree.of_bodySF (plainFor_of_name pn_4) hisR ?_
  intro p e s m args below meth c s₁ Bd hml0 hP hK
  obtain ⟨rfl, hZ, hh⟩ := hP
  have w_6 := hw _ (List.mem_of_getElem? (i := 6) rfl)
  have w_14 := hw _ (List.mem_of_getElem? (i := 14) rfl)
  have w_15 := hw _ (List.mem_of_getElem? (i := 15) rfl)
  have w_17 := hw _ (List.mem_of_getElem? (i := 17) rfl)
  have w_18 := hw _ (List.mem_of_getElem? (i := 18) rfl)
  have w_24 := hw _ (List.mem_of_getElem? (i := 24) rfl)
  have w_25 := hw _ (List.mem_of_getElem? (i := 25) rfl)
  have hx := Bd.exec
  have hby := Bd.bytes
  have hml : c.maxLocals = 6 := hml0
  have hown : s.vm.findClass "com/example/hailwise/hailwise/NodeQueue" = some m.cls := findClass_of_methodNamed Bd.named
  have hnm := (name_of_methodNamed Bd.named Bd.method).1
  have X0 : Stand p l e ({ frames := 0, cells := 0, slots := 0, locals := 0 } : Room) s m #[(.ref x0), (.int x1), (.double (FP.i2d kx))] below meth c s₁ [] 0 0 := Stand.of_body Bd
  have e0 : s₁.heap = h0 := by rw [← hh, Bd.state]; rfl
  have N0 := Fr.nil n0
  have K0 : Keep h0 h0 [x0, nd, ky] := Keep.refl h0 _
  refine (?_ : Goes p e below s ({ frames := 0, cells := 0, slots := 0, locals := 0 } : Room).cells ({ frames := 0, cells := 0, slots := 0, locals := 0 } : Room).slots (fun v h L => Q4_3 Z x0 x1 kx nd ky kn kd va0 va1 va2 vb0 vb1 vb2 h0 n0 v h L) (s₁.setTop (entryFrame m #[(.ref x0), (.int x1), (.double (FP.i2d kx))] 6)))
  rw [ef_4_3 m x0 x1 kx nd ky kn kd va0 va1 va2 vb0 vb1 vb2 ]
  show Goes _ _ _ _ _ _ _ (s₁.setTop (mkF m 0 #[.val (.ref x0), .val (.int x1), .val (.double (FP.i2d kx)), .second, .unset, .unset] []))
  refine Goes.step (fun _ k => XS.aloadN X0.here hx rfl (hb hby d4_0) rfl rfl k) ?_
  obtain ⟨T1, X1, e1, st1⟩ := getF X0 hx hZ hown (host := "") (Or.inl w_24) Via.refl e0 F_size (g := (mkF m 1 #[.val (.ref x0), .val (.int x1), .val (.double (FP.i2d kx)), .second, .unset, .unset] [(.ref x0)])) rfl rfl (hb hby d4_1)
  refine Goes.step st1 ?_
  show Goes _ _ _ _ _ _ _ (T1.setTop (mkF m 4 _ [(.int (3 : Int32))]))
  refine Goes.step (fun _ k => XS.aloadN X1.here hx rfl (hb hby d4_4) rfl rfl k) ?_
  obtain ⟨T2, X2, e2, st2⟩ := getF X1 hx hZ hown (host := "") (Or.inl w_14) Via.refl e1 F_nd (g := (mkF m 5 #[.val (.ref x0), .val (.int x1), .val (.double (FP.i2d kx)), .second, .unset, .unset] [(.ref x0), (.int (3 : Int32))])) rfl rfl (hb hby d4_5)
  refine Goes.step st2 ?_
  show Goes _ _ _ _ _ _ _ (T2.setTop (mkF m 8 _ [(.ref nd), (.int (3 : Int32))]))
  obtain ⟨cl3, Ar3, q3, S3, P3, H3, G3⟩ := id V_nd
  refine Goes.step (fun _ k => X2.arraylength hx (by rw [e2]; exact Ar3.1) (State.isArrayOf_alike hZ.alike Ar3.2.1) (g := (mkF m 8 #[.val (.ref x0), .val (.int x1), .val (.double (FP.i2d kx)), .second, .unset, .unset] [(.ref nd), (.int (3 : Int32))])) rfl rfl (hb hby d4_8) _ k) ?_
  rw [len_of S3 P3]
  show Goes _ _ _ _ _ _ _ (T2.setTop (mkF m 9 _ [(.int (64 : Int32)), (.int (3 : Int32))]))
  refine Goes.step (fun _ k => XS.icmpYes X2.here hx rfl (pc0 := 9) (pc' := 46) rfl (hb hby d4_9) rfl (feq (by decide : ¬ ((3 : Int32) = (64 : Int32)))).2 (by decide) (by decide) k) ?_
  show Goes _ _ _ _ _ _ _ (T2.setTop (mkF m 46 _ []))
  refine Goes.step (fun _ k => XS.aloadN X2.here hx rfl (hb hby d4_46) rfl rfl k) ?_
  refine Goes.step (fun _ k => XS.dup X2.here hx rfl (hb hby d4_47) rfl rfl k) ?_
  obtain ⟨T4, X4, e4, st4⟩ := getF X2 hx hZ hown (host := "") (Or.inl w_24) Via.refl e2 F_size (g := (mkF m 48 #[.val (.ref x0), .val (.int x1), .val (.double (FP.i2d kx)), .second, .unset, .unset] [(.ref x0), (.ref x0)])) rfl rfl (hb hby d4_48)
  refine Goes.step st4 ?_
  show Goes _ _ _ _ _ _ _ (T4.setTop (mkF m 51 _ [(.int (3 : Int32)), (.ref x0)]))
  refine Goes.step (fun _ k => XS.dupX1 X4.here hx rfl (hb hby d4_51) rfl rfl rfl k) ?_
  show Goes _ _ _ _ _ _ _ (T4.setTop (mkF m 52 _ [(.int (3 : Int32)), (.ref x0), (.int (3 : Int32))]))
  refine Goes.step (fun _ k => XS.iconst X4.here hx rfl (hb hby d4_52) k) ?_
  refine Goes.step (fun _ k => XS.iadd X4.here hx rfl (hb hby d4_53) rfl k) ?_
  show Goes _ _ _ _ _ _ _ (T4.setTop (mkF m 54 #[.val (.ref x0), .val (.int x1), .val (.double (FP.i2d kx)), .second, .unset, .unset] [(.int (4 : Int32)), (.ref x0), (.int (3 : Int32))]))
  obtain ⟨T5, h5, X5, e5, W5, st5⟩ := putF X4 hx hZ hown (host := "") (Or.inl w_24) Via.refl e4 F_size E_x0 (Or.inl w_25) w_6 (ty := .int) (by decide) rfl rfl (g := (mkF m 54 #[.val (.ref x0), .val (.int x1), .val (.double (FP.i2d kx)), .second, .unset, .unset] [(.int (4 : Int32)), (.ref x0), (.int (3 : Int32))])) rfl rfl (hb hby d4_54)
  refine Goes.step st5 ?_
  have f6 := F_size.same W5
  have f7 := F_nd.other W5 (Or.inr (slot_ne (Or.inl w_15) (Or.inl w_25) (by decide) (t := (.array .int)) (t' := .int) (by decide) (by decide)))
  have f8 := F_ky.other W5 (Or.inr (slot_ne (Or.inl w_18) (Or.inl w_25) (by decide) (t := (.array .double)) (t' := .int) (by decide) (by decide)))
  have f9 := E_x0.wr W5
  have f10 := V_nd.other W5 (Ne.symm ne1)
  have f11 := V_ky.other W5 (Ne.symm ne2)
  have K12 : Keep h0 h5 [x0, nd, ky] := K0.wr W5 (Or.inl (List.mem_of_getElem? (i := 0) rfl))
  have Z12 : n0 ≤ h5.size := by rw [Wr.size W5]; exact Z0
  have N12 := Fr.snoc X5 N0 g_x0
  show Goes _ _ _ _ _ _ _ (T5.setTop (mkF m 57 _ [(.int (3 : Int32))]))
  refine Goes.step (fun _ k => XS.istore X5.here hx rfl (hb hby d4_57) rfl (l' := #[.val (.ref x0), .val (.int x1), .val (.double (FP.i2d kx)), .second, .val (.int (3 : Int32)), .unset]) rfl k) ?_
  show Goes _ _ _ _ _ _ _ (T5.setTop (mkF m 59 _ []))
  refine Goes.step (fun _ k => XS.iload X5.here hx rfl (hb hby d4_59) rfl  k) ?_
  refine Goes.step (fun _ k => XS.ifNo X5.here hx rfl (hb hby d4_61) rfl ((if0 _ _).trans (tlt (by decide : (0 : Int32) < (3 : Int32))).2.2.2) k) ?_
  show Goes _ _ _ _ _ _ _ (T5.setTop (mkF m 64 _ []))
  refine Goes.step (fun _ k => XS.aloadN X5.here hx rfl (hb hby d4_64) rfl rfl k) ?_
  obtain ⟨T13, X13, e13, st13⟩ := getF X5 hx hZ hown (host := "") (Or.inl w_17) Via.refl e5 f8 (g := (mkF m 65 #[.val (.ref x0), .val (.int x1), .val (.double (FP.i2d kx)), .second, .val (.int (3 : Int32)), .unset] [(.ref x0)])) rfl rfl (hb hby d4_65)
  refine Goes.step st13 ?_
  show Goes _ _ _ _ _ _ _ (T13.setTop (mkF m 68 _ [(.ref ky)]))
  refine Goes.step (fun _ k => XS.iload X13.here hx rfl (hb hby d4_68) rfl  k) ?_
  refine Goes.step (fun _ k => XS.iconst X13.here hx rfl (hb hby d4_70) k) ?_
  refine Goes.step (fun _ k => XS.isub X13.here hx rfl (hb hby d4_71) rfl k) ?_
  show Goes _ _ _ _ _ _ _ (T13.setTop (mkF m 72 _ [(.int (2 : Int32)), (.ref ky)]))
  refine Goes.step (fun _ k => XS.iconst X13.here hx rfl (hb hby d4_72) k) ?_
  refine Goes.step (fun _ k => XS.idiv X13.here hx rfl (hb hby d4_73) rfl (by decide) k) ?_
  show Goes _ _ _ _ _ _ _ (T13.setTop (mkF m 74 _ [(.int (1 : Int32)), (.ref ky)]))
  obtain ⟨cl14, Ar14, q14, S14, P14, H14, G14⟩ := id f11
  have hin14 : ¬ ((1 : Int32) < 0 ∨ cl14.slots.size ≤ ((1 : Int32)).toNatClampNeg) := inb_of S14 ⟨by decide, by decide⟩
  have hat14 : cl14.slots[((1 : Int32)).toNatClampNeg]? = some (.double (FP.i2d vb1)) := H14 _ (by rw [S14]; decide)
  refine Goes.step (fun _ k => X13.daload hx (j := (1 : Int32)) (v := (.double (FP.i2d vb1))) (by rw [e13]; exact Ar14.1) (State.isArrayOf_alike hZ.alike Ar14.2.1) Ar14.2.2 hin14 hat14 (g := (mkF m 74 #[.val (.ref x0), .val (.int x1), .val (.double (FP.i2d kx)), .second, .val (.int (3 : Int32)), .unset] [(.int (1 : Int32)), (.ref ky)])) rfl rfl (hb hby d4_74) _ k) ?_
  show Goes _ _ _ _ _ _ _ (T13.setTop (mkF m 75 #[.val (.ref x0), .val (.int x1), .val (.double (FP.i2d kx)), .second, .val (.int (3 : Int32)), .unset] [(.double (FP.i2d vb1))]))
  refine Goes.step (fun _ k => XS.dloadN X13.here hx rfl (hb hby d4_75) rfl k) ?_
  refine Goes.step (fun _ k => XS.dcmpS X13.here hx rfl (hb hby d4_76) rfl rfl k) ?_
  show Goes _ _ _ _ _ _ _ (T13.setTop (mkF m 77 _ [(.int (cmpValue (FP.dcmp (FP.i2d vb1) (FP.i2d kx)) .l))]))
  by_cases c77_15 : kx < vb1
  · refine Goes.step (fun _ k => XS.ifNo X13.here hx rfl (hb hby d4_77) rfl ((if0 _ _).trans (tlt ((own_dgt _ _ _).mpr c77_15)).2.2.2) k) ?_
    show Goes _ _ _ _ _ _ _ (T13.setTop (mkF m 80 _ []))
    refine Goes.step (fun _ k => XS.iload X13.here hx rfl (hb hby d4_80) rfl  k) ?_
    refine Goes.step (fun _ k => XS.iconst X13.here hx rfl (hb hby d4_82) k) ?_
    refine Goes.step (fun _ k => XS.isub X13.here hx rfl (hb hby d4_83) rfl k) ?_
    show Goes _ _ _ _ _ _ _ (T13.setTop (mkF m 84 _ [(.int (2 : Int32))]))
    refine Goes.step (fun _ k => XS.iconst X13.here hx rfl (hb hby d4_84) k) ?_
    refine Goes.step (fun _ k => XS.idiv X13.here hx rfl (hb hby d4_85) rfl (by decide) k) ?_
    show Goes _ _ _ _ _ _ _ (T13.setTop (mkF m 86 _ [(.int (1 : Int32))]))
    refine Goes.step (fun _ k => XS.istore X13.here hx rfl (hb hby d4_86) rfl (l' := #[.val (.ref x0), .val (.int x1), .val (.double (FP.i2d kx)), .second, .val (.int (3 : Int32)), .val (.int (1 : Int32))]) rfl k) ?_
    show Goes _ _ _ _ _ _ _ (T13.setTop (mkF m 88 _ []))
    refine Goes.step (fun _ k => XS.aloadN X13.here hx rfl (hb hby d4_88) rfl rfl k) ?_
    obtain ⟨T16, X16, e16, st16⟩ := getF X13 hx hZ hown (host := "") (Or.inl w_14) Via.refl e13 f7 (g := (mkF m 89 #[.val (.ref x0), .val (.int x1), .val (.double (FP.i2d kx)), .second, .val (.int (3 : Int32)), .val (.int (1 : Int32))] [(.ref x0)])) rfl rfl (hb hby d4_89)
    refine Goes.step st16 ?_
    show Goes _ _ _ _ _ _ _ (T16.setTop (mkF m 92 _ [(.ref nd)]))
    refine Goes.step (fun _ k => XS.iload X16.here hx rfl (hb hby d4_92) rfl  k) ?_
    refine Goes.step (fun _ k => XS.aloadN X16.here hx rfl (hb hby d4_94) rfl rfl k) ?_
    obtain ⟨T17, X17, e17, st17⟩ := getF X16 hx hZ hown (host := "") (Or.inl w_14) Via.refl e16 f7 (g := (mkF m 95 #[.val (.ref x0), .val (.int x1), .val (.double (FP.i2d kx)), .second, .val (.int (3 : Int32)), .val (.int (1 : Int32))] [(.ref x0), (.int (3 : Int32)), (.ref nd)])) rfl rfl (hb hby d4_95)
    refine Goes.step st17 ?_
    show Goes _ _ _ _ _ _ _ (T17.setTop (mkF m 98 #[.val (.ref x0), .val (.int x1), .val (.double (FP.i2d kx)), .second, .val (.int (3 : Int32)), .val (.int (1 : Int32))] [(.ref nd), (.int (3 : Int32)), (.ref nd)]))
    refine Goes.step (fun _ k => XS.iload X17.here hx rfl (hb hby d4_98) rfl  k) ?_
    obtain ⟨cl18, Ar18, q18, S18, P18, H18, G18⟩ := id f10
    have hin18 : ¬ ((1 : Int32) < 0 ∨ cl18.slots.size ≤ ((1 : Int32)).toNatClampNeg) := inb_of S18 ⟨by decide, by decide⟩
    have hat18 : cl18.slots[((1 : Int32)).toNatClampNeg]? = some (.int va1) := H18 _ (by rw [S18]; decide)
    refine Goes.step (fun _ k => X17.iaload hx (j := (1 : Int32)) (v := (.int va1)) (by rw [e17]; exact Ar18.1) (State.isArrayOf_alike hZ.alike Ar18.2.1) Ar18.2.2 hin18 hat18 (g := (mkF m 100 #[.val (.ref x0), .val (.int x1), .val (.double (FP.i2d kx)), .second, .val (.int (3 : Int32)), .val (.int (1 : Int32))] [(.int (1 : Int32)), (.ref nd), (.int (3 : Int32)), (.ref nd)])) rfl rfl (hb hby d4_100) _ k) ?_
    show Goes _ _ _ _ _ _ _ (T17.setTop (mkF m 101 _ [(.int va1), (.int (3 : Int32)), (.ref nd)]))
    obtain ⟨cl19, Ar19, q19, S19, P19, H19, G19⟩ := id f10
    have hin19 : ¬ ((3 : Int32) < 0 ∨ cl19.slots.size ≤ ((3 : Int32)).toNatClampNeg) := inb_of S19 ⟨by decide, by decide⟩
    obtain ⟨T20, h20, X20, e20, W20, st20⟩ := stI X17 hx hZ e17 Ar19 (j := (3 : Int32)) hin19 (g := (mkF m 101 #[.val (.ref x0), .val (.int x1), .val (.double (FP.i2d kx)), .second, .val (.int (3 : Int32)), .val (.int (1 : Int32))] [(.int va1), (.int (3 : Int32)), (.ref nd)])) rfl rfl (hb hby d4_101)
    refine Goes.step st20 ?_
    have V20 := Arv.set Ar19 q19 S19 P19 H19 G19 rfl W20 3 rfl (Nat.le_of_ble_eq_true rfl)
    have f21 := f6.other W20 (Or.inl ne1)
    have f22 := f7.other W20 (Or.inl ne1)
    have f23 := f8.other W20 (Or.inl ne1)
    have f24 := f9.wr W20
    have f25 := V20
    have f26 := f11.other W20 (Ne.symm ne3)
    have K27 : Keep h0 h20 [x0, nd, ky] := K12.wr W20 (Or.inl (List.mem_of_getElem? (i := 1) rfl))
    have Z27 : n0 ≤ h20.size := by rw [Wr.size W20]; exact Z12
    have N27 := Fr.snoc X20 N12 g_nd
    show Goes _ _ _ _ _ _ _ (T20.setTop (mkF m 102 _ []))
    refine Goes.step (fun _ k => XS.aloadN X20.here hx rfl (hb hby d4_102) rfl rfl k) ?_
    obtain ⟨T28, X28, e28, st28⟩ := getF X20 hx hZ hown (host := "") (Or.inl w_17) Via.refl e20 f23 (g := (mkF m 103 #[.val (.ref x0), .val (.int x1), .val (.double (FP.i2d kx)), .second, .val (.int (3 : Int32)), .val (.int (1 : Int32))] [(.ref x0)])) rfl rfl (hb hby d4_103)
    refine Goes.step st28 ?_
    show Goes _ _ _ _ _ _ _ (T28.setTop (mkF m 106 _ [(.ref ky)]))
    refine Goes.step (fun _ k => XS.iload X28.here hx rfl (hb hby d4_106) rfl  k) ?_
    refine Goes.step (fun _ k => XS.aloadN X28.here hx rfl (hb hby d4_108) rfl rfl k) ?_
    obtain ⟨T29, X29, e29, st29⟩ := getF X28 hx hZ hown (host := "") (Or.inl w_17) Via.refl e28 f23 (g := (mkF m 109 #[.val (.ref x0), .val (.int x1), .val (.double (FP.i2d kx)), .second, .val (.int (3 : Int32)), .val (.int (1 : Int32))] [(.ref x0), (.int (3 : Int32)), (.ref ky)])) rfl rfl (hb hby d4_109)
    refine Goes.step st29 ?_
    show Goes _ _ _ _ _ _ _ (T29.setTop (mkF m 112 _ [(.ref ky), (.int (3 : Int32)), (.ref ky)]))
    refine Goes.step (fun _ k => XS.iload X29.here hx rfl (hb hby d4_112) rfl  k) ?_
    obtain ⟨cl30, Ar30, q30, S30, P30, H30, G30⟩ := id f26
    have hin30 : ¬ ((1 : Int32) < 0 ∨ cl30.slots.size ≤ ((1 : Int32)).toNatClampNeg) := inb_of S30 ⟨by decide, by decide⟩
    have hat30 : cl30.slots[((1 : Int32)).toNatClampNeg]? = some (.double (FP.i2d vb1)) := H30 _ (by rw [S30]; decide)
    refine Goes.step (fun _ k => X29.daload hx (j := (1 : Int32)) (v := (.double (FP.i2d vb1))) (by rw [e29]; exact Ar30.1) (State.isArrayOf_alike hZ.alike Ar30.2.1) Ar30.2.2 hin30 hat30 (g := (mkF m 114 #[.val (.ref x0), .val (.int x1), .val (.double (FP.i2d kx)), .second, .val (.int (3 : Int32)), .val (.int (1 : Int32))] [(.int (1 : Int32)), (.ref ky), (.int (3 : Int32)), (.ref ky)])) rfl rfl (hb hby d4_114) _ k) ?_
    show Goes _ _ _ _ _ _ _ (T29.setTop (mkF m 115 _ [(.double (FP.i2d vb1)), (.int (3 : Int32)), (.ref ky)]))
    obtain ⟨cl31, Ar31, q31, S31, P31, H31, G31⟩ := id f26
    have hin31 : ¬ ((3 : Int32) < 0 ∨ cl31.slots.size ≤ ((3 : Int32)).toNatClampNeg) := inb_of S31 ⟨by decide, by decide⟩
    obtain ⟨T32, h32, X32, e32, W32, st32⟩ := stD X29 hx hZ e29 Ar31 (j := (3 : Int32)) hin31 (g := (mkF m 115 #[.val (.ref x0), .val (.int x1), .val (.double (FP.i2d kx)), .second, .val (.int (3 : Int32)), .val (.int (1 : Int32))] [(.double (FP.i2d vb1)), (.int (3 : Int32)), (.ref ky)])) rfl rfl (hb hby d4_115)
    refine Goes.step st32 ?_
    have V32 := Arv.set Ar31 q31 S31 P31 H31 G31 rfl W32 3 rfl (Nat.le_of_ble_eq_true rfl)
    have f33 := f21.other W32 (Or.inl ne2)
    have f34 := f22.other W32 (Or.inl ne2)
    have f35 := f23.other W32 (Or.inl ne2)
    have f36 := f24.wr W32
    have f37 := f25.other W32 ne3
    have f38 := V32
    have K39 : Keep h0 h32 [x0, nd, ky] := K27.wr W32 (Or.inl (List.mem_of_getElem? (i := 2) rfl))
    have Z39 : n0 ≤ h32.size := by rw [Wr.size W32]; exact Z27
    have N39 := Fr.snoc X32 N27 g_ky
    show Goes _ _ _ _ _ _ _ (T32.setTop (mkF m 116 _ []))
    refine Goes.step (fun _ k => XS.iload X32.here hx rfl (hb hby d4_116) rfl  k) ?_
    refine Goes.step (fun _ k => XS.istore X32.here hx rfl (hb hby d4_118) rfl (l' := #[.val (.ref x0), .val (.int x1), .val (.double (FP.i2d kx)), .second, .val (.int (1 : Int32)), .val (.int (1 : Int32))]) rfl k) ?_
    show Goes _ _ _ _ _ _ _ (T32.setTop (mkF m 120 #[.val (.ref x0), .val (.int x1), .val (.double (FP.i2d kx)), .second, .val (.int (1 : Int32)), .val (.int (1 : Int32))] []))
    refine Goes.step (fun _ k => XS.goto X32.here hx rfl (pc0 := 120) (pc' := 59) rfl (hb hby d4_120) (by decide) (by decide) k) ?_
    show Goes _ _ _ _ _ _ _ (T32.setTop (mkF m 59 _ []))
    refine Goes.step (fun _ k => XS.iload X32.here hx rfl (hb hby d4_59) rfl  k) ?_
    refine Goes.step (fun _ k => XS.ifNo X32.here hx rfl (hb hby d4_61) rfl ((if0 _ _).trans (tlt (by decide : (0 : Int32) < (1 : Int32))).2.2.2) k) ?_
    show Goes _ _ _ _ _ _ _ (T32.setTop (mkF m 64 _ []))
    refine Goes.step (fun _ k => XS.aloadN X32.here hx rfl (hb hby d4_64) rfl rfl k) ?_
    obtain ⟨T40, X40, e40, st40⟩ := getF X32 hx hZ hown (host := "") (Or.inl w_17) Via.refl e32 f35 (g := (mkF m 65 #[.val (.ref x0), .val (.int x1), .val (.double (FP.i2d kx)), .second, .val (.int (1 : Int32)), .val (.int (1 : Int32))] [(.ref x0)])) rfl rfl (hb hby d4_65)
    refine Goes.step st40 ?_
    show Goes _ _ _ _ _ _ _ (T40.setTop (mkF m 68 _ [(.ref ky)]))
    refine Goes.step (fun _ k => XS.iload X40.here hx rfl (hb hby d4_68) rfl  k) ?_
    refine Goes.step (fun _ k => XS.iconst X40.here hx rfl (hb hby d4_70) k) ?_
    refine Goes.step (fun _ k => XS.isub X40.here hx rfl (hb hby d4_71) rfl k) ?_
    show Goes _ _ _ _ _ _ _ (T40.setTop (mkF m 72 _ [(.int (0 : Int32)), (.ref ky)]))
    refine Goes.step (fun _ k => XS.iconst X40.here hx rfl (hb hby d4_72) k) ?_
    refine Goes.step (fun _ k => XS.idiv X40.here hx rfl (hb hby d4_73) rfl (by decide) k) ?_
    show Goes _ _ _ _ _ _ _ (T40.setTop (mkF m 74 _ [(.int (0 : Int32)), (.ref ky)]))
    obtain ⟨cl41, Ar41, q41, S41, P41, H41, G41⟩ := id f38
    have hin41 : ¬ ((0 : Int32) < 0 ∨ cl41.slots.size ≤ ((0 : Int32)).toNatClampNeg) := inb_of S41 ⟨by decide, by decide⟩
    have hat41 : cl41.slots[((0 : Int32)).toNatClampNeg]? = some (.double (FP.i2d vb0)) := H41 _ (by rw [S41]; decide)
    refine Goes.step (fun _ k => X40.daload hx (j := (0 : Int32)) (v := (.double (FP.i2d vb0))) (by rw [e40]; exact Ar41.1) (State.isArrayOf_alike hZ.alike Ar41.2.1) Ar41.2.2 hin41 hat41 (g := (mkF m 74 #[.val (.ref x0), .val (.int x1), .val (.double (FP.i2d kx)), .second, .val (.int (1 : Int32)), .val (.int (1 : Int32))] [(.int (0 : Int32)), (.ref ky)])) rfl rfl (hb hby d4_74) _ k) ?_
    show Goes _ _ _ _ _ _ _ (T40.setTop (mkF m 75 _ [(.double (FP.i2d vb0))]))
    refine Goes.step (fun _ k => XS.dloadN X40.here hx rfl (hb hby d4_75) rfl k) ?_
    refine Goes.step (fun _ k => XS.dcmpS X40.here hx rfl (hb hby d4_76) rfl rfl k) ?_
    show Goes _ _ _ _ _ _ _ (T40.setTop (mkF m 77 #[.val (.ref x0), .val (.int x1), .val (.double (FP.i2d kx)), .second, .val (.int (1 : Int32)), .val (.int (1 : Int32))] [(.int (cmpValue (FP.dcmp (FP.i2d vb0) (FP.i2d kx)) .l))]))
    by_cases c77_42 : kx < vb0
    · refine Goes.step (fun _ k => XS.ifNo X40.here hx rfl (hb hby d4_77) rfl ((if0 _ _).trans (tlt ((own_dgt _ _ _).mpr c77_42)).2.2.2) k) ?_
      show Goes _ _ _ _ _ _ _ (T40.setTop (mkF m 80 _ []))
      refine Goes.step (fun _ k => XS.iload X40.here hx rfl (hb hby d4_80) rfl  k) ?_
      refine Goes.step (fun _ k => XS.iconst X40.here hx rfl (hb hby d4_82) k) ?_
      refine Goes.step (fun _ k => XS.isub X40.here hx rfl (hb hby d4_83) rfl k) ?_
      show Goes _ _ _ _ _ _ _ (T40.setTop (mkF m 84 _ [(.int (0 : Int32))]))
      refine Goes.step (fun _ k => XS.iconst X40.here hx rfl (hb hby d4_84) k) ?_
      refine Goes.step (fun _ k => XS.idiv X40.here hx rfl (hb hby d4_85) rfl (by decide) k) ?_
      show Goes _ _ _ _ _ _ _ (T40.setTop (mkF m 86 _ [(.int (0 : Int32))]))
      refine Goes.step (fun _ k => XS.istore X40.here hx rfl (hb hby d4_86) rfl (l' := #[.val (.ref x0), .val (.int x1), .val (.double (FP.i2d kx)), .second, .val (.int (1 : Int32)), .val (.int (0 : Int32))]) rfl k) ?_
      show Goes _ _ _ _ _ _ _ (T40.setTop (mkF m 88 _ []))
      refine Goes.step (fun _ k => XS.aloadN X40.here hx rfl (hb hby d4_88) rfl rfl k) ?_
      obtain ⟨T43, X43, e43, st43⟩ := getF X40 hx hZ hown (host := "") (Or.inl w_14) Via.refl e40 f34 (g := (mkF m 89 #[.val (.ref x0), .val (.int x1), .val (.double (FP.i2d kx)), .second, .val (.int (1 : Int32)), .val (.int (0 : Int32))] [(.ref x0)])) rfl rfl (hb hby d4_89)
      refine Goes.step st43 ?_
      show Goes _ _ _ _ _ _ _ (T43.setTop (mkF m 92 _ [(.ref nd)]))
      refine Goes.step (fun _ k => XS.iload X43.here hx rfl (hb hby d4_92) rfl  k) ?_
      refine Goes.step (fun _ k => XS.aloadN X43.here hx rfl (hb hby d4_94) rfl rfl k) ?_
      obtain ⟨T44, X44, e44, st44⟩ := getF X43 hx hZ hown (host := "") (Or.inl w_14) Via.refl e43 f34 (g := (mkF m 95 #[.val (.ref x0), .val (.int x1), .val (.double (FP.i2d kx)), .second, .val (.int (1 : Int32)), .val (.int (0 : Int32))] [(.ref x0), (.int (1 : Int32)), (.ref nd)])) rfl rfl (hb hby d4_95)
      refine Goes.step st44 ?_
      show Goes _ _ _ _ _ _ _ (T44.setTop (mkF m 98 _ [(.ref nd), (.int (1 : Int32)), (.ref nd)]))
      refine Goes.step (fun _ k => XS.iload X44.here hx rfl (hb hby d4_98) rfl  k) ?_
      obtain ⟨cl45, Ar45, q45, S45, P45, H45, G45⟩ := id f37
      have hin45 : ¬ ((0 : Int32) < 0 ∨ cl45.slots.size ≤ ((0 : Int32)).toNatClampNeg) := inb_of S45 ⟨by decide, by decide⟩
      have hat45 : cl45.slots[((0 : Int32)).toNatClampNeg]? = some (.int va0) := H45 _ (by rw [S45]; decide)
      refine Goes.step (fun _ k => X44.iaload hx (j := (0 : Int32)) (v := (.int va0)) (by rw [e44]; exact Ar45.1) (State.isArrayOf_alike hZ.alike Ar45.2.1) Ar45.2.2 hin45 hat45 (g := (mkF m 100 #[.val (.ref x0), .val (.int x1), .val (.double (FP.i2d kx)), .second, .val (.int (1 : Int32)), .val (.int (0 : Int32))] [(.int (0 : Int32)), (.ref nd), (.int (1 : Int32)), (.ref nd)])) rfl rfl (hb hby d4_100) _ k) ?_
      show Goes _ _ _ _ _ _ _ (T44.setTop (mkF m 101 #[.val (.ref x0), .val (.int x1), .val (.double (FP.i2d kx)), .second, .val (.int (1 : Int32)), .val (.int (0 : Int32))] [(.int va0), (.int (1 : Int32)), (.ref nd)]))
      obtain ⟨cl46, Ar46, q46, S46, P46, H46, G46⟩ := id f37
      have hin46 : ¬ ((1 : Int32) < 0 ∨ cl46.slots.size ≤ ((1 : Int32)).toNatClampNeg) := inb_of S46 ⟨by decide, by decide⟩
      obtain ⟨T47, h47, X47, e47, W47, st47⟩ := stI X44 hx hZ e44 Ar46 (j := (1 : Int32)) hin46 (g := (mkF m 101 #[.val (.ref x0), .val (.int x1), .val (.double (FP.i2d kx)), .second, .val (.int (1 : Int32)), .val (.int (0 : Int32))] [(.int va0), (.int (1 : Int32)), (.ref nd)])) rfl rfl (hb hby d4_101)
      refine Goes.step st47 ?_
      have V47 := Arv.set Ar46 q46 S46 P46 H46 G46 rfl W47 1 rfl (Nat.le_of_ble_eq_true rfl)
      have f48 := f33.other W47 (Or.inl ne1)
      have f49 := f34.other W47 (Or.inl ne1)
      have f50 := f35.other W47 (Or.inl ne1)
      have f51 := f36.wr W47
      have f52 := V47
      have f53 := f38.other W47 (Ne.symm ne3)
      have K54 : Keep h0 h47 [x0, nd, ky] := K39.wr W47 (Or.inl (List.mem_of_getElem? (i := 1) rfl))
      have Z54 : n0 ≤ h47.size := by rw [Wr.size W47]; exact Z39
      have N54 := Fr.snoc X47 N39 g_nd
      show Goes _ _ _ _ _ _ _ (T47.setTop (mkF m 102 _ []))
      refine Goes.step (fun _ k => XS.aloadN X47.here hx rfl (hb hby d4_102) rfl rfl k) ?_
      obtain ⟨T55, X55, e55, st55⟩ := getF X47 hx hZ hown (host := "") (Or.inl w_17) Via.refl e47 f50 (g := (mkF m 103 #[.val (.ref x0), .val (.int x1), .val (.double (FP.i2d kx)), .second, .val (.int (1 : Int32)), .val (.int (0 : Int32))] [(.ref x0)])) rfl rfl (hb hby d4_103)
      refine Goes.step st55 ?_
      show Goes _ _ _ _ _ _ _ (T55.setTop (mkF m 106 _ [(.ref ky)]))
      refine Goes.step (fun _ k => XS.iload X55.here hx rfl (hb hby d4_106) rfl  k) ?_
      refine Goes.step (fun _ k => XS.aloadN X55.here hx rfl (hb hby d4_108) rfl rfl k) ?_
      obtain ⟨T56, X56, e56, st56⟩ := getF X55 hx hZ hown (host := "") (Or.inl w_17) Via.refl e55 f50 (g := (mkF m 109 #[.val (.ref x0), .val (.int x1), .val (.double (FP.i2d kx)), .second, .val (.int (1 : Int32)), .val (.int (0 : Int32))] [(.ref x0), (.int (1 : Int32)), (.ref ky)])) rfl rfl (hb hby d4_109)
      refine Goes.step st56 ?_
      show Goes _ _ _ _ _ _ _ (T56.setTop (mkF m 112 _ [(.ref ky), (.int (1 : Int32)), (.ref ky)]))
      refine Goes.step (fun _ k => XS.iload X56.here hx rfl (hb hby d4_112) rfl  k) ?_
      obtain ⟨cl57, Ar57, q57, S57, P57, H57, G57⟩ := id f53
      have hin57 : ¬ ((0 : Int32) < 0 ∨ cl57.slots.size ≤ ((0 : Int32)).toNatClampNeg) := inb_of S57 ⟨by decide, by decide⟩
      have hat57 : cl57.slots[((0 : Int32)).toNatClampNeg]? = some (.double (FP.i2d vb0)) := H57 _ (by rw [S57]; decide)
      refine Goes.step (fun _ k => X56.daload hx (j := (0 : Int32)) (v := (.double (FP.i2d vb0))) (by rw [e56]; exact Ar57.1) (State.isArrayOf_alike hZ.alike Ar57.2.1) Ar57.2.2 hin57 hat57 (g := (mkF m 114 #[.val (.ref x0), .val (.int x1), .val (.double (FP.i2d kx)), .second, .val (.int (1 : Int32)), .val (.int (0 : Int32))] [(.int (0 : Int32)), (.ref ky), (.int (1 : Int32)), (.ref ky)])) rfl rfl (hb hby d4_114) _ k) ?_
      show Goes _ _ _ _ _ _ _ (T56.setTop (mkF m 115 _ [(.double (FP.i2d vb0)), (.int (1 : Int32)), (.ref ky)]))
      obtain ⟨cl58, Ar58, q58, S58, P58, H58, G58⟩ := id f53
      have hin58 : ¬ ((1 : Int32) < 0 ∨ cl58.slots.size ≤ ((1 : Int32)).toNatClampNeg) := inb_of S58 ⟨by decide, by decide⟩
      obtain ⟨T59, h59, X59, e59, W59, st59⟩ := stD X56 hx hZ e56 Ar58 (j := (1 : Int32)) hin58 (g := (mkF m 115 #[.val (.ref x0), .val (.int x1), .val (.double (FP.i2d kx)), .second, .val (.int (1 : Int32)), .val (.int (0 : Int32))] [(.double (FP.i2d vb0)), (.int (1 : Int32)), (.ref ky)])) rfl rfl (hb hby d4_115)
      refine Goes.step st59 ?_
      have V59 := Arv.set Ar58 q58 S58 P58 H58 G58 rfl W59 1 rfl (Nat.le_of_ble_eq_true rfl)
      have f60 := f48.other W59 (Or.inl ne2)
      have f61 := f49.other W59 (Or.inl ne2)
      have f62 := f50.other W59 (Or.inl ne2)
      have f63 := f51.wr W59
      have f64 := f52.other W59 ne3
      have f65 := V59
      have K66 : Keep h0 h59 [x0, nd, ky] := K54.wr W59 (Or.inl (List.mem_of_getElem? (i := 2) rfl))
      have Z66 : n0 ≤ h59.size := by rw [Wr.size W59]; exact Z54
      have N66 := Fr.snoc X59 N54 g_ky
      show Goes _ _ _ _ _ _ _ (T59.setTop (mkF m 116 _ []))
      refine Goes.step (fun _ k => XS.iload X59.here hx rfl (hb hby d4_116) rfl  k) ?_
      refine Goes.step (fun _ k => XS.istore X59.here hx rfl (hb hby d4_118) rfl (l' := #[.val (.ref x0), .val (.int x1), .val (.double (FP.i2d kx)), .second, .val (.int (0 : Int32)), .val (.int (0 : Int32))]) rfl k) ?_
      show Goes _ _ _ _ _ _ _ (T59.setTop (mkF m 120 _ []))
      refine Goes.step (fun _ k => XS.goto X59.here hx rfl (pc0 := 120) (pc' := 59) rfl (hb hby d4_120) (by decide) (by decide) k) ?_
      show Goes _ _ _ _ _ _ _ (T59.setTop (mkF m 59 #[.val (.ref x0), .val (.int x1), .val (.double (FP.i2d kx)), .second, .val (.int (0 : Int32)), .val (.int (0 : Int32))] []))
      refine Goes.step (fun _ k => XS.iload X59.here hx rfl (hb hby d4_59) rfl  k) ?_
      refine Goes.step (fun _ k => XS.ifYes X59.here hx rfl (pc0 := 61) (pc' := 123) rfl (hb hby d4_61) rfl ((if0 _ _).trans (flt (by decide : ¬ ((0 : Int32) < (0 : Int32)))).2.2.2) (by decide) (by decide) k) ?_
      show Goes _ _ _ _ _ _ _ (T59.setTop (mkF m 123 _ []))
      refine Goes.step (fun _ k => XS.aloadN X59.here hx rfl (hb hby d4_123) rfl rfl k) ?_
      obtain ⟨T67, X67, e67, st67⟩ := getF X59 hx hZ hown (host := "") (Or.inl w_14) Via.refl e59 f61 (g := (mkF m 124 #[.val (.ref x0), .val (.int x1), .val (.double (FP.i2d kx)), .second, .val (.int (0 : Int32)), .val (.int (0 : Int32))] [(.ref x0)])) rfl rfl (hb hby d4_124)
      refine Goes.step st67 ?_
      show Goes _ _ _ _ _ _ _ (T67.setTop (mkF m 127 _ [(.ref nd)]))
      refine Goes.step (fun _ k => XS.iload X67.here hx rfl (hb hby d4_127) rfl  k) ?_
      refine Goes.step (fun _ k => XS.iloadN X67.here hx rfl (hb hby d4_129) rfl  k) ?_
      obtain ⟨cl68, Ar68, q68, S68, P68, H68, G68⟩ := id f64
      have hin68 : ¬ ((0 : Int32) < 0 ∨ cl68.slots.size ≤ ((0 : Int32)).toNatClampNeg) := inb_of S68 ⟨by decide, by decide⟩
      obtain ⟨T69, h69, X69, e69, W69, st69⟩ := stI X67 hx hZ e67 Ar68 (j := (0 : Int32)) hin68 (g := (mkF m 130 #[.val (.ref x0), .val (.int x1), .val (.double (FP.i2d kx)), .second, .val (.int (0 : Int32)), .val (.int (0 : Int32))] [(.int x1), (.int (0 : Int32)), (.ref nd)])) rfl rfl (hb hby d4_130)
      refine Goes.step st69 ?_
      have V69 := Arv.set Ar68 q68 S68 P68 H68 G68 rfl W69 0 rfl (Nat.le_of_ble_eq_true rfl)
      have f70 := f60.other W69 (Or.inl ne1)
      have f71 := f61.other W69 (Or.inl ne1)
      have f72 := f62.other W69 (Or.inl ne1)
      have f73 := f63.wr W69
      have f74 := V69
      have f75 := f65.other W69 (Ne.symm ne3)
      have K76 : Keep h0 h69 [x0, nd, ky] := K66.wr W69 (Or.inl (List.mem_of_getElem? (i := 1) rfl))
      have Z76 : n0 ≤ h69.size := by rw [Wr.size W69]; exact Z66
      have N76 := Fr.snoc X69 N66 g_nd
      show Goes _ _ _ _ _ _ _ (T69.setTop (mkF m 131 _ []))
      refine Goes.step (fun _ k => XS.aloadN X69.here hx rfl (hb hby d4_131) rfl rfl k) ?_
      obtain ⟨T77, X77, e77, st77⟩ := getF X69 hx hZ hown (host := "") (Or.inl w_17) Via.refl e69 f72 (g := (mkF m 132 #[.val (.ref x0), .val (.int x1), .val (.double (FP.i2d kx)), .second, .val (.int (0 : Int32)), .val (.int (0 : Int32))] [(.ref x0)])) rfl rfl (hb hby d4_132)
      refine Goes.step st77 ?_
      show Goes _ _ _ _ _ _ _ (T77.setTop (mkF m 135 _ [(.ref ky)]))
      refine Goes.step (fun _ k => XS.iload X77.here hx rfl (hb hby d4_135) rfl  k) ?_
      refine Goes.step (fun _ k => XS.dloadN X77.here hx rfl (hb hby d4_137) rfl k) ?_
      obtain ⟨cl78, Ar78, q78, S78, P78, H78, G78⟩ := id f75
      have hin78 : ¬ ((0 : Int32) < 0 ∨ cl78.slots.size ≤ ((0 : Int32)).toNatClampNeg) := inb_of S78 ⟨by decide, by decide⟩
      obtain ⟨T79, h79, X79, e79, W79, st79⟩ := stD X77 hx hZ e77 Ar78 (j := (0 : Int32)) hin78 (g := (mkF m 138 #[.val (.ref x0), .val (.int x1), .val (.double (FP.i2d kx)), .second, .val (.int (0 : Int32)), .val (.int (0 : Int32))] [(.double (FP.i2d kx)), (.int (0 : Int32)), (.ref ky)])) rfl rfl (hb hby d4_138)
      refine Goes.step st79 ?_
      have V79 := Arv.set Ar78 q78 S78 P78 H78 G78 rfl W79 0 rfl (Nat.le_of_ble_eq_true rfl)
      have f80 := f70.other W79 (Or.inl ne2)
      have f81 := f71.other W79 (Or.inl ne2)
      have f82 := f72.other W79 (Or.inl ne2)
      have f83 := f73.wr W79
      have f84 := f74.other W79 ne3
      have f85 := V79
      have K86 : Keep h0 h79 [x0, nd, ky] := K76.wr W79 (Or.inl (List.mem_of_getElem? (i := 2) rfl))
      have Z86 : n0 ≤ h79.size := by rw [Wr.size W79]; exact Z76
      have N86 := Fr.snoc X79 N76 g_ky
      show Goes _ _ _ _ _ _ _ (T79.setTop (mkF m 139 _ []))
      have ph0 := own_l c77_15
      have ph1 := own_l c77_42
      exact Goes.retV X79 hx (BodyLoose.notSynchronized Bd) Bd.returns (hb hby d4_139) (by show Q4_3 Z x0 x1 kx nd ky kn kd va0 va1 va2 vb0 vb1 vb2 h0 n0 none T79.heap _; rw [e79]; exact ⟨N86, K86, rfl, f80, f81, f82, x1, va0, va2, va1, kx, vb0, vb2, vb1, f84, f85, (List.Perm.map (fun i => ([(x1, kx), (va0, vb0), (va1, vb1), (va2, vb2)] : List (Int32 × Int32)).getD i (0, 0)) (by decide : ([0, 1, 3, 2] : List Nat).Perm [0, 1, 2, 3])), by omega, by omega, by omega⟩) (by decide) (by decide)
    · refine Goes.step (fun _ k => XS.ifYes X40.here hx rfl (pc0 := 77) (pc' := 123) rfl (hb hby d4_77) rfl ((if0 _ _).trans (flt (fun q => c77_42 ((own_dgt _ _ _).mp q))).2.2.2) (by decide) (by decide) k) ?_
      show Goes _ _ _ _ _ _ _ (T40.setTop (mkF m 123 _ []))
      refine Goes.step (fun _ k => XS.aloadN X40.here hx rfl (hb hby d4_123) rfl rfl k) ?_
      obtain ⟨T87, X87, e87, st87⟩ := getF X40 hx hZ hown (host := "") (Or.inl w_14) Via.refl e40 f34 (g := (mkF m 124 #[.val (.ref x0), .val (.int x1), .val (.double (FP.i2d kx)), .second, .val (.int (1 : Int32)), .val (.int (1 : Int32))] [(.ref x0)])) rfl rfl (hb hby d4_124)
      refine Goes.step st87 ?_
      show Goes _ _ _ _ _ _ _ (T87.setTop (mkF m 127 _ [(.ref nd)]))
      refine Goes.step (fun _ k => XS.iload X87.here hx rfl (hb hby d4_127) rfl  k) ?_
      refine Goes.step (fun _ k => XS.iloadN X87.here hx rfl (hb hby d4_129) rfl  k) ?_
      obtain ⟨cl88, Ar88, q88, S88, P88, H88, G88⟩ := id f37
      have hin88 : ¬ ((1 : Int32) < 0 ∨ cl88.slots.size ≤ ((1 : Int32)).toNatClampNeg) := inb_of S88 ⟨by decide, by decide⟩
      obtain ⟨T89, h89, X89, e89, W89, st89⟩ := stI X87 hx hZ e87 Ar88 (j := (1 : Int32)) hin88 (g := (mkF m 130 #[.val (.ref x0), .val (.int x1), .val (.double (FP.i2d kx)), .second, .val (.int (1 : Int32)), .val (.int (1 : Int32))] [(.int x1), (.int (1 : Int32)), (.ref nd)])) rfl rfl (hb hby d4_130)
      refine Goes.step st89 ?_
      have V89 := Arv.set Ar88 q88 S88 P88 H88 G88 rfl W89 1 rfl (Nat.le_of_ble_eq_true rfl)
      have f90 := f33.other W89 (Or.inl ne1)
      have f91 := f34.other W89 (Or.inl ne1)
      have f92 := f35.other W89 (Or.inl ne1)
      have f93 := f36.wr W89
      have f94 := V89
      have f95 := f38.other W89 (Ne.symm ne3)
      have K96 : Keep h0 h89 [x0, nd, ky] := K39.wr W89 (Or.inl (List.mem_of_getElem? (i := 1) rfl))
      have Z96 : n0 ≤ h89.size := by rw [Wr.size W89]; exact Z39
      have N96 := Fr.snoc X89 N39 g_nd
      show Goes _ _ _ _ _ _ _ (T89.setTop (mkF m 131 _ []))
      refine Goes.step (fun _ k => XS.aloadN X89.here hx rfl (hb hby d4_131) rfl rfl k) ?_
      obtain ⟨T97, X97, e97, st97⟩ := getF X89 hx hZ hown (host := "") (Or.inl w_17) Via.refl e89 f92 (g := (mkF m 132 #[.val (.ref x0), .val (.int x1), .val (.double (FP.i2d kx)), .second, .val (.int (1 : Int32)), .val (.int (1 : Int32))] [(.ref x0)])) rfl rfl (hb hby d4_132)
      refine Goes.step st97 ?_
      show Goes _ _ _ _ _ _ _ (T97.setTop (mkF m 135 _ [(.ref ky)]))
      refine Goes.step (fun _ k => XS.iload X97.here hx rfl (hb hby d4_135) rfl  k) ?_
      refine Goes.step (fun _ k => XS.dloadN X97.here hx rfl (hb hby d4_137) rfl k) ?_
      obtain ⟨cl98, Ar98, q98, S98, P98, H98, G98⟩ := id f95
      have hin98 : ¬ ((1 : Int32) < 0 ∨ cl98.slots.size ≤ ((1 : Int32)).toNatClampNeg) := inb_of S98 ⟨by decide, by decide⟩
      obtain ⟨T99, h99, X99, e99, W99, st99⟩ := stD X97 hx hZ e97 Ar98 (j := (1 : Int32)) hin98 (g := (mkF m 138 #[.val (.ref x0), .val (.int x1), .val (.double (FP.i2d kx)), .second, .val (.int (1 : Int32)), .val (.int (1 : Int32))] [(.double (FP.i2d kx)), (.int (1 : Int32)), (.ref ky)])) rfl rfl (hb hby d4_138)
      refine Goes.step st99 ?_
      have V99 := Arv.set Ar98 q98 S98 P98 H98 G98 rfl W99 1 rfl (Nat.le_of_ble_eq_true rfl)
      have f100 := f90.other W99 (Or.inl ne2)
      have f101 := f91.other W99 (Or.inl ne2)
      have f102 := f92.other W99 (Or.inl ne2)
      have f103 := f93.wr W99
      have f104 := f94.other W99 ne3
      have f105 := V99
      have K106 : Keep h0 h99 [x0, nd, ky] := K96.wr W99 (Or.inl (List.mem_of_getElem? (i := 2) rfl))
      have Z106 : n0 ≤ h99.size := by rw [Wr.size W99]; exact Z96
      have N106 := Fr.snoc X99 N96 g_ky
      show Goes _ _ _ _ _ _ _ (T99.setTop (mkF m 139 _ []))
      have ph0 := own_l c77_15
      have ph1 := own_nl c77_42
      exact Goes.retV X99 hx (BodyLoose.notSynchronized Bd) Bd.returns (hb hby d4_139) (by show Q4_3 Z x0 x1 kx nd ky kn kd va0 va1 va2 vb0 vb1 vb2 h0 n0 none T99.heap _; rw [e99]; exact ⟨N106, K106, rfl, f100, f101, f102, va0, x1, va2, va1, vb0, kx, vb2, vb1, f104, f105, (List.Perm.map (fun i => ([(x1, kx), (va0, vb0), (va1, vb1), (va2, vb2)] : List (Int32 × Int32)).getD i (0, 0)) (by decide : ([1, 0, 3, 2] : List Nat).Perm [0, 1, 2, 3])), by omega, by omega, by omega⟩) (by decide) (by decide)
  · refine Goes.step (fun _ k => XS.ifYes X13.here hx rfl (pc0 := 77) (pc' := 123) rfl (hb hby d4_77) rfl ((if0 _ _).trans (flt (fun q => c77_15 ((own_dgt _ _ _).mp q))).2.2.2) (by decide) (by decide) k) ?_
    show Goes _ _ _ _ _ _ _ (T13.setTop (mkF m 123 _ []))
    refine Goes.step (fun _ k => XS.aloadN X13.here hx rfl (hb hby d4_123) rfl rfl k) ?_
    obtain ⟨T107, X107, e107, st107⟩ := getF X13 hx hZ hown (host := "") (Or.inl w_14) Via.refl e13 f7 (g := (mkF m 124 #[.val (.ref x0), .val (.int x1), .val (.double (FP.i2d kx)), .second, .val (.int (3 : Int32)), .unset] [(.ref x0)])) rfl rfl (hb hby d4_124)
    refine Goes.step st107 ?_
    show Goes _ _ _ _ _ _ _ (T107.setTop (mkF m 127 _ [(.ref nd)]))
    refine Goes.step (fun _ k => XS.iload X107.here hx rfl (hb hby d4_127) rfl  k) ?_
    refine Goes.step (fun _ k => XS.iloadN X107.here hx rfl (hb hby d4_129) rfl  k) ?_
    obtain ⟨cl108, Ar108, q108, S108, P108, H108, G108⟩ := id f10
    have hin108 : ¬ ((3 : Int32) < 0 ∨ cl108.slots.size ≤ ((3 : Int32)).toNatClampNeg) := inb_of S108 ⟨by decide, by decide⟩
    obtain ⟨T109, h109, X109, e109, W109, st109⟩ := stI X107 hx hZ e107 Ar108 (j := (3 : Int32)) hin108 (g := (mkF m 130 #[.val (.ref x0), .val (.int x1), .val (.double (FP.i2d kx)), .second, .val (.int (3 : Int32)), .unset] [(.int x1), (.int (3 : Int32)), (.ref nd)])) rfl rfl (hb hby d4_130)
    refine Goes.step st109 ?_
    have V109 := Arv.set Ar108 q108 S108 P108 H108 G108 rfl W109 3 rfl (Nat.le_of_ble_eq_true rfl)
    have f110 := f6.other W109 (Or.inl ne1)
    have f111 := f7.other W109 (Or.inl ne1)
    have f112 := f8.other W109 (Or.inl ne1)
    have f113 := f9.wr W109
    have f114 := V109
    have f115 := f11.other W109 (Ne.symm ne3)
    have K116 : Keep h0 h109 [x0, nd, ky] := K12.wr W109 (Or.inl (List.mem_of_getElem? (i := 1) rfl))
    have Z116 : n0 ≤ h109.size := by rw [Wr.size W109]; exact Z12
    have N116 := Fr.snoc X109 N12 g_nd
    show Goes _ _ _ _ _ _ _ (T109.setTop (mkF m 131 _ []))
    refine Goes.step (fun _ k => XS.aloadN X109.here hx rfl (hb hby d4_131) rfl rfl k) ?_
    obtain ⟨T117, X117, e117, st117⟩ := getF X109 hx hZ hown (host := "") (Or.inl w_17) Via.refl e109 f112 (g := (mkF m 132 #[.val (.ref x0), .val (.int x1), .val (.double (FP.i2d kx)), .second, .val (.int (3 : Int32)), .unset] [(.ref x0)])) rfl rfl (hb hby d4_132)
    refine Goes.step st117 ?_
    show Goes _ _ _ _ _ _ _ (T117.setTop (mkF m 135 _ [(.ref ky)]))
    refine Goes.step (fun _ k => XS.iload X117.here hx rfl (hb hby d4_135) rfl  k) ?_
    refine Goes.step (fun _ k => XS.dloadN X117.here hx rfl (hb hby d4_137) rfl k) ?_
    obtain ⟨cl118, Ar118, q118, S118, P118, H118, G118⟩ := id f115
    have hin118 : ¬ ((3 : Int32) < 0 ∨ cl118.slots.size ≤ ((3 : Int32)).toNatClampNeg) := inb_of S118 ⟨by decide, by decide⟩
    obtain ⟨T119, h119, X119, e119, W119, st119⟩ := stD X117 hx hZ e117 Ar118 (j := (3 : Int32)) hin118 (g := (mkF m 138 #[.val (.ref x0), .val (.int x1), .val (.double (FP.i2d kx)), .second, .val (.int (3 : Int32)), .unset] [(.double (FP.i2d kx)), (.int (3 : Int32)), (.ref ky)])) rfl rfl (hb hby d4_138)
    refine Goes.step st119 ?_
    have V119 := Arv.set Ar118 q118 S118 P118 H118 G118 rfl W119 3 rfl (Nat.le_of_ble_eq_true rfl)
    have f120 := f110.other W119 (Or.inl ne2)
    have f121 := f111.other W119 (Or.inl ne2)
    have f122 := f112.other W119 (Or.inl ne2)
    have f123 := f113.wr W119
    have f124 := f114.other W119 ne3
    have f125 := V119
    have K126 : Keep h0 h119 [x0, nd, ky] := K116.wr W119 (Or.inl (List.mem_of_getElem? (i := 2) rfl))
    have Z126 : n0 ≤ h119.size := by rw [Wr.size W119]; exact Z116
    have N126 := Fr.snoc X119 N116 g_ky
    show Goes _ _ _ _ _ _ _ (T119.setTop (mkF m 139 _ []))
    have ph0 := own_nl c77_15
    exact Goes.retV X119 hx (BodyLoose.notSynchronized Bd) Bd.returns (hb hby d4_139) (by show Q4_3 Z x0 x1 kx nd ky kn kd va0 va1 va2 vb0 vb1 vb2 h0 n0 none T119.heap _; rw [e119]; exact ⟨N126, K126, rfl, f120, f121, f122, va0, va1, va2, x1, vb0, vb1, vb2, kx, f124, f125, (List.Perm.map (fun i => ([(x1, kx), (va0, vb0), (va1, vb1), (va2, vb2)] : List (Int32 × Int32)).getD i (0, 0)) (by decide : ([1, 2, 3, 0] : List Nat).Perm [0, 1, 2, 3])), by omega, by omega, by omega⟩) (by decide) (by decide)
theorem ef_4_4 (m : MethodId) (x0 : Addr) (x1 : Int32) (kx : Int32) (nd : Addr) (ky : Addr) (kn : ClassId) (kd : ClassId) (va0 : Int32) (va1 : Int32) (va2 : Int32) (va3 : Int32) (vb0 : Int32) (vb1 : Int32) (vb2 : Int32) (vb3 : Int32)  : entryFrame m #[(.ref x0), (.int x1), (.double (FP.i2d kx))] 6 = mkF m 0 #[.val (.ref x0), .val (.int x1), .val (.double (FP.i2d kx)), .second, .unset, .unset] [] := by first | (simp [entryFrame, mkF, argsToLocals, Value.category]; done) | rfl
def Q4_4 (Z : State) (x0 : Addr) (x1 : Int32) (kx : Int32) (nd : Addr) (ky : Addr) (kn : ClassId) (kd : ClassId) (va0 : Int32) (va1 : Int32) (va2 : Int32) (va3 : Int32) (vb0 : Int32) (vb1 : Int32) (vb2 : Int32) (vb3 : Int32) (h0 : Heap) (n0 : Nat) (v : Option Value) (h : Heap) (L : List Loc) : Prop := Fr n0 L ∧ Keep h0 h [x0, nd, ky] ∧ v = none ∧ Fld Z h x0 "com/example/hailwise/hailwise/NodeQueue" "size" "I" (.int (5 : Int32)) ∧ Fld Z h x0 "com/example/hailwise/hailwise/NodeQueue" "nodes" "[I" (.ref nd) ∧ Fld Z h x0 "com/example/hailwise/hailwise/NodeQueue" "keys" "[D" (.ref ky) ∧ ∃ p0 p1 p2 p3 p4 q0 q1 q2 q3 q4 : Int32, Arv Z h nd kn .int (64 : Int32) [(.int p0), (.int p1), (.int p2), (.int p3), (.int p4), (.int (0 : Int32))] (.int (0 : Int32)) ∧ Arv Z h ky kd .double (64 : Int32) [(.double (FP.i2d q0)), (.double (FP.i2d q1)), (.double (FP.i2d q2)), (.double (FP.i2d q3)), (.double (FP.i2d q4)), (.double (0 : UInt64))] (.double (0 : UInt64)) ∧ ([(p0, q0), (p1, q1), (p2, q2), (p3, q3), (p4, q4)] : List (Int32 × Int32)).Perm ((x1, kx) :: ([(va0, vb0), (va1, vb1), (va2, vb2), (va3, vb3)] : List (Int32 × Int32))) ∧ q0.toInt ≤ q1.toInt ∧ q0.toInt ≤ q2.toInt ∧ q1.toInt ≤ q3.toInt ∧ q1.toInt ≤ q4.toInt
set_option maxRecDepth 65536 in
set_option maxHeartbeats 40000000 in
theorem rm4_4 (l : Launch) (Z : State) (a0 : Array Value) (hw : ∀ d ∈ tables_1, d.before a0 Z = true) (ws : List Jvm.Cond) (x0 : Addr) (x1 : Int32) (kx : Int32) (nd : Addr) (ky : Addr) (kn : ClassId) (kd : ClassId) (va0 : Int32) (va1 : Int32) (va2 : Int32) (va3 : Int32) (vb0 : Int32) (vb1 : Int32) (vb2 : Int32) (vb3 : Int32) (h0 : Heap) (n0 : Nat) (Z0 : n0 ≤ h0.size) (F_size : Fld Z h0 x0 "com/example/hailwise/hailwise/NodeQueue" "size" "I" (.int (4 : Int32))) (F_nd : Fld Z h0 x0 "com/example/hailwise/hailwise/NodeQueue" "nodes" "[I" (.ref nd)) (F_ky : Fld Z h0 x0 "com/example/hailwise/hailwise/NodeQueue" "keys" "[D" (.ref ky)) (E_x0 : Exa Z h0 x0 "com/example/hailwise/hailwise/NodeQueue") (V_nd : Arv Z h0 nd kn .int (64 : Int32) [(.int va0), (.int va1), (.int va2), (.int va3), (.int (0 : Int32)), (.int (0 : Int32))] (.int (0 : Int32))) (V_ky : Arv Z h0 ky kd .double (64 : Int32) [(.double (FP.i2d vb0)), (.double (FP.i2d vb1)), (.double (FP.i2d vb2)), (.double (FP.i2d vb3)), (.double (0 : UInt64)), (.double (0 : UInt64))] (.double (0 : UInt64))) (g_x0 : n0 ≤ x0) (g_nd : n0 ≤ nd) (g_ky : n0 ≤ ky) (ne1 : x0 ≠ nd) (ne2 : x0 ≠ ky) (ne3 : nd ≠ ky) (ho01 : vb0.toInt ≤ vb1.toInt) (ho02 : vb0.toInt ≤ vb2.toInt) (ho13 : vb1.toInt ≤ vb3.toInt) :
    MetFree l (⟨"com/example/hailwise/hailwise/NodeQueue", "add", "(ID)V"⟩ : MethodName) (head1 (Jvm.Cond.code (⟨"com/example/hailwise/hailwise/NodeQueue", "add", "(ID)V"⟩ : MethodName) prog_21_method_4_code 6 none :: ws) ({ frames := 0, cells := 0, slots := 0, locals := 0 } : Room)) (fun a U => a = #[(.ref x0), (.int x1), (.double (FP.i2d kx))] ∧ Z.Warmed39 U.vm ∧ U.heap = h0) (fun _ _ _ _ _ => True) (fun _ U o U' => ∃ v L, o = .returned v ∧ Q4_4 Z x0 x1 kx nd ky kn kd va0 va1 va2 va3 vb0 vb1 vb2 vb3 h0 n0 v U'.heap L ∧ FrameEnd U o U' L ({ frames := 0, cells := 0, slots := 0, locals := 0 } : Room).cells ({ frames := 0, cells := 0, slots := 0, locals := 0 } : Room).slots) := by
  refine MetFree.of_bodySF (plainFor_of_name pn_4) hisR ?_
  intro p e s m args below meth c s₁ Bd hml0 hP hK
  obtain ⟨rfl, hZ, hh⟩ := hP
  have w_6 := hw _ (List.mem_of_getElem? (i := 6) rfl)
  have w_14 := hw _ (List.mem_of_getElem? (i := 14) rfl)
  have w_15 := hw _ (List.mem_of_getElem? (i := 15) rfl)
  have w_17 := hw _ (List.mem_of_getElem? (i := 17) rfl)
  have w_18 := hw _ (List.mem_of_getElem? (i := 18) rfl)
  have w_24 := hw _ (List.mem_of_getElem? (i := 24) rfl)
  have w_25 := hw _ (List.mem_of_getElem? (i := 25) rfl)
  have hx := Bd.exec
  have hby := Bd.bytes
  have hml : c.maxLocals = 6 := hml0
  have hown : s.vm.findClass "com/example/hailwise/hailwise/NodeQueue" = some m.cls := findClass_of_methodNamed Bd.named
  have hnm := (name_of_methodNamed Bd.named Bd.method).1
  have X0 : Stand p l e ({ frames := 0, cells := 0, slots := 0, locals := 0 } : Room) s m #[(.ref x0), (.int x1), (.double (FP.i2d kx))] below meth c s₁ [] 0 0 := Stand.of_body Bd
  have e0 : s₁.heap = h0 := by rw [← hh, Bd.state]; rfl
  have N0 := Fr.nil n0
  have K0 : Keep h0 h0 [x0, nd, ky] := Keep.refl h0 _
  refine (?_ : Goes p e below s ({ frames := 0, cells := 0, slots := 0, locals := 0 } : Room).cells ({ frames := 0, cells := 0, slots := 0, locals := 0 } : Room).slots (fun v h L => Q4_4 Z x0 x1 kx nd ky kn kd va0 va1 va2 va3 vb0 vb1 vb2 vb3 h0 n0 v h L) (s₁.setTop (entryFrame m #[(.ref x0), (.int x1), (.double (FP.i2d kx))] 6)))
  rw [ef_4_4 m x0 x1 kx nd ky kn kd va0 va1 va2 va3 vb0 vb1 vb2 vb3 ]
  show Goes _ _ _ _ _ _ _ (s₁.setTop (mkF m 0 #[.val (.ref x0), .val (.int x1), .val (.double (FP.i2d kx)), .second, .unset, .unset] []))
  refine Goes.step (fun _ k => XS.aloadN X0.here hx rfl (hb hby d4_0) rfl rfl k) ?_
  obtain ⟨T1, X1, e1, st1⟩ := getF X0 hx hZ hown (host := "") (Or.inl w_24) Via.refl e0 F_size (g := (mkF m 1 #[.val (.ref x0), .val (.int x1), .val (.double (FP.i2d kx)), .second, .unset, .unset] [(.ref x0)])) rfl rfl (hb hby d4_1)
  refine Goes.step st1 ?_
  show Goes _ _ _ _ _ _ _ (T1.setTop (mkF m 4 _ [(.int (4 : Int32))]))
  refine Goes.step (fun _ k => XS.aloadN X1.here hx rfl (hb hby d4_4) rfl rfl k) ?_
  obtain ⟨T2, X2, e2, st2⟩ := getF X1 hx hZ hown (host := "") (Or.inl w_14) Via.refl e1 F_nd (g := (mkF m 5 #[.val (.ref x0), .val (.int x1), .val (.double (FP.i2d kx)), .second, .unset, .unset] [(.ref x0), (.int (4 : Int32))])) rfl rfl (hb hby d4_5)
  refine Goes.step st2 ?_
  show Goes _ _ _ _ _ _ _ (T2.setTop (mkF m 8 _ [(.ref nd), (.int (4 : Int32))]))
  obtain ⟨cl3, Ar3, q3, S3, P3, H3, G3⟩ := id V_nd
  refine Goes.step (fun _ k => X2.arraylength hx (by rw [e2]; exact Ar3.1) (State.isArrayOf_alike hZ.alike Ar3.2.1) (g := (mkF m 8 #[.val (.ref x0), .val (.int x1), .val (.double (FP.i2d kx)), .second, .unset, .unset] [(.ref nd), (.int (4 : Int32))])) rfl rfl (hb hby d4_8) _ k) ?_
  rw [len_of S3 P3]
  show Goes _ _ _ _ _ _ _ (T2.setTop (mkF m 9 _ [(.int (64 : Int32)), (.int (4 : Int32))]))
  refine Goes.step (fun _ k => XS.icmpYes X2.here hx rfl (pc0 := 9) (pc' := 46) rfl (hb hby d4_9) rfl (feq (by decide : ¬ ((4 : Int32) = (64 : Int32)))).2 (by decide) (by decide) k) ?_
  show Goes _ _ _ _ _ _ _ (T2.setTop (mkF m 46 _ []))
  refine Goes.step (fun _ k => XS.aloadN X2.here hx rfl (hb hby d4_46) rfl rfl k) ?_
  refine Goes.step (fun _ k => XS.dup X2.here hx rfl (hb hby d4_47) rfl rfl k) ?_
  obtain ⟨T4, X4, e4, st4⟩ := getF X2 hx hZ hown (host := "") (Or.inl w_24) Via.refl e2 F_size (g := (mkF m 48 #[.val (.ref x0), .val (.int x1), .val (.double (FP.i2d kx)), .second, .unset, .unset] [(.ref x0), (.ref x0)])) rfl rfl (hb hby d4_48)
  refine Goes.step st4 ?_
  show Goes _ _ _ _ _ _ _ (T4.setTop (mkF m 51 _ [(.int (4 : Int32)), (.ref x0)]))
  refine Goes.step (fun _ k => XS.dupX1 X4.here hx rfl (hb hby d4_51) rfl rfl rfl k) ?_
  show Goes _ _ _ _ _ _ _ (T4.setTop (mkF m 52 _ [(.int (4 : Int32)), (.ref x0), (.int (4 : Int32))]))
  refine Goes.step (fun _ k => XS.iconst X4.here hx rfl (hb hby d4_52) k) ?_
  refine Goes.step (fun _ k => XS.iadd X4.here hx rfl (hb hby d4_53) rfl k) ?_
  show Goes _ _ _ _ _ _ _ (T4.setTop (mkF m 54 #[.val (.ref x0), .val (.int x1), .val (.double (FP.i2d kx)), .second, .unset, .unset] [(.int (5 : Int32)), (.ref x0), (.int (4 : Int32))]))
  obtain ⟨T5, h5, X5, e5, W5, st5⟩ := putF X4 hx hZ hown (host := "") (Or.inl w_24) Via.refl e4 F_size E_x0 (Or.inl w_25) w_6 (ty := .int) (by decide) rfl rfl (g := (mkF m 54 #[.val (.ref x0), .val (.int x1), .val (.double (FP.i2d kx)), .second, .unset, .unset] [(.int (5 : Int32)), (.ref x0), (.int (4 : Int32))])) rfl rfl (hb hby d4_54)
  refine Goes.step st5 ?_
  have f6 := F_size.same W5
  have f7 := F_nd.other W5 (Or.inr (slot_ne (Or.inl w_15) (Or.inl w_25) (by decide) (t := (.array .int)) (t' := .int) (by decide) (by decide)))
  have f8 := F_ky.other W5 (Or.inr (slot_ne (Or.inl w_18) (Or.inl w_25) (by decide) (t := (.array .double)) (t' := .int) (by decide) (by decide)))
  have f9 := E_x0.wr W5
  have f10 := V_nd.other W5 (Ne.symm ne1)
  have f11 := V_ky.other W5 (Ne.symm ne2)
  have K12 : Keep h0 h5 [x0, nd, ky] := K0.wr W5 (Or.inl (List.mem_of_getElem? (i := 0) rfl))
  have Z12 : n0 ≤ h5.size := by rw [Wr.size W5]; exact Z0
  have N12 := Fr.snoc X5 N0 g_x0
  show Goes _ _ _ _ _ _ _ (T5.setTop (mkF m 57 _ [(.int (4 : Int32))]))
  refine Goes.step (fun _ k => XS.istore X5.here hx rfl (hb hby d4_57) rfl (l' := #[.val (.ref x0), .val (.int x1), .val (.double (FP.i2d kx)), .second, .val (.int (4 : Int32)), .unset]) rfl k) ?_
  show Goes _ _ _ _ _ _ _ (T5.setTop (mkF m 59 _ []))
  refine Goes.step (fun _ k => XS.iload X5.here hx rfl (hb hby d4_59) rfl  k) ?_
  refine Goes.step (fun _ k => XS.ifNo X5.here hx rfl (hb hby d4_61) rfl ((if0 _ _).trans (tlt (by decide : (0 : Int32) < (4 : Int32))).2.2.2) k) ?_
  show Goes _ _ _ _ _ _ _ (T5.setTop (mkF m 64 _ []))
  refine Goes.step (fun _ k => XS.aloadN X5.here hx rfl (hb hby d4_64) rfl rfl k) ?_
  obtain ⟨T13, X13, e13, st13⟩ := getF X5 hx hZ hown (host := "") (Or.inl w_17) Via.refl e5 f8 (g := (mkF m 65 #[.val (.ref x0), .val (.int x1), .val (.double (FP.i2d kx)), .second, .val (.int (4 : Int32)), .unset] [(.ref x0)])) rfl rfl (hb hby d4_65)
  refine Goes.step st13 ?_
  show Goes _ _ _ _ _ _ _ (T13.setTop (mkF m 68 _ [(.ref ky)]))
  refine Goes.step (fun _ k => XS.iload X13.here hx rfl (hb hby d4_68) rfl  k) ?_
  refine Goes.step (fun _ k => XS.iconst X13.here hx rfl (hb hby d4_70) k) ?_
  refine Goes.step (fun _ k => XS.isub X13.here hx rfl (hb hby d4_71) rfl k) ?_
  show Goes _ _ _ _ _ _ _ (T13.setTop (mkF m 72 _ [(.int (3 : Int32)), (.ref ky)]))
  refine Goes.step (fun _ k => XS.iconst X13.here hx rfl (hb hby d4_72) k) ?_
  refine Goes.step (fun _ k => XS.idiv X13.here hx rfl (hb hby d4_73) rfl (by decide) k) ?_
  show Goes _ _ _ _ _ _ _ (T13.setTop (mkF m 74 _ [(.int (1 : Int32)), (.ref ky)]))
  obtain ⟨cl14, Ar14, q14, S14, P14, H14, G14⟩ := id f11
  have hin14 : ¬ ((1 : Int32) < 0 ∨ cl14.slots.size ≤ ((1 : Int32)).toNatClampNeg) := inb_of S14 ⟨by decide, by decide⟩
  have hat14 : cl14.slots[((1 : Int32)).toNatClampNeg]? = some (.double (FP.i2d vb1)) := H14 _ (by rw [S14]; decide)
  refine Goes.step (fun _ k => X13.daload hx (j := (1 : Int32)) (v := (.double (FP.i2d vb1))) (by rw [e13]; exact Ar14.1) (State.isArrayOf_alike hZ.alike Ar14.2.1) Ar14.2.2 hin14 hat14 (g := (mkF m 74 #[.val (.ref x0), .val (.int x1), .val (.double (FP.i2d kx)), .second, .val (.int (4 : Int32)), .unset] [(.int (1 : Int32)), (.ref ky)])) rfl rfl (hb hby d4_74) _ k) ?_
  show Goes _ _ _ _ _ _ _ (T13.setTop (mkF m 75 #[.val (.ref x0), .val (.int x1), .val (.double (FP.i2d kx)), .second, .val (.int (4 : Int32)), .unset] [(.double (FP.i2d vb1))]))
  refine Goes.step (fun _ k => XS.dloadN X13.here hx rfl (hb hby d4_75) rfl k) ?_
  refine Goes.step (fun _ k => XS.dcmpS X13.here hx rfl (hb hby d4_76) rfl rfl k) ?_
  show Goes _ _ _ _ _ _ _ (T13.setTop (mkF m 77 _ [(.int (cmpValue (FP.dcmp (FP.i2d vb1) (FP.i2d kx)) .l))]))
  by_cases c77_15 : kx < vb1
  · refine Goes.step (fun _ k => XS.ifNo X13.here hx rfl (hb hby d4_77) rfl ((if0 _ _).trans (tlt ((own_dgt _ _ _).mpr c77_15)).2.2.2) k) ?_
    show Goes _ _ _ _ _ _ _ (T13.setTop (mkF m 80 _ []))
    refine Goes.step (fun _ k => XS.iload X13.here hx rfl (hb hby d4_80) rfl  k) ?_
    refine Goes.step (fun _ k => XS.iconst X13.here hx rfl (hb hby d4_82) k) ?_
    refine Goes.step (fun _ k => XS.isub X13.here hx rfl (hb hby d4_83) rfl k) ?_
    show Goes _ _ _ _ _ _ _ (T13.setTop (mkF m 84 _ [(.int (3 : Int32))]))
    refine Goes.step (fun _ k => XS.iconst X13.here hx rfl (hb hby d4_84) k) ?_
    refine Goes.step (fun _ k => XS.idiv X13.here hx rfl (hb hby d4_85) rfl (by decide) k) ?_
    show Goes _ _ _ _ _ _ _ (T13.setTop (mkF m 86 _ [(.int (1 : Int32))]))
    refine Goes.step (fun _ k => XS.istore X13.here hx rfl (hb hby d4_86) rfl (l' := #[.val (.ref x0), .val (.int x1), .val (.double (FP.i2d kx)), .second, .val (.int (4 : Int32)), .val (.int (1 : Int32))]) rfl k) ?_
    show Goes _ _ _ _ _ _ _ (T13.setTop (mkF m 88 _ []))
    refine Goes.step (fun _ k => XS.aloadN X13.here hx rfl (hb hby d4_88) rfl rfl k) ?_
    obtain ⟨T16, X16, e16, st16⟩ := getF X13 hx hZ hown (host := "") (Or.inl w_14) Via.refl e13 f7 (g := (mkF m 89 #[.val (.ref x0), .val (.int x1), .val (.double (FP.i2d kx)), .second, .val (.int (4 : Int32)), .val (.int (1 : Int32))] [(.ref x0)])) rfl rfl (hb hby d4_89)
    refine Goes.step st16 ?_
    show Goes _ _ _ _ _ _ _ (T16.setTop (mkF m 92 _ [(.ref nd)]))
    refine Goes.step (fun _ k => XS.iload X16.here hx rfl (hb hby d4_92) rfl  k) ?_
    refine Goes.step (fun _ k => XS.aloadN X16.here hx rfl (hb hby d4_94) rfl rfl k) ?_
    obtain ⟨T17, X17, e17, st17⟩ := getF X16 hx hZ hown (host := "") (Or.inl w_14) Via.refl e16 f7 (g := (mkF m 95 #[.val (.ref x0), .val (.int x1), .val (.double (FP.i2d kx)), .second, .val (.int (4 : Int32)), .val (.int (1 : Int32))] [(.ref x0), (.int (4 : Int32)), (.ref nd)])) rfl rfl (hb hby d4_95)
    refine Goes.step st17 ?_
    show Goes _ _ _ _ _ _ _ (T17.setTop (mkF m 98 #[.val (.ref x0), .val (.int x1), .val (.double (FP.i2d kx)), .second, .val (.int (4 : Int32)), .val (.int (1 : Int32))] [(.ref nd), (.int (4 : Int32)), (.ref nd)]))
    refine Goes.step (fun _ k => XS.iload X17.here hx rfl (hb hby d4_98) rfl  k) ?_
    obtain ⟨cl18, Ar18, q18, S18, P18, H18, G18⟩ := id f10
    have hin18 : ¬ ((1 : Int32) < 0 ∨ cl18.slots.size ≤ ((1 : Int32)).toNatClampNeg) := inb_of S18 ⟨by decide, by decide⟩
    have hat18 : cl18.slots[((1 : Int32)).toNatClampNeg]? = some (.int va1) := H18 _ (by rw [S18]; decide)
    refine Goes.step (fun _ k => X17.iaload hx (j := (1 : Int32)) (v := (.int va1)) (by rw [e17]; exact Ar18.1) (State.isArrayOf_alike hZ.alike Ar18.2.1) Ar18.2.2 hin18 hat18 (g := (mkF m 100 #[.val (.ref x0), .val (.int x1), .val (.double (FP.i2d kx)), .second, .val (.int (4 : Int32)), .val (.int (1 : Int32))] [(.int (1 : Int32)), (.ref nd), (.int (4 : Int32)), (.ref nd)])) rfl rfl (hb hby d4_100) _ k) ?_
    show Goes _ _ _ _ _ _ _ (T17.setTop (mkF m 101 _ [(.int va1), (.int (4 : Int32)), (.ref nd)]))
    obtain ⟨cl19, Ar19, q19, S19, P19, H19, G19⟩ := id f10
    have hin19 : ¬ ((4 : Int32) < 0 ∨ cl19.slots.size ≤ ((4 : Int32)).toNatClampNeg) := inb_of S19 ⟨by decide, by decide⟩
    obtain ⟨T20, h20, X20, e20, W20, st20⟩ := stI X17 hx hZ e17 Ar19 (j := (4 : Int32)) hin19 (g := (mkF m 101 #[.val (.ref x0), .val (.int x1), .val (.double (FP.i2d kx)), .second, .val (.int (4 : Int32)), .val (.int (1 : Int32))] [(.int va1), (.int (4 : Int32)), (.ref nd)])) rfl rfl (hb hby d4_101)
    refine Goes.step st20 ?_
    have V20 := Arv.set Ar19 q19 S19 P19 H19 G19 rfl W20 4 rfl (Nat.le_of_ble_eq_true rfl)
    have f21 := f6.other W20 (Or.inl ne1)
    have f22 := f7.other W20 (Or.inl ne1)
    have f23 := f8.other W20 (Or.inl ne1)
    have f24 := f9.wr W20
    have f25 := V20
    have f26 := f11.other W20 (Ne.symm ne3)
    have K27 : Keep h0 h20 [x0, nd, ky] := K12.wr W20 (Or.inl (List.mem_of_getElem? (i := 1) rfl))
    have Z27 : n0 ≤ h20.size := by rw [Wr.size W20]; exact Z12
    have N27 := Fr.snoc X20 N12 g_nd
    show Goes _ _ _ _ _ _ _ (T20.setTop (mkF m 102 _ []))
    refine Goes.step (fun _ k => XS.aloadN X20.here hx rfl (hb hby d4_102) rfl rfl k) ?_
    obtain ⟨T28, X28, e28, st28⟩ := getF X20 hx hZ hown (host := "") (Or.inl w_17) Via.refl e20 f23 (g := (mkF m 103 #[.val (.ref x0), .val (.int x1), .val (.double (FP.i2d kx)), .second, .val (.int (4 : Int32)), .val (.int (1 : Int32))] [(.ref x0)])) rfl rfl (hb hby d4_103)
    refine Goes.step st28 ?_
    show Goes _ _ _ _ _ _ _ (T28.setTop (mkF m 106 _ [(.ref ky)]))
    refine Goes.step (fun _ k => XS.iload X28.here hx rfl (hb hby d4_106) rfl  k) ?_
    refine Goes.step (fun _ k => XS.aloadN X28.here hx rfl (hb hby d4_108) rfl rfl k) ?_
    obtain ⟨T29, X29, e29, st29⟩ := getF X28 hx hZ hown (host := "") (Or.inl w_17) Via.refl e28 f23 (g := (mkF m 109 #[.val (.ref x0), .val (.int x1), .val (.double (FP.i2d kx)), .second, .val (.int (4 : Int32)), .val (.int (1 : Int32))] [(.ref x0), (.int (4 : Int32)), (.ref ky)])) rfl rfl (hb hby d4_109)
    refine Goes.step st29 ?_
    show Goes _ _ _ _ _ _ _ (T29.setTop (mkF m 112 _ [(.ref ky), (.int (4 : Int32)), (.ref ky)]))
    refine Goes.step (fun _ k => XS.iload X29.here hx rfl (hb hby d4_112) rfl  k) ?_
    obtain ⟨cl30, Ar30, q30, S30, P30, H30, G30⟩ := id f26
    have hin30 : ¬ ((1 : Int32) < 0 ∨ cl30.slots.size ≤ ((1 : Int32)).toNatClampNeg) := inb_of S30 ⟨by decide, by decide⟩
    have hat30 : cl30.slots[((1 : Int32)).toNatClampNeg]? = some (.double (FP.i2d vb1)) := H30 _ (by rw [S30]; decide)
    refine Goes.step (fun _ k => X29.daload hx (j := (1 : Int32)) (v := (.double (FP.i2d vb1))) (by rw [e29]; exact Ar30.1) (State.isArrayOf_alike hZ.alike Ar30.2.1) Ar30.2.2 hin30 hat30 (g := (mkF m 114 #[.val (.ref x0), .val (.int x1), .val (.double (FP.i2d kx)), .second, .val (.int (4 : Int32)), .val (.int (1 : Int32))] [(.int (1 : Int32)), (.ref ky), (.int (4 : Int32)), (.ref ky)])) rfl rfl (hb hby d4_114) _ k) ?_
    show Goes _ _ _ _ _ _ _ (T29.setTop (mkF m 115 _ [(.double (FP.i2d vb1)), (.int (4 : Int32)), (.ref ky)]))
    obtain ⟨cl31, Ar31, q31, S31, P31, H31, G31⟩ := id f26
    have hin31 : ¬ ((4 : Int32) < 0 ∨ cl31.slots.size ≤ ((4 : Int32)).toNatClampNeg) := inb_of S31 ⟨by decide, by decide⟩
    obtain ⟨T32, h32, X32, e32, W32, st32⟩ := stD X29 hx hZ e29 Ar31 (j := (4 : Int32)) hin31 (g := (mkF m 115 #[.val (.ref x0), .val (.int x1), .val (.double (FP.i2d kx)), .second, .val (.int (4 : Int32)), .val (.int (1 : Int32))] [(.double (FP.i2d vb1)), (.int (4 : Int32)), (.ref ky)])) rfl rfl (hb hby d4_115)
    refine Goes.step st32 ?_
    have V32 := Arv.set Ar31 q31 S31 P31 H31 G31 rfl W32 4 rfl (Nat.le_of_ble_eq_true rfl)
    have f33 := f21.other W32 (Or.inl ne2)
    have f34 := f22.other W32 (Or.inl ne2)
    have f35 := f23.other W32 (Or.inl ne2)
    have f36 := f24.wr W32
    have f37 := f25.other W32 ne3
    have f38 := V32
    have K39 : Keep h0 h32 [x0, nd, ky] := K27.wr W32 (Or.inl (List.mem_of_getElem? (i := 2) rfl))
    have Z39 : n0 ≤ h32.size := by rw [Wr.size W32]; exact Z27
    have N39 := Fr.snoc X32 N27 g_ky
    show Goes _ _ _ _ _ _ _ (T32.setTop (mkF m 116 _ []))
    refine Goes.step (fun _ k => XS.iload X32.here hx rfl (hb hby d4_116) rfl  k) ?_
    refine Goes.step (fun _ k => XS.istore X32.here hx rfl (hb hby d4_118) rfl (l' := #[.val (.ref x0), .val (.int x1), .val (.double (FP.i2d kx)), .second, .val (.int (1 : Int32)), .val (.int (1 : Int32))]) rfl k) ?_
    show Goes _ _ _ _ _ _ _ (T32.setTop (mkF m 120 #[.val (.ref x0), .val (.int x1), .val (.double (FP.i2d kx)), .second, .val (.int (1 : Int32)), .val (.int (1 : Int32))] []))
    refine Goes.step (fun _ k => XS.goto X32.here hx rfl (pc0 := 120) (pc' := 59) rfl (hb hby d4_120) (by decide) (by decide) k) ?_
    show Goes _ _ _ _ _ _ _ (T32.setTop (mkF m 59 _ []))
    refine Goes.step (fun _ k => XS.iload X32.here hx rfl (hb hby d4_59) rfl  k) ?_
    refine Goes.step (fun _ k => XS.ifNo X32.here hx rfl (hb hby d4_61) rfl ((if0 _ _).trans (tlt (by decide : (0 : Int32) < (1 : Int32))).2.2.2) k) ?_
    show Goes _ _ _ _ _ _ _ (T32.setTop (mkF m 64 _ []))
    refine Goes.step (fun _ k => XS.aloadN X32.here hx rfl (hb hby d4_64) rfl rfl k) ?_
    obtain ⟨T40, X40, e40, st40⟩ := getF X32 hx hZ hown (host := "") (Or.inl w_17) Via.refl e32 f35 (g := (mkF m 65 #[.val (.ref x0), .val (.int x1), .val (.double (FP.i2d kx)), .second, .val (.int (1 : Int32)), .val (.int (1 : Int32))] [(.ref x0)])) rfl rfl (hb hby d4_65)
    refine Goes.step st40 ?_
    show Goes _ _ _ _ _ _ _ (T40.setTop (mkF m 68 _ [(.ref ky)]))
    refine Goes.step (fun _ k => XS.iload X40.here hx rfl (hb hby d4_68) rfl  k) ?_
    refine Goes.step (fun _ k => XS.iconst X40.here hx rfl (hb hby d4_70) k) ?_
    refine Goes.step (fun _ k => XS.isub X40.here hx rfl (hb hby d4_71) rfl k) ?_
    show Goes _ _ _ _ _ _ _ (T40.setTop (mkF m 72 _ [(.int (0 : Int32)), (.ref ky)]))
    refine Goes.step (fun _ k => XS.iconst X40.here hx rfl (hb hby d4_72) k) ?_
    refine Goes.step (fun _ k => XS.idiv X40.here hx rfl (hb hby d4_73) rfl (by decide) k) ?_
    show Goes _ _ _ _ _ _ _ (T40.setTop (mkF m 74 _ [(.int (0 : Int32)), (.ref ky)]))
    obtain ⟨cl41, Ar41, q41, S41, P41, H41, G41⟩ := id f38
    have hin41 : ¬ ((0 : Int32) < 0 ∨ cl41.slots.size ≤ ((0 : Int32)).toNatClampNeg) := inb_of S41 ⟨by decide, by decide⟩
    have hat41 : cl41.slots[((0 : Int32)).toNatClampNeg]? = some (.double (FP.i2d vb0)) := H41 _ (by rw [S41]; decide)
    refine Goes.step (fun _ k => X40.daload hx (j := (0 : Int32)) (v := (.double (FP.i2d vb0))) (by rw [e40]; exact Ar41.1) (State.isArrayOf_alike hZ.alike Ar41.2.1) Ar41.2.2 hin41 hat41 (g := (mkF m 74 #[.val (.ref x0), .val (.int x1), .val (.double (FP.i2d kx)), .second, .val (.int (1 : Int32)), .val (.int (1 : Int32))] [(.int (0 : Int32)), (.ref ky)])) rfl rfl (hb hby d4_74) _ k) ?_
    show Goes _ _ _ _ _ _ _ (T40.setTop (mkF m 75 _ [(.double (FP.i2d vb0))]))
    refine Goes.step (fun _ k => XS.dloadN X40.here hx rfl (hb hby d4_75) rfl k) ?_
    refine Goes.step (fun _ k => XS.dcmpS X40.here hx rfl (hb hby d4_76) rfl rfl k) ?_
    show Goes _ _ _ _ _ _ _ (T40.setTop (mkF m 77 #[.val (.ref x0), .val (.int x1), .val (.double (FP.i2d kx)), .second, .val (.int (1 : Int32)), .val (.int (1 : Int32))] [(.int (cmpValue (FP.dcmp (FP.i2d vb0) (FP.i2d kx)) .l))]))
    by_cases c77_42 : kx < vb0
    · refine Goes.step (fun _ k => XS.ifNo X40.here hx rfl (hb hby d4_77) rfl ((if0 _ _).trans (tlt ((own_dgt _ _ _).mpr c77_42)).2.2.2) k) ?_
      show Goes _ _ _ _ _ _ _ (T40.setTop (mkF m 80 _ []))
      refine Goes.step (fun _ k => XS.iload X40.here hx rfl (hb hby d4_80) rfl  k) ?_
      refine Goes.step (fun _ k => XS.iconst X40.here hx rfl (hb hby d4_82) k) ?_
      refine Goes.step (fun _ k => XS.isub X40.here hx rfl (hb hby d4_83) rfl k) ?_
      show Goes _ _ _ _ _ _ _ (T40.setTop (mkF m 84 _ [(.int (0 : Int32))]))
      refine Goes.step (fun _ k => XS.iconst X40.here hx rfl (hb hby d4_84) k) ?_
      refine Goes.step (fun _ k => XS.idiv X40.here hx rfl (hb hby d4_85) rfl (by decide) k) ?_
      show Goes _ _ _ _ _ _ _ (T40.setTop (mkF m 86 _ [(.int (0 : Int32))]))
      refine Goes.step (fun _ k => XS.istore X40.here hx rfl (hb hby d4_86) rfl (l' := #[.val (.ref x0), .val (.int x1), .val (.double (FP.i2d kx)), .second, .val (.int (1 : Int32)), .val (.int (0 : Int32))]) rfl k) ?_
      show Goes _ _ _ _ _ _ _ (T40.setTop (mkF m 88 _ []))
      refine Goes.step (fun _ k => XS.aloadN X40.here hx rfl (hb hby d4_88) rfl rfl k) ?_
      obtain ⟨T43, X43, e43, st43⟩ := getF X40 hx hZ hown (host := "") (Or.inl w_14) Via.refl e40 f34 (g := (mkF m 89 #[.val (.ref x0), .val (.int x1), .val (.double (FP.i2d kx)), .second, .val (.int (1 : Int32)), .val (.int (0 : Int32))] [(.ref x0)])) rfl rfl (hb hby d4_89)
      refine Goes.step st43 ?_
      show Goes _ _ _ _ _ _ _ (T43.setTop (mkF m 92 _ [(.ref nd)]))
      refine Goes.step (fun _ k => XS.iload X43.here hx rfl (hb hby d4_92) rfl  k) ?_
      refine Goes.step (fun _ k => XS.aloadN X43.here hx rfl (hb hby d4_94) rfl rfl k) ?_
      obtain ⟨T44, X44, e44, st44⟩ := getF X43 hx hZ hown (host := "") (Or.inl w_14) Via.refl e43 f34 (g := (mkF m 95 #[.val (.ref x0), .val (.int x1), .val (.double (FP.i2d kx)), .second, .val (.int (1 : Int32)), .val (.int (0 : Int32))] [(.ref x0), (.int (1 : Int32)), (.ref nd)])) rfl rfl (hb hby d4_95)
      refine Goes.step st44 ?_
      show Goes _ _ _ _ _ _ _ (T44.setTop (mkF m 98 _ [(.ref nd), (.int (1 : Int32)), (.ref nd)]))
      refine Goes.step (fun _ k => XS.iload X44.here hx rfl (hb hby d4_98) rfl  k) ?_
      obtain ⟨cl45, Ar45, q45, S45, P45, H45, G45⟩ := id f37
      have hin45 : ¬ ((0 : Int32) < 0 ∨ cl45.slots.size ≤ ((0 : Int32)).toNatClampNeg) := inb_of S45 ⟨by decide, by decide⟩
      have hat45 : cl45.slots[((0 : Int32)).toNatClampNeg]? = some (.int va0) := H45 _ (by rw [S45]; decide)
      refine Goes.step (fun _ k => X44.iaload hx (j := (0 : Int32)) (v := (.int va0)) (by rw [e44]; exact Ar45.1) (State.isArrayOf_alike hZ.alike Ar45.2.1) Ar45.2.2 hin45 hat45 (g := (mkF m 100 #[.val (.ref x0), .val (.int x1), .val (.double (FP.i2d kx)), .second, .val (.int (1 : Int32)), .val (.int (0 : Int32))] [(.int (0 : Int32)), (.ref nd), (.int (1 : Int32)), (.ref nd)])) rfl rfl (hb hby d4_100) _ k) ?_
      show Goes _ _ _ _ _ _ _ (T44.setTop (mkF m 101 #[.val (.ref x0), .val (.int x1), .val (.double (FP.i2d kx)), .second, .val (.int (1 : Int32)), .val (.int (0 : Int32))] [(.int va0), (.int (1 : Int32)), (.ref nd)]))
      obtain ⟨cl46, Ar46, q46, S46, P46, H46, G46⟩ := id f37
      have hin46 : ¬ ((1 : Int32) < 0 ∨ cl46.slots.size ≤ ((1 : Int32)).toNatClampNeg) := inb_of S46 ⟨by decide, by decide⟩
      obtain ⟨T47, h47, X47, e47, W47, st47⟩ := stI X44 hx hZ e44 Ar46 (j := (1 : Int32)) hin46 (g := (mkF m 101 #[.val (.ref x0), .val (.int x1), .val (.double (FP.i2d kx)), .second, .val (.int (1 : Int32)), .val (.int (0 : Int32))] [(.int va0), (.int (1 : Int32)), (.ref nd)])) rfl rfl (hb hby d4_101)
      refine Goes.step st47 ?_
      have V47 := Arv.set Ar46 q46 S46 P46 H46 G46 rfl W47 1 rfl (Nat.le_of_ble_eq_true rfl)
      have f48 := f33.other W47 (Or.inl ne1)
      have f49 := f34.other W47 (Or.inl ne1)
      have f50 := f35.other W47 (Or.inl ne1)
      have f51 := f36.wr W47
      have f52 := V47
      have f53 := f38.other W47 (Ne.symm ne3)
      have K54 : Keep h0 h47 [x0, nd, ky] := K39.wr W47 (Or.inl (List.mem_of_getElem? (i := 1) rfl))
      have Z54 : n0 ≤ h47.size := by rw [Wr.size W47]; exact Z39
      have N54 := Fr.snoc X47 N39 g_nd
      show Goes _ _ _ _ _ _ _ (T47.setTop (mkF m 102 _ []))
      refine Goes.step (fun _ k => XS.aloadN X47.here hx rfl (hb hby d4_102) rfl rfl k) ?_
      obtain ⟨T55, X55, e55, st55⟩ := getF X47 hx hZ hown (host := "") (Or.inl w_17) Via.refl e47 f50 (g := (mkF m 103 #[.val (.ref x0), .val (.int x1), .val (.double (FP.i2d kx)), .second, .val (.int (1 : Int32)), .val (.int (0 : Int32))] [(.ref x0)])) rfl rfl (hb hby d4_103)
      refine Goes.step st55 ?_
      show Goes _ _ _ _ _ _ _ (T55.setTop (mkF m 106 _ [(.ref ky)]))
      refine Goes.step (fun _ k => XS.iload X55.here hx rfl (hb hby d4_106) rfl  k) ?_
      refine Goes.step (fun _ k => XS.aloadN X55.here hx rfl (hb hby d4_108) rfl rfl k) ?_
      obtain ⟨T56, X56, e56, st56⟩ := getF X55 hx hZ hown (host := "") (Or.inl w_17) Via.refl e55 f50 (g := (mkF m 109 #[.val (.ref x0), .val (.int x1), .val (.double (FP.i2d kx)), .second, .val (.int (1 : Int32)), .val (.int (0 : Int32))] [(.ref x0), (.int (1 : Int32)), (.ref ky)])) rfl rfl (hb hby d4_109)
      refine Goes.step st56 ?_
      show Goes _ _ _ _ _ _ _ (T56.setTop (mkF m 112 _ [(.ref ky), (.int (1 : Int32)), (.ref ky)]))
      refine Goes.step (fun _ k => XS.iload X56.here hx rfl (hb hby d4_112) rfl  k) ?_
      obtain ⟨cl57, Ar57, q57, S57, P57, H57, G57⟩ := id f53
      have hin57 : ¬ ((0 : Int32) < 0 ∨ cl57.slots.size ≤ ((0 : Int32)).toNatClampNeg) := inb_of S57 ⟨by decide, by decide⟩
      have hat57 : cl57.slots[((0 : Int32)).toNatClampNeg]? = some (.double (FP.i2d vb0)) := H57 _ (by rw [S57]; decide)
      refine Goes.step (fun _ k => X56.daload hx (j := (0 : Int32)) (v := (.double (FP.i2d vb0))) (by rw [e56]; exact Ar57.1) (State.isArrayOf_alike hZ.alike Ar57.2.1) Ar57.2.2 hin57 hat57 (g := (mkF m 114 #[.val (.ref x0), .val (.int x1), .val (.double (FP.i2d kx)), .second, .val (.int (1 : Int32)), .val (.int (0 : Int32))] [(.int (0 : Int32)), (.ref ky), (.int (1 : Int32)), (.ref ky)])) rfl rfl (hb hby d4_114) _ k) ?_
      show Goes _ _ _ _ _ _ _ (T56.setTop (mkF m 115 _ [(.double (FP.i2d vb0)), (.int (1 : Int32)), (.ref ky)]))
      obtain ⟨cl58, Ar58, q58, S58, P58, H58, G58⟩ := id f53
      have hin58 : ¬ ((1 : Int32) < 0 ∨ cl58.slots.size ≤ ((1 : Int32)).toNatClampNeg) := inb_of S58 ⟨by decide, by decide⟩
      obtain ⟨T59, h59, X59, e59, W59, st59⟩ := stD X56 hx hZ e56 Ar58 (j := (1 : Int32)) hin58 (g := (mkF m 115 #[.val (.ref x0), .val (.int x1), .val (.double (FP.i2d kx)), .second, .val (.int (1 : Int32)), .val (.int (0 : Int32))] [(.double (FP.i2d vb0)), (.int (1 : Int32)), (.ref ky)])) rfl rfl (hb hby d4_115)
      refine Goes.step st59 ?_
      have V59 := Arv.set Ar58 q58 S58 P58 H58 G58 rfl W59 1 rfl (Nat.le_of_ble_eq_true rfl)
      have f60 := f48.other W59 (Or.inl ne2)
      have f61 := f49.other W59 (Or.inl ne2)
      have f62 := f50.other W59 (Or.inl ne2)
      have f63 := f51.wr W59
      have f64 := f52.other W59 ne3
      have f65 := V59
      have K66 : Keep h0 h59 [x0, nd, ky] := K54.wr W59 (Or.inl (List.mem_of_getElem? (i := 2) rfl))
      have Z66 : n0 ≤ h59.size := by rw [Wr.size W59]; exact Z54
      have N66 := Fr.snoc X59 N54 g_ky
      show Goes _ _ _ _ _ _ _ (T59.setTop (mkF m 116 _ []))
      refine Goes.step (fun _ k => XS.iload X59.here hx rfl (hb hby d4_116) rfl  k) ?_
      refine Goes.step (fun _ k => XS.istore X59.here hx rfl (hb hby d4_118) rfl (l' := #[.val (.ref x0), .val (.int x1), .val (.double (FP.i2d kx)), .second, .val (.int (0 : Int32)), .val (.int (0 : Int32))]) rfl k) ?_
      show Goes _ _ _ _ _ _ _ (T59.setTop (mkF m 120 _ []))
      refine Goes.step (fun _ k => XS.goto X59.here hx rfl (pc0 := 120) (pc' := 59) rfl (hb hby d4_120) (by decide) (by decide) k) ?_
      show Goes _ _ _ _ _ _ _ (T59.setTop (mkF m 59 #[.val (.ref x0), .val (.int x1), .val (.double (FP.i2d kx)), .second, .val (.int (0 : Int32)), .val (.int (0 : Int32))] []))
      refine Goes.step (fun _ k => XS.iload X59.here hx rfl (hb hby d4_59) rfl  k) ?_
      refine Goes.step (fun _ k => XS.ifYes X59.here hx rfl (pc0 := 61) (pc' := 123) rfl (hb hby d4_61) rfl ((if0 _ _).trans (flt (by decide : ¬ ((0 : Int32) < (0 : Int32)))).2.2.2) (by decide) (by decide) k) ?_
      show Goes _ _ _ _ _ _ _ (T59.setTop (mkF m 123 _ []))
      refine Goes.step (fun _ k => XS.aloadN X59.here hx rfl (hb hby d4_123) rfl rfl k) ?_
      obtain ⟨T67, X67, e67, st67⟩ := getF X59 hx hZ hown (host := "") (Or.inl w_14) Via.refl e59 f61 (g := (mkF m 124 #[.val (.ref x0), .val (.int x1), .val (.double (FP.i2d kx)), .second, .val (.int (0 : Int32)), .val (.int (0 : Int32))] [(.ref x0)])) rfl rfl (hb hby d4_124)
      refine Goes.step st67 ?_
      show Goes _ _ _ _ _ _ _ (T67.setTop (mkF m 127 _ [(.ref nd)]))
      refine Goes.step (fun _ k => XS.iload X67.here hx rfl (hb hby d4_127) rfl  k) ?_
      refine Goes.step (fun _ k => XS.iloadN X67.here hx rfl (hb hby d4_129) rfl  k) ?_
      obtain ⟨cl68, Ar68, q68, S68, P68, H68, G68⟩ := id f64
      have hin68 : ¬ ((0 : Int32) < 0 ∨ cl68.slots.size ≤ ((0 : Int32)).toNatClampNeg) := inb_of S68 ⟨by decide, by decide⟩
      obtain ⟨T69, h69, X69, e69, W69, st69⟩ := stI X67 hx hZ e67 Ar68 (j := (0 : Int32)) hin68 (g := (mkF m 130 #[.val (.ref x0), .val (.int x1), .val (.double (FP.i2d kx)), .second, .val (.int (0 : Int32)), .val (.int (0 : Int32))] [(.int x1), (.int (0 : Int32)), (.ref nd)])) rfl rfl (hb hby d4_130)
      refine Goes.step st69 ?_
      have V69 := Arv.set Ar68 q68 S68 P68 H68 G68 rfl W69 0 rfl (Nat.le_of_ble_eq_true rfl)
      have f70 := f60.other W69 (Or.inl ne1)
      have f71 := f61.other W69 (Or.inl ne1)
      have f72 := f62.other W69 (Or.inl ne1)
      have f73 := f63.wr W69
      have f74 := V69
      have f75 := f65.other W69 (Ne.symm ne3)
      have K76 : Keep h0 h69 [x0, nd, ky] := K66.wr W69 (Or.inl (List.mem_of_getElem? (i := 1) rfl))
      have Z76 : n0 ≤ h69.size := by rw [Wr.size W69]; exact Z66
      have N76 := Fr.snoc X69 N66 g_nd
      show Goes _ _ _ _ _ _ _ (T69.setTop (mkF m 131 _ []))
      refine Goes.step (fun _ k => XS.aloadN X69.here hx rfl (hb hby d4_131) rfl rfl k) ?_
      obtain ⟨T77, X77, e77, st77⟩ := getF X69 hx hZ hown (host := "") (Or.inl w_17) Via.refl e69 f72 (g := (mkF m 132 #[.val (.ref x0), .val (.int x1), .val (.double (FP.i2d kx)), .second, .val (.int (0 : Int32)), .val (.int (0 : Int32))] [(.ref x0)])) rfl rfl (hb hby d4_132)
      refine Goes.step st77 ?_
      show Goes _ _ _ _ _ _ _ (T77.setTop (mkF m 135 _ [(.ref ky)]))
      refine Goes.step (fun _ k => XS.iload X77.here hx rfl (hb hby d4_135) rfl  k) ?_
      refine Goes.step (fun _ k => XS.dloadN X77.here hx rfl (hb hby d4_137) rfl k) ?_
      obtain ⟨cl78, Ar78, q78, S78, P78, H78, G78⟩ := id f75
      have hin78 : ¬ ((0 : Int32) < 0 ∨ cl78.slots.size ≤ ((0 : Int32)).toNatClampNeg) := inb_of S78 ⟨by decide, by decide⟩
      obtain ⟨T79, h79, X79, e79, W79, st79⟩ := stD X77 hx hZ e77 Ar78 (j := (0 : Int32)) hin78 (g := (mkF m 138 #[.val (.ref x0), .val (.int x1), .val (.double (FP.i2d kx)), .second, .val (.int (0 : Int32)), .val (.int (0 : Int32))] [(.double (FP.i2d kx)), (.int (0 : Int32)), (.ref ky)])) rfl rfl (hb hby d4_138)
      refine Goes.step st79 ?_
      have V79 := Arv.set Ar78 q78 S78 P78 H78 G78 rfl W79 0 rfl (Nat.le_of_ble_eq_true rfl)
      have f80 := f70.other W79 (Or.inl ne2)
      have f81 := f71.other W79 (Or.inl ne2)
      have f82 := f72.other W79 (Or.inl ne2)
      have f83 := f73.wr W79
      have f84 := f74.other W79 ne3
      have f85 := V79
      have K86 : Keep h0 h79 [x0, nd, ky] := K76.wr W79 (Or.inl (List.mem_of_getElem? (i := 2) rfl))
      have Z86 : n0 ≤ h79.size := by rw [Wr.size W79]; exact Z76
      have N86 := Fr.snoc X79 N76 g_ky
      show Goes _ _ _ _ _ _ _ (T79.setTop (mkF m 139 _ []))
      have ph0 := own_l c77_15
      have ph1 := own_l c77_42
      exact Goes.retV X79 hx (BodyLoose.notSynchronized Bd) Bd.returns (hb hby d4_139) (by show Q4_4 Z x0 x1 kx nd ky kn kd va0 va1 va2 va3 vb0 vb1 vb2 vb3 h0 n0 none T79.heap _; rw [e79]; exact ⟨N86, K86, rfl, f80, f81, f82, x1, va0, va2, va3, va1, kx, vb0, vb2, vb3, vb1, f84, f85, (List.Perm.map (fun i => ([(x1, kx), (va0, vb0), (va1, vb1), (va2, vb2), (va3, vb3)] : List (Int32 × Int32)).getD i (0, 0)) (by decide : ([0, 1, 3, 4, 2] : List Nat).Perm [0, 1, 2, 3, 4])), by omega, by omega, by omega, by omega⟩) (by decide) (by decide)
    · refine Goes.step (fun _ k => XS.ifYes X40.here hx rfl (pc0 := 77) (pc' := 123) rfl (hb hby d4_77) rfl ((if0 _ _).trans (flt (fun q => c77_42 ((own_dgt _ _ _).mp q))).2.2.2) (by decide) (by decide) k) ?_
      show Goes _ _ _ _ _ _ _ (T40.setTop (mkF m 123 _ []))
      refine Goes.step (fun _ k => XS.aloadN X40.here hx rfl (hb hby d4_123) rfl rfl k) ?_
      obtain ⟨T87, X87, e87, st87⟩ := getF X40 hx hZ hown (host := "") (Or.inl w_14) Via.refl e40 f34 (g := (mkF m 124 #[.val (.ref x0), .val (.int x1), .val (.double (FP.i2d kx)), .second, .val (.int (1 : Int32)), .val (.int (1 : Int32))] [(.ref x0)])) rfl rfl (hb hby d4_124)
      refine Goes.step st87 ?_
      show Goes _ _ _ _ _ _ _ (T87.setTop (mkF m 127 _ [(.ref nd)]))
      refine Goes.step (fun _ k => XS.iload X87.here hx rfl (hb hby d4_127) rfl  k) ?_
      refine Goes.step (fun _ k => XS.iloadN X87.here hx rfl (hb hby d4_129) rfl  k) ?_
      obtain ⟨cl88, Ar88, q88, S88, P88, H88, G88⟩ := id f37
      have hin88 : ¬ ((1 : Int32) < 0 ∨ cl88.slots.size ≤ ((1 : Int32)).toNatClampNeg) := inb_of S88 ⟨by decide, by decide⟩
      obtain ⟨T89, h89, X89, e89, W89, st89⟩ := stI X87 hx hZ e87 Ar88 (j := (1 : Int32)) hin88 (g := (mkF m 130 #[.val (.ref x0), .val (.int x1), .val (.double (FP.i2d kx)), .second, .val (.int (1 : Int32)), .val (.int (1 : Int32))] [(.int x1), (.int (1 : Int32)), (.ref nd)])) rfl rfl (hb hby d4_130)
      refine Goes.step st89 ?_
      have V89 := Arv.set Ar88 q88 S88 P88 H88 G88 rfl W89 1 rfl (Nat.le_of_ble_eq_true rfl)
      have f90 := f33.other W89 (Or.inl ne1)
      have f91 := f34.other W89 (Or.inl ne1)
      have f92 := f35.other W89 (Or.inl ne1)
      have f93 := f36.wr W89
      have f94 := V89
      have f95 := f38.other W89 (Ne.symm ne3)
      have K96 : Keep h0 h89 [x0, nd, ky] := K39.wr W89 (Or.inl (List.mem_of_getElem? (i := 1) rfl))
      have Z96 : n0 ≤ h89.size := by rw [Wr.size W89]; exact Z39
      have N96 := Fr.snoc X89 N39 g_nd
      show Goes _ _ _ _ _ _ _ (T89.setTop (mkF m 131 _ []))
      refine Goes.step (fun _ k => XS.aloadN X89.here hx rfl (hb hby d4_131) rfl rfl k) ?_
      obtain ⟨T97, X97, e97, st97⟩ := getF X89 hx hZ hown (host := "") (Or.inl w_17) Via.refl e89 f92 (g := (mkF m 132 #[.val (.ref x0), .val (.int x1), .val (.double (FP.i2d kx)), .second, .val (.int (1 : Int32)), .val (.int (1 : Int32))] [(.ref x0)])) rfl rfl (hb hby d4_132)
      refine Goes.step st97 ?_
      show Goes _ _ _ _ _ _ _ (T97.setTop (mkF m 135 _ [(.ref ky)]))
      refine Goes.step (fun _ k => XS.iload X97.here hx rfl (hb hby d4_135) rfl  k) ?_
      refine Goes.step (fun _ k => XS.dloadN X97.here hx rfl (hb hby d4_137) rfl k) ?_
      obtain ⟨cl98, Ar98, q98, S98, P98, H98, G98⟩ := id f95
      have hin98 : ¬ ((1 : Int32) < 0 ∨ cl98.slots.size ≤ ((1 : Int32)).toNatClampNeg) := inb_of S98 ⟨by decide, by decide⟩
      obtain ⟨T99, h99, X99, e99, W99, st99⟩ := stD X97 hx hZ e97 Ar98 (j := (1 : Int32)) hin98 (g := (mkF m 138 #[.val (.ref x0), .val (.int x1), .val (.double (FP.i2d kx)), .second, .val (.int (1 : Int32)), .val (.int (1 : Int32))] [(.double (FP.i2d kx)), (.int (1 : Int32)), (.ref ky)])) rfl rfl (hb hby d4_138)
      refine Goes.step st99 ?_
      have V99 := Arv.set Ar98 q98 S98 P98 H98 G98 rfl W99 1 rfl (Nat.le_of_ble_eq_true rfl)
      have f100 := f90.other W99 (Or.inl ne2)
      have f101 := f91.other W99 (Or.inl ne2)
      have f102 := f92.other W99 (Or.inl ne2)
      have f103 := f93.wr W99
      have f104 := f94.other W99 ne3
      have f105 := V99
      have K106 : Keep h0 h99 [x0, nd, ky] := K96.wr W99 (Or.inl (List.mem_of_getElem? (i := 2) rfl))
      have Z106 : n0 ≤ h99.size := by rw [Wr.size W99]; exact Z96
      have N106 := Fr.snoc X99 N96 g_ky
      show Goes _ _ _ _ _ _ _ (T99.setTop (mkF m 139 _ []))
      have ph0 := own_l c77_15
      have ph1 := own_nl c77_42
      exact Goes.retV X99 hx (BodyLoose.notSynchronized Bd) Bd.returns (hb hby d4_139) (by show Q4_4 Z x0 x1 kx nd ky kn kd va0 va1 va2 va3 vb0 vb1 vb2 vb3 h0 n0 none T99.heap _; rw [e99]; exact ⟨N106, K106, rfl, f100, f101, f102, va0, x1, va2, va3, va1, vb0, kx, vb2, vb3, vb1, f104, f105, (List.Perm.map (fun i => ([(x1, kx), (va0, vb0), (va1, vb1), (va2, vb2), (va3, vb3)] : List (Int32 × Int32)).getD i (0, 0)) (by decide : ([1, 0, 3, 4, 2] : List Nat).Perm [0, 1, 2, 3, 4])), by omega, by omega, by omega, by omega⟩) (by decide) (by decide)
  · refine Goes.step (fun _ k => XS.ifYes X13.here hx rfl (pc0 := 77) (pc' := 123) rfl (hb hby d4_77) rfl ((if0 _ _).trans (flt (fun q => c77_15 ((own_dgt _ _ _).mp q))).2.2.2) (by decide) (by decide) k) ?_
    show Goes _ _ _ _ _ _ _ (T13.setTop (mkF m 123 _ []))
    refine Goes.step (fun _ k => XS.aloadN X13.here hx rfl (hb hby d4_123) rfl rfl k) ?_
    obtain ⟨T107, X107, e107, st107⟩ := getF X13 hx hZ hown (host := "") (Or.inl w_14) Via.refl e13 f7 (g := (mkF m 124 #[.val (.ref x0), .val (.int x1), .val (.double (FP.i2d kx)), .second, .val (.int (4 : Int32)), .unset] [(.ref x0)])) rfl rfl (hb hby d4_124)
    refine Goes.step st107 ?_
    show Goes _ _ _ _ _ _ _ (T107.setTop (mkF m 127 _ [(.ref nd)]))
    refine Goes.step (fun _ k => XS.iload X107.here hx rfl (hb hby d4_127) rfl  k) ?_
    refine Goes.step (fun _ k => XS.iloadN X107.here hx rfl (hb hby d4_129) rfl  k) ?_
    obtain ⟨cl108, Ar108, q108, S108, P108, H108, G108⟩ := id f10
    have hin108 : ¬ ((4 : Int32) < 0 ∨ cl108.slots.size ≤ ((4 : Int32)).toNatClampNeg) := inb_of S108 ⟨by decide, by decide⟩
    obtain ⟨T109, h109, X109, e109, W109, st109⟩ := stI X107 hx hZ e107 Ar108 (j := (4 : Int32)) hin108 (g := (mkF m 130 #[.val (.ref x0), .val (.int x1), .val (.double (FP.i2d kx)), .second, .val (.int (4 : Int32)), .unset] [(.int x1), (.int (4 : Int32)), (.ref nd)])) rfl rfl (hb hby d4_130)
    refine Goes.step st109 ?_
    have V109 := Arv.set Ar108 q108 S108 P108 H108 G108 rfl W109 4 rfl (Nat.le_of_ble_eq_true rfl)
    have f110 := f6.other W109 (Or.inl ne1)
    have f111 := f7.other W109 (Or.inl ne1)
    have f112 := f8.other W109 (Or.inl ne1)
    have f113 := f9.wr W109
    have f114 := V109
    have f115 := f11.other W109 (Ne.symm ne3)
    have K116 : Keep h0 h109 [x0, nd, ky] := K12.wr W109 (Or.inl (List.mem_of_getElem? (i := 1) rfl))
    have Z116 : n0 ≤ h109.size := by rw [Wr.size W109]; exact Z12
    have N116 := Fr.snoc X109 N12 g_nd
    show Goes _ _ _ _ _ _ _ (T109.setTop (mkF m 131 _ []))
    refine Goes.step (fun _ k => XS.aloadN X109.here hx rfl (hb hby d4_131) rfl rfl k) ?_
    obtain ⟨T117, X117, e117, st117⟩ := getF X109 hx hZ hown (host := "") (Or.inl w_17) Via.refl e109 f112 (g := (mkF m 132 #[.val (.ref x0), .val (.int x1), .val (.double (FP.i2d kx)), .second, .val (.int (4 : Int32)), .unset] [(.ref x0)])) rfl rfl (hb hby d4_132)
    refine Goes.step st117 ?_
    show Goes _ _ _ _ _ _ _ (T117.setTop (mkF m 135 _ [(.ref ky)]))
    refine Goes.step (fun _ k => XS.iload X117.here hx rfl (hb hby d4_135) rfl  k) ?_
    refine Goes.step (fun _ k => XS.dloadN X117.here hx rfl (hb hby d4_137) rfl k) ?_
    obtain ⟨cl118, Ar118, q118, S118, P118, H118, G118⟩ := id f115
    have hin118 : ¬ ((4 : Int32) < 0 ∨ cl118.slots.size ≤ ((4 : Int32)).toNatClampNeg) := inb_of S118 ⟨by decide, by decide⟩
    obtain ⟨T119, h119, X119, e119, W119, st119⟩ := stD X117 hx hZ e117 Ar118 (j := (4 : Int32)) hin118 (g := (mkF m 138 #[.val (.ref x0), .val (.int x1), .val (.double (FP.i2d kx)), .second, .val (.int (4 : Int32)), .unset] [(.double (FP.i2d kx)), (.int (4 : Int32)), (.ref ky)])) rfl rfl (hb hby d4_138)
    refine Goes.step st119 ?_
    have V119 := Arv.set Ar118 q118 S118 P118 H118 G118 rfl W119 4 rfl (Nat.le_of_ble_eq_true rfl)
    have f120 := f110.other W119 (Or.inl ne2)
    have f121 := f111.other W119 (Or.inl ne2)
    have f122 := f112.other W119 (Or.inl ne2)
    have f123 := f113.wr W119
    have f124 := f114.other W119 ne3
    have f125 := V119
    have K126 : Keep h0 h119 [x0, nd, ky] := K116.wr W119 (Or.inl (List.mem_of_getElem? (i := 2) rfl))
    have Z126 : n0 ≤ h119.size := by rw [Wr.size W119]; exact Z116
    have N126 := Fr.snoc X119 N116 g_ky
    show Goes _ _ _ _ _ _ _ (T119.setTop (mkF m 139 _ []))
    have ph0 := own_nl c77_15
    exact Goes.retV X119 hx (BodyLoose.notSynchronized Bd) Bd.returns (hb hby d4_139) (by show Q4_4 Z x0 x1 kx nd ky kn kd va0 va1 va2 va3 vb0 vb1 vb2 vb3 h0 n0 none T119.heap _; rw [e119]; exact ⟨N126, K126, rfl, f120, f121, f122, va0, va1, va2, va3, x1, vb0, vb1, vb2, vb3, kx, f124, f125, (List.Perm.map (fun i => ([(x1, kx), (va0, vb0), (va1, vb1), (va2, vb2), (va3, vb3)] : List (Int32 × Int32)).getD i (0, 0)) (by decide : ([1, 2, 3, 4, 0] : List Nat).Perm [0, 1, 2, 3, 4])), by omega, by omega, by omega, by omega⟩) (by decide) (by decide)
theorem ef_4_5 (m : MethodId) (x0 : Addr) (x1 : Int32) (kx : Int32) (nd : Addr) (ky : Addr) (kn : ClassId) (kd : ClassId) (va0 : Int32) (va1 : Int32) (va2 : Int32) (va3 : Int32) (va4 : Int32) (vb0 : Int32) (vb1 : Int32) (vb2 : Int32) (vb3 : Int32) (vb4 : Int32)  : entryFrame m #[(.ref x0), (.int x1), (.double (FP.i2d kx))] 6 = mkF m 0 #[.val (.ref x0), .val (.int x1), .val (.double (FP.i2d kx)), .second, .unset, .unset] [] := by first | (simp [entryFrame, mkF, argsToLocals, Value.category]; done) | rfl
def Q4_5 (Z : State) (x0 : Addr) (x1 : Int32) (kx : Int32) (nd : Addr) (ky : Addr) (kn : ClassId) (kd : ClassId) (va0 : Int32) (va1 : Int32) (va2 : Int32) (va3 : Int32) (va4 : Int32) (vb0 : Int32) (vb1 : Int32) (vb2 : Int32) (vb3 : Int32) (vb4 : Int32) (h0 : Heap) (n0 : Nat) (v : Option Value) (h : Heap) (L : List Loc) : Prop := Fr n0 L ∧ Keep h0 h [x0, nd, ky] ∧ v = none ∧ Fld Z h x0 "com/example/hailwise/hailwise/NodeQueue" "size" "I" (.int (6 : Int32)) ∧ Fld Z h x0 "com/example/hailwise/hailwise/NodeQueue" "nodes" "[I" (.ref nd) ∧ Fld Z h x0 "com/example/hailwise/hailwise/NodeQueue" "keys" "[D" (.ref ky) ∧ ∃ p0 p1 p2 p3 p4 p5 q0 q1 q2 q3 q4 q5 : Int32, Arv Z h nd kn .int (64 : Int32) [(.int p0), (.int p1), (.int p2), (.int p3), (.int p4), (.int p5)] (.int (0 : Int32)) ∧ Arv Z h ky kd .double (64 : Int32) [(.double (FP.i2d q0)), (.double (FP.i2d q1)), (.double (FP.i2d q2)), (.double (FP.i2d q3)), (.double (FP.i2d q4)), (.double (FP.i2d q5))] (.double (0 : UInt64)) ∧ ([(p0, q0), (p1, q1), (p2, q2), (p3, q3), (p4, q4), (p5, q5)] : List (Int32 × Int32)).Perm ((x1, kx) :: ([(va0, vb0), (va1, vb1), (va2, vb2), (va3, vb3), (va4, vb4)] : List (Int32 × Int32))) ∧ q0.toInt ≤ q1.toInt ∧ q0.toInt ≤ q2.toInt ∧ q1.toInt ≤ q3.toInt ∧ q1.toInt ≤ q4.toInt ∧ q2.toInt ≤ q5.toInt
set_option maxRecDepth 65536 in
set_option maxHeartbeats 40000000 in
theorem rm4_5 (l : Launch) (Z : State) (a0 : Array Value) (hw : ∀ d ∈ tables_1, d.before a0 Z = true) (ws : List Jvm.Cond) (x0 : Addr) (x1 : Int32) (kx : Int32) (nd : Addr) (ky : Addr) (kn : ClassId) (kd : ClassId) (va0 : Int32) (va1 : Int32) (va2 : Int32) (va3 : Int32) (va4 : Int32) (vb0 : Int32) (vb1 : Int32) (vb2 : Int32) (vb3 : Int32) (vb4 : Int32) (h0 : Heap) (n0 : Nat) (Z0 : n0 ≤ h0.size) (F_size : Fld Z h0 x0 "com/example/hailwise/hailwise/NodeQueue" "size" "I" (.int (5 : Int32))) (F_nd : Fld Z h0 x0 "com/example/hailwise/hailwise/NodeQueue" "nodes" "[I" (.ref nd)) (F_ky : Fld Z h0 x0 "com/example/hailwise/hailwise/NodeQueue" "keys" "[D" (.ref ky)) (E_x0 : Exa Z h0 x0 "com/example/hailwise/hailwise/NodeQueue") (V_nd : Arv Z h0 nd kn .int (64 : Int32) [(.int va0), (.int va1), (.int va2), (.int va3), (.int va4), (.int (0 : Int32))] (.int (0 : Int32))) (V_ky : Arv Z h0 ky kd .double (64 : Int32) [(.double (FP.i2d vb0)), (.double (FP.i2d vb1)), (.double (FP.i2d vb2)), (.double (FP.i2d vb3)), (.double (FP.i2d vb4)), (.double (0 : UInt64))] (.double (0 : UInt64))) (g_x0 : n0 ≤ x0) (g_nd : n0 ≤ nd) (g_ky : n0 ≤ ky) (ne1 : x0 ≠ nd) (ne2 : x0 ≠ ky) (ne3 : nd ≠ ky) (ho01 : vb0.toInt ≤ vb1.toInt) (ho02 : vb0.toInt ≤ vb2.toInt) (ho13 : vb1.toInt ≤ vb3.toInt) (ho14 : vb1.toInt ≤ vb4.toInt) :
    MetFree l (⟨"com/example/hailwise/hailwise/NodeQueue", "add", "(ID)V"⟩ : MethodName) (head1 (Jvm.Cond.code (⟨"com/example/hailwise/hailwise/NodeQueue", "add", "(ID)V"⟩ : MethodName) prog_21_method_4_code 6 none :: ws) ({ frames := 0, cells := 0, slots := 0, locals := 0 } : Room)) (fun a U => a = #[(.ref x0), (.int x1), (.double (FP.i2d kx))] ∧ Z.Warmed39 U.vm ∧ U.heap = h0) (fun _ _ _ _ _ => True) (fun _ U o U' => ∃ v L, o = .returned v ∧ Q4_5 Z x0 x1 kx nd ky kn kd va0 va1 va2 va3 va4 vb0 vb1 vb2 vb3 vb4 h0 n0 v U'.heap L ∧ FrameEnd U o U' L ({ frames := 0, cells := 0, slots := 0, locals := 0 } : Room).cells ({ frames := 0, cells := 0, slots := 0, locals := 0 } : Room).slots) := by
  refine MetFree.of_bodySF (plainFor_of_name pn_4) hisR ?_
  intro p e s m args below meth c s₁ Bd hml0 hP hK
  obtain ⟨rfl, hZ, hh⟩ := hP
  have w_6 := hw _ (List.mem_of_getElem? (i := 6) rfl)
  have w_14 := hw _ (List.mem_of_getElem? (i := 14) rfl)
  have w_15 := hw _ (List.mem_of_getElem? (i := 15) rfl)
  have w_17 := hw _ (List.mem_of_getElem? (i := 17) rfl)
  have w_18 := hw _ (List.mem_of_getElem? (i := 18) rfl)
  have w_24 := hw _ (List.mem_of_getElem? (i := 24) rfl)
  have w_25 := hw _ (List.mem_of_getElem? (i := 25) rfl)
  have hx := Bd.exec
  have hby := Bd.bytes
  have hml : c.maxLocals = 6 := hml0
  have hown : s.vm.findClass "com/example/hailwise/hailwise/NodeQueue" = some m.cls := findClass_of_methodNamed Bd.named
  have hnm := (name_of_methodNamed Bd.named Bd.method).1
  have X0 : Stand p l e ({ frames := 0, cells := 0, slots := 0, locals := 0 } : Room) s m #[(.ref x0), (.int x1), (.double (FP.i2d kx))] below meth c s₁ [] 0 0 := Stand.of_body Bd
  have e0 : s₁.heap = h0 := by rw [← hh, Bd.state]; rfl
  have N0 := Fr.nil n0
  have K0 : Keep h0 h0 [x0, nd, ky] := Keep.refl h0 _
  refine (?_ : Goes p e below s ({ frames := 0, cells := 0, slots := 0, locals := 0 } : Room).cells ({ frames := 0, cells := 0, slots := 0, locals := 0 } : Room).slots (fun v h L => Q4_5 Z x0 x1 kx nd ky kn kd va0 va1 va2 va3 va4 vb0 vb1 vb2 vb3 vb4 h0 n0 v h L) (s₁.setTop (entryFrame m #[(.ref x0), (.int x1), (.double (FP.i2d kx))] 6)))
  rw [ef_4_5 m x0 x1 kx nd ky kn kd va0 va1 va2 va3 va4 vb0 vb1 vb2 vb3 vb4 ]
  show Goes _ _ _ _ _ _ _ (s₁.setTop (mkF m 0 #[.val (.ref x0), .val (.int x1), .val (.double (FP.i2d kx)), .second, .unset, .unset] []))
  refine Goes.step (fun _ k => XS.aloadN X0.here hx rfl (hb hby d4_0) rfl rfl k) ?_
  obtain ⟨T1, X1, e1, st1⟩ := getF X0 hx hZ hown (host := "") (Or.inl w_24) Via.refl e0 F_size (g := (mkF m 1 #[.val (.ref x0), .val (.int x1), .val (.double (FP.i2d kx)), .second, .unset, .unset] [(.ref x0)])) rfl rfl (hb hby d4_1)
  refine Goes.step st1 ?_
  show Goes _ _ _ _ _ _ _ (T1.setTop (mkF m 4 _ [(.int (5 : Int32))]))
  refine Goes.step (fun _ k => XS.aloadN X1.here hx rfl (hb hby d4_4) rfl rfl k) ?_
  obtain ⟨T2, X2, e2, st2⟩ := getF X1 hx hZ hown (host := "") (Or.inl w_14) Via.refl e1 F_nd (g := (mkF m 5 #[.val (.ref x0), .val (.int x1), .val (.double (FP.i2d kx)), .second, .unset, .unset] [(.ref x0), (.int (5 : Int32))])) rfl rfl (hb hby d4_5)
  refine Goes.step st2 ?_
  show Goes _ _ _ _ _ _ _ (T2.setTop (mkF m 8 _ [(.ref nd), (.int (5 : Int32))]))
  obtain ⟨cl3, Ar3, q3, S3, P3, H3, G3⟩ := id V_nd
  refine Goes.step (fun _ k => X2.arraylength hx (by rw [e2]; exact Ar3.1) (State.isArrayOf_alike hZ.alike Ar3.2.1) (g := (mkF m 8 #[.val (.ref x0), .val (.int x1), .val (.double (FP.i2d kx)), .second, .unset, .unset] [(.ref nd), (.int (5 : Int32))])) rfl rfl (hb hby d4_8) _ k) ?_
  rw [len_of S3 P3]
  show Goes _ _ _ _ _ _ _ (T2.setTop (mkF m 9 _ [(.int (64 : Int32)), (.int (5 : Int32))]))
  refine Goes.step (fun _ k => XS.icmpYes X2.here hx rfl (pc0 := 9) (pc' := 46) rfl (hb hby d4_9) rfl (feq (by decide : ¬ ((5 : Int32) = (64 : Int32)))).2 (by decide) (by decide) k) ?_
  show Goes _ _ _ _ _ _ _ (T2.setTop (mkF m 46 _ []))
  refine Goes.step (fun _ k => XS.aloadN X2.here hx rfl (hb hby d4_46) rfl rfl k) ?_
  refine Goes.step (fun _ k => XS.dup X2.here hx rfl (hb hby d4_47) rfl rfl k) ?_
  obtain ⟨T4, X4, e4, st4⟩ := getF X2 hx hZ hown (host := "") (Or.inl w_24) Via.refl e2 F_size (g := (mkF m 48 #[.val (.ref x0), .val (.int x1), .val (.double (FP.i2d kx)), .second, .unset, .unset] [(.ref x0), (.ref x0)])) rfl rfl (hb hby d4_48)
  refine Goes.step st4 ?_
  show Goes _ _ _ _ _ _ _ (T4.setTop (mkF m 51 _ [(.int (5 : Int32)), (.ref x0)]))
  refine Goes.step (fun _ k => XS.dupX1 X4.here hx rfl (hb hby d4_51) rfl rfl rfl k) ?_
  show Goes _ _ _ _ _ _ _ (T4.setTop (mkF m 52 _ [(.int (5 : Int32)), (.ref x0), (.int (5 : Int32))]))
  refine Goes.step (fun _ k => XS.iconst X4.here hx rfl (hb hby d4_52) k) ?_
  refine Goes.step (fun _ k => XS.iadd X4.here hx rfl (hb hby d4_53) rfl k) ?_
  show Goes _ _ _ _ _ _ _ (T4.setTop (mkF m 54 #[.val (.ref x0), .val (.int x1), .val (.double (FP.i2d kx)), .second, .unset, .unset] [(.int (6 : Int32)), (.ref x0), (.int (5 : Int32))]))
  obtain ⟨T5, h5, X5, e5, W5, st5⟩ := putF X4 hx hZ hown (host := "") (Or.inl w_24) Via.refl e4 F_size E_x0 (Or.inl w_25) w_6 (ty := .int) (by decide) rfl rfl (g := (mkF m 54 #[.val (.ref x0), .val (.int x1), .val (.double (FP.i2d kx)), .second, .unset, .unset] [(.int (6 : Int32)), (.ref x0), (.int (5 : Int32))])) rfl rfl (hb hby d4_54)
  refine Goes.step st5 ?_
  have f6 := F_size.same W5
  have f7 := F_nd.other W5 (Or.inr (slot_ne (Or.inl w_15) (Or.inl w_25) (by decide) (t := (.array .int)) (t' := .int) (by decide) (by decide)))
  have f8 := F_ky.other W5 (Or.inr (slot_ne (Or.inl w_18) (Or.inl w_25) (by decide) (t := (.array .double)) (t' := .int) (by decide) (by decide)))
  have f9 := E_x0.wr W5
  have f10 := V_nd.other W5 (Ne.symm ne1)
  have f11 := V_ky.other W5 (Ne.symm ne2)
  have K12 : Keep h0 h5 [x0, nd, ky] := K0.wr W5 (Or.inl (List.mem_of_getElem? (i := 0) rfl))
  have Z12 : n0 ≤ h5.size := by rw [Wr.size W5]; exact Z0
  have N12 := Fr.snoc X5 N0 g_x0
  show Goes _ _ _ _ _ _ _ (T5.setTop (mkF m 57 _ [(.int (5 : Int32))]))
  refine Goes.step (fun _ k => XS.istore X5.here hx rfl (hb hby d4_57) rfl (l' := #[.val (.ref x0), .val (.int x1), .val (.double (FP.i2d kx)), .second, .val (.int (5 : Int32)), .unset]) rfl k) ?_
  show Goes _ _ _ _ _ _ _ (T5.setTop (mkF m 59 _ []))
  refine Goes.step (fun _ k => XS.iload X5.here hx rfl (hb hby d4_59) rfl  k) ?_
  refine Goes.step (fun _ k => XS.ifNo X5.here hx rfl (hb hby d4_61) rfl ((if0 _ _).trans (tlt (by decide : (0 : Int32) < (5 : Int32))).2.2.2) k) ?_
  show Goes _ _ _ _ _ _ _ (T5.setTop (mkF m 64 _ []))
  refine Goes.step (fun _ k => XS.aloadN X5.here hx rfl (hb hby d4_64) rfl rfl k) ?_
  obtain ⟨T13, X13, e13, st13⟩ := getF X5 hx hZ hown (host := "") (Or.inl w_17) Via.refl e5 f8 (g := (mkF m 65 #[.val (.ref x0), .val (.int x1), .val (.double (FP.i2d kx)), .second, .val (.int (5 : Int32)), .unset] [(.ref x0)])) rfl rfl (hb hby d4_65)
  refine Goes.step st13 ?_
  show Goes _ _ _ _ _ _ _ (T13.setTop (mkF m 68 _ [(.ref ky)]))
  refine Goes.step (fun _ k => XS.iload X13.here hx rfl (hb hby d4_68) rfl  k) ?_
  refine Goes.step (fun _ k => XS.iconst X13.here hx rfl (hb hby d4_70) k) ?_
  refine Goes.step (fun _ k => XS.isub X13.here hx rfl (hb hby d4_71) rfl k) ?_
  show Goes _ _ _ _ _ _ _ (T13.setTop (mkF m 72 _ [(.int (4 : Int32)), (.ref ky)]))
  refine Goes.step (fun _ k => XS.iconst X13.here hx rfl (hb hby d4_72) k) ?_
  refine Goes.step (fun _ k => XS.idiv X13.here hx rfl (hb hby d4_73) rfl (by decide) k) ?_
  show Goes _ _ _ _ _ _ _ (T13.setTop (mkF m 74 _ [(.int (2 : Int32)), (.ref ky)]))
  obtain ⟨cl14, Ar14, q14, S14, P14, H14, G14⟩ := id f11
  have hin14 : ¬ ((2 : Int32) < 0 ∨ cl14.slots.size ≤ ((2 : Int32)).toNatClampNeg) := inb_of S14 ⟨by decide, by decide⟩
  have hat14 : cl14.slots[((2 : Int32)).toNatClampNeg]? = some (.double (FP.i2d vb2)) := H14 _ (by rw [S14]; decide)
  refine Goes.step (fun _ k => X13.daload hx (j := (2 : Int32)) (v := (.double (FP.i2d vb2))) (by rw [e13]; exact Ar14.1) (State.isArrayOf_alike hZ.alike Ar14.2.1) Ar14.2.2 hin14 hat14 (g := (mkF m 74 #[.val (.ref x0), .val (.int x1), .val (.double (FP.i2d kx)), .second, .val (.int (5 : Int32)), .unset] [(.int (2 : Int32)), (.ref ky)])) rfl rfl (hb hby d4_74) _ k) ?_
  show Goes _ _ _ _ _ _ _ (T13.setTop (mkF m 75 #[.val (.ref x0), .val (.int x1), .val (.double (FP.i2d kx)), .second, .val (.int (5 : Int32)), .unset] [(.double (FP.i2d vb2))]))
  refine Goes.step (fun _ k => XS.dloadN X13.here hx rfl (hb hby d4_75) rfl k) ?_
  refine Goes.step (fun _ k => XS.dcmpS X13.here hx rfl (hb hby d4_76) rfl rfl k) ?_
  show Goes _ _ _ _ _ _ _ (T13.setTop (mkF m 77 _ [(.int (cmpValue (FP.dcmp (FP.i2d vb2) (FP.i2d kx)) .l))]))
  by_cases c77_15 : kx < vb2
  · refine Goes.step (fun _ k => XS.ifNo X13.here hx rfl (hb hby d4_77) rfl ((if0 _ _).trans (tlt ((own_dgt _ _ _).mpr c77_15)).2.2.2) k) ?_
    show Goes _ _ _ _ _ _ _ (T13.setTop (mkF m 80 _ []))
    refine Goes.step (fun _ k => XS.iload X13.here hx rfl (hb hby d4_80) rfl  k) ?_
    refine Goes.step (fun _ k => XS.iconst X13.here hx rfl (hb hby d4_82) k) ?_
    refine Goes.step (fun _ k => XS.isub X13.here hx rfl (hb hby d4_83) rfl k) ?_
    show Goes _ _ _ _ _ _ _ (T13.setTop (mkF m 84 _ [(.int (4 : Int32))]))
    refine Goes.step (fun _ k => XS.iconst X13.here hx rfl (hb hby d4_84) k) ?_
    refine Goes.step (fun _ k => XS.idiv X13.here hx rfl (hb hby d4_85) rfl (by decide) k) ?_
    show Goes _ _ _ _ _ _ _ (T13.setTop (mkF m 86 _ [(.int (2 : Int32))]))
    refine Goes.step (fun _ k => XS.istore X13.here hx rfl (hb hby d4_86) rfl (l' := #[.val (.ref x0), .val (.int x1), .val (.double (FP.i2d kx)), .second, .val (.int (5 : Int32)), .val (.int (2 : Int32))]) rfl k) ?_
    show Goes _ _ _ _ _ _ _ (T13.setTop (mkF m 88 _ []))
    refine Goes.step (fun _ k => XS.aloadN X13.here hx rfl (hb hby d4_88) rfl rfl k) ?_
    obtain ⟨T16, X16, e16, st16⟩ := getF X13 hx hZ hown (host := "") (Or.inl w_14) Via.refl e13 f7 (g := (mkF m 89 #[.val (.ref x0), .val (.int x1), .val (.double (FP.i2d kx)), .second, .val (.int (5 : Int32)), .val (.int (2 : Int32))] [(.ref x0)])) rfl rfl (hb hby d4_89)
    refine Goes.step st16 ?_
    show Goes _ _ _ _ _ _ _ (T16.setTop (mkF m 92 _ [(.ref nd)]))
    refine Goes.step (fun _ k => XS.iload X16.here hx rfl (hb hby d4_92) rfl  k) ?_
    refine Goes.step (fun _ k => XS.aloadN X16.here hx rfl (hb hby d4_94) rfl rfl k) ?_
    obtain ⟨T17, X17, e17, st17⟩ := getF X16 hx hZ hown (host := "") (Or.inl w_14) Via.refl e16 f7 (g := (mkF m 95 #[.val (.ref x0), .val (.int x1), .val (.double (FP.i2d kx)), .second, .val (.int (5 : Int32)), .val (.int (2 : Int32))] [(.ref x0), (.int (5 : Int32)), (.ref nd)])) rfl rfl (hb hby d4_95)
    refine Goes.step st17 ?_
    show Goes _ _ _ _ _ _ _ (T17.setTop (mkF m 98 #[.val (.ref x0), .val (.int x1), .val (.double (FP.i2d kx)), .second, .val (.int (5 : Int32)), .val (.int (2 : Int32))] [(.ref nd), (.int (5 : Int32)), (.ref nd)]))
    refine Goes.step (fun _ k => XS.iload X17.here hx rfl (hb hby d4_98) rfl  k) ?_
    obtain ⟨cl18, Ar18, q18, S18, P18, H18, G18⟩ := id f10
    have hin18 : ¬ ((2 : Int32) < 0 ∨ cl18.slots.size ≤ ((2 : Int32)).toNatClampNeg) := inb_of S18 ⟨by decide, by decide⟩
    have hat18 : cl18.slots[((2 : Int32)).toNatClampNeg]? = some (.int va2) := H18 _ (by rw [S18]; decide)
    refine Goes.step (fun _ k => X17.iaload hx (j := (2 : Int32)) (v := (.int va2)) (by rw [e17]; exact Ar18.1) (State.isArrayOf_alike hZ.alike Ar18.2.1) Ar18.2.2 hin18 hat18 (g := (mkF m 100 #[.val (.ref x0), .val (.int x1), .val (.double (FP.i2d kx)), .second, .val (.int (5 : Int32)), .val (.int (2 : Int32))] [(.int (2 : Int32)), (.ref nd), (.int (5 : Int32)), (.ref nd)])) rfl rfl (hb hby d4_100) _ k) ?_
    show Goes _ _ _ _ _ _ _ (T17.setTop (mkF m 101 _ [(.int va2), (.int (5 : Int32)), (.ref nd)]))
    obtain ⟨cl19, Ar19, q19, S19, P19, H19, G19⟩ := id f10
    have hin19 : ¬ ((5 : Int32) < 0 ∨ cl19.slots.size ≤ ((5 : Int32)).toNatClampNeg) := inb_of S19 ⟨by decide, by decide⟩
    obtain ⟨T20, h20, X20, e20, W20, st20⟩ := stI X17 hx hZ e17 Ar19 (j := (5 : Int32)) hin19 (g := (mkF m 101 #[.val (.ref x0), .val (.int x1), .val (.double (FP.i2d kx)), .second, .val (.int (5 : Int32)), .val (.int (2 : Int32))] [(.int va2), (.int (5 : Int32)), (.ref nd)])) rfl rfl (hb hby d4_101)
    refine Goes.step st20 ?_
    have V20 := Arv.set Ar19 q19 S19 P19 H19 G19 rfl W20 5 rfl (Nat.le_of_ble_eq_true rfl)
    have f21 := f6.other W20 (Or.inl ne1)
    have f22 := f7.other W20 (Or.inl ne1)
    have f23 := f8.other W20 (Or.inl ne1)
    have f24 := f9.wr W20
    have f25 := V20
    have f26 := f11.other W20 (Ne.symm ne3)
    have K27 : Keep h0 h20 [x0, nd, ky] := K12.wr W20 (Or.inl (List.mem_of_getElem? (i := 1) rfl))
    have Z27 : n0 ≤ h20.size := by rw [Wr.size W20]; exact Z12
    have N27 := Fr.snoc X20 N12 g_nd
    show Goes _ _ _ _ _ _ _ (T20.setTop (mkF m 102 _ []))
    refine Goes.step (fun _ k => XS.aloadN X20.here hx rfl (hb hby d4_102) rfl rfl k) ?_
    obtain ⟨T28, X28, e28, st28⟩ := getF X20 hx hZ hown (host := "") (Or.inl w_17) Via.refl e20 f23 (g := (mkF m 103 #[.val (.ref x0), .val (.int x1), .val (.double (FP.i2d kx)), .second, .val (.int (5 : Int32)), .val (.int (2 : Int32))] [(.ref x0)])) rfl rfl (hb hby d4_103)
    refine Goes.step st28 ?_
    show Goes _ _ _ _ _ _ _ (T28.setTop (mkF m 106 _ [(.ref ky)]))
    refine Goes.step (fun _ k => XS.iload X28.here hx rfl (hb hby d4_106) rfl  k) ?_
    refine Goes.step (fun _ k => XS.aloadN X28.here hx rfl (hb hby d4_108) rfl rfl k) ?_
    obtain ⟨T29, X29, e29, st29⟩ := getF X28 hx hZ hown (host := "") (Or.inl w_17) Via.refl e28 f23 (g := (mkF m 109 #[.val (.ref x0), .val (.int x1), .val (.double (FP.i2d kx)), .second, .val (.int (5 : Int32)), .val (.int (2 : Int32))] [(.ref x0), (.int (5 : Int32)), (.ref ky)])) rfl rfl (hb hby d4_109)
    refine Goes.step st29 ?_
    show Goes _ _ _ _ _ _ _ (T29.setTop (mkF m 112 _ [(.ref ky), (.int (5 : Int32)), (.ref ky)]))
    refine Goes.step (fun _ k => XS.iload X29.here hx rfl (hb hby d4_112) rfl  k) ?_
    obtain ⟨cl30, Ar30, q30, S30, P30, H30, G30⟩ := id f26
    have hin30 : ¬ ((2 : Int32) < 0 ∨ cl30.slots.size ≤ ((2 : Int32)).toNatClampNeg) := inb_of S30 ⟨by decide, by decide⟩
    have hat30 : cl30.slots[((2 : Int32)).toNatClampNeg]? = some (.double (FP.i2d vb2)) := H30 _ (by rw [S30]; decide)
    refine Goes.step (fun _ k => X29.daload hx (j := (2 : Int32)) (v := (.double (FP.i2d vb2))) (by rw [e29]; exact Ar30.1) (State.isArrayOf_alike hZ.alike Ar30.2.1) Ar30.2.2 hin30 hat30 (g := (mkF m 114 #[.val (.ref x0), .val (.int x1), .val (.double (FP.i2d kx)), .second, .val (.int (5 : Int32)), .val (.int (2 : Int32))] [(.int (2 : Int32)), (.ref ky), (.int (5 : Int32)), (.ref ky)])) rfl rfl (hb hby d4_114) _ k) ?_
    show Goes _ _ _ _ _ _ _ (T29.setTop (mkF m 115 _ [(.double (FP.i2d vb2)), (.int (5 : Int32)), (.ref ky)]))
    obtain ⟨cl31, Ar31, q31, S31, P31, H31, G31⟩ := id f26
    have hin31 : ¬ ((5 : Int32) < 0 ∨ cl31.slots.size ≤ ((5 : Int32)).toNatClampNeg) := inb_of S31 ⟨by decide, by decide⟩
    obtain ⟨T32, h32, X32, e32, W32, st32⟩ := stD X29 hx hZ e29 Ar31 (j := (5 : Int32)) hin31 (g := (mkF m 115 #[.val (.ref x0), .val (.int x1), .val (.double (FP.i2d kx)), .second, .val (.int (5 : Int32)), .val (.int (2 : Int32))] [(.double (FP.i2d vb2)), (.int (5 : Int32)), (.ref ky)])) rfl rfl (hb hby d4_115)
    refine Goes.step st32 ?_
    have V32 := Arv.set Ar31 q31 S31 P31 H31 G31 rfl W32 5 rfl (Nat.le_of_ble_eq_true rfl)
    have f33 := f21.other W32 (Or.inl ne2)
    have f34 := f22.other W32 (Or.inl ne2)
    have f35 := f23.other W32 (Or.inl ne2)
    have f36 := f24.wr W32
    have f37 := f25.other W32 ne3
    have f38 := V32
    have K39 : Keep h0 h32 [x0, nd, ky] := K27.wr W32 (Or.inl (List.mem_of_getElem? (i := 2) rfl))
    have Z39 : n0 ≤ h32.size := by rw [Wr.size W32]; exact Z27
    have N39 := Fr.snoc X32 N27 g_ky
    show Goes _ _ _ _ _ _ _ (T32.setTop (mkF m 116 _ []))
    refine Goes.step (fun _ k => XS.iload X32.here hx rfl (hb hby d4_116) rfl  k) ?_
    refine Goes.step (fun _ k => XS.istore X32.here hx rfl (hb hby d4_118) rfl (l' := #[.val (.ref x0), .val (.int x1), .val (.double (FP.i2d kx)), .second, .val (.int (2 : Int32)), .val (.int (2 : Int32))]) rfl k) ?_
    show Goes _ _ _ _ _ _ _ (T32.setTop (mkF m 120 #[.val (.ref x0), .val (.int x1), .val (.double (FP.i2d kx)), .second, .val (.int (2 : Int32)), .val (.int (2 : Int32))] []))
    refine Goes.step (fun _ k => XS.goto X32.here hx rfl (pc0 := 120) (pc' := 59) rfl (hb hby d4_120) (by decide) (by decide) k) ?_
    show Goes _ _ _ _ _ _ _ (T32.setTop (mkF m 59 _ []))
    refine Goes.step (fun _ k => XS.iload X32.here hx rfl (hb hby d4_59) rfl  k) ?_
    refine Goes.step (fun _ k => XS.ifNo X32.here hx rfl (hb hby d4_61) rfl ((if0 _ _).trans (tlt (by decide : (0 : Int32) < (2 : Int32))).2.2.2) k) ?_
    show Goes _ _ _ _ _ _ _ (T32.setTop (mkF m 64 _ []))
    refine Goes.step (fun _ k => XS.aloadN X32.here hx rfl (hb hby d4_64) rfl rfl k) ?_
    obtain ⟨T40, X40, e40, st40⟩ := getF X32 hx hZ hown (host := "") (Or.inl w_17) Via.refl e32 f35 (g := (mkF m 65 #[.val (.ref x0), .val (.int x1), .val (.double (FP.i2d kx)), .second, .val (.int (2 : Int32)), .val (.int (2 : Int32))] [(.ref x0)])) rfl rfl (hb hby d4_65)
    refine Goes.step st40 ?_
    show Goes _ _ _ _ _ _ _ (T40.setTop (mkF m 68 _ [(.ref ky)]))
    refine Goes.step (fun _ k => XS.iload X40.here hx rfl (hb hby d4_68) rfl  k) ?_
    refine Goes.step (fun _ k => XS.iconst X40.here hx rfl (hb hby d4_70) k) ?_
    refine Goes.step (fun _ k => XS.isub X40.here hx rfl (hb hby d4_71) rfl k) ?_
    show Goes _ _ _ _ _ _ _ (T40.setTop (mkF m 72 _ [(.int (1 : Int32)), (.ref ky)]))
    refine Goes.step (fun _ k => XS.iconst X40.here hx rfl (hb hby d4_72) k) ?_
    refine Goes.step (fun _ k => XS.idiv X40.here hx rfl (hb hby d4_73) rfl (by decide) k) ?_
    show Goes _ _ _ _ _ _ _ (T40.setTop (mkF m 74 _ [(.int (0 : Int32)), (.ref ky)]))
    obtain ⟨cl41, Ar41, q41, S41, P41, H41, G41⟩ := id f38
    have hin41 : ¬ ((0 : Int32) < 0 ∨ cl41.slots.size ≤ ((0 : Int32)).toNatClampNeg) := inb_of S41 ⟨by decide, by decide⟩
    have hat41 : cl41.slots[((0 : Int32)).toNatClampNeg]? = some (.double (FP.i2d vb0)) := H41 _ (by rw [S41]; decide)
    refine Goes.step (fun _ k => X40.daload hx (j := (0 : Int32)) (v := (.double (FP.i2d vb0))) (by rw [e40]; exact Ar41.1) (State.isArrayOf_alike hZ.alike Ar41.2.1) Ar41.2.2 hin41 hat41 (g := (mkF m 74 #[.val (.ref x0), .val (.int x1), .val (.double (FP.i2d kx)), .second, .val (.int (2 : Int32)), .val (.int (2 : Int32))] [(.int (0 : Int32)), (.ref ky)])) rfl rfl (hb hby d4_74) _ k) ?_
    show Goes _ _ _ _ _ _ _ (T40.setTop (mkF m 75 _ [(.double (FP.i2d vb0))]))
    refine Goes.step (fun _ k => XS.dloadN X40.here hx rfl (hb hby d4_75) rfl k) ?_
    refine Goes.step (fun _ k => XS.dcmpS X40.here hx rfl (hb hby d4_76) rfl rfl k) ?_
    show Goes _ _ _ _ _ _ _ (T40.setTop (mkF m 77 #[.val (.ref x0), .val (.int x1), .val (.double (FP.i2d kx)), .second, .val (.int (2 : Int32)), .val (.int (2 : Int32))] [(.int (cmpValue (FP.dcmp (FP.i2d vb0) (FP.i2d kx)) .l))]))
    by_cases c77_42 : kx < vb0
    · refine Goes.step (fun _ k => XS.ifNo X40.here hx rfl (hb hby d4_77) rfl ((if0 _ _).trans (tlt ((own_dgt _ _ _).mpr c77_42)).2.2.2) k) ?_
      show Goes _ _ _ _ _ _ _ (T40.setTop (mkF m 80 _ []))
      refine Goes.step (fun _ k => XS.iload X40.here hx rfl (hb hby d4_80) rfl  k) ?_
      refine Goes.step (fun _ k => XS.iconst X40.here hx rfl (hb hby d4_82) k) ?_
      refine Goes.step (fun _ k => XS.isub X40.here hx rfl (hb hby d4_83) rfl k) ?_
      show Goes _ _ _ _ _ _ _ (T40.setTop (mkF m 84 _ [(.int (1 : Int32))]))
      refine Goes.step (fun _ k => XS.iconst X40.here hx rfl (hb hby d4_84) k) ?_
      refine Goes.step (fun _ k => XS.idiv X40.here hx rfl (hb hby d4_85) rfl (by decide) k) ?_
      show Goes _ _ _ _ _ _ _ (T40.setTop (mkF m 86 _ [(.int (0 : Int32))]))
      refine Goes.step (fun _ k => XS.istore X40.here hx rfl (hb hby d4_86) rfl (l' := #[.val (.ref x0), .val (.int x1), .val (.double (FP.i2d kx)), .second, .val (.int (2 : Int32)), .val (.int (0 : Int32))]) rfl k) ?_
      show Goes _ _ _ _ _ _ _ (T40.setTop (mkF m 88 _ []))
      refine Goes.step (fun _ k => XS.aloadN X40.here hx rfl (hb hby d4_88) rfl rfl k) ?_
      obtain ⟨T43, X43, e43, st43⟩ := getF X40 hx hZ hown (host := "") (Or.inl w_14) Via.refl e40 f34 (g := (mkF m 89 #[.val (.ref x0), .val (.int x1), .val (.double (FP.i2d kx)), .second, .val (.int (2 : Int32)), .val (.int (0 : Int32))] [(.ref x0)])) rfl rfl (hb hby d4_89)
      refine Goes.step st43 ?_
      show Goes _ _ _ _ _ _ _ (T43.setTop (mkF m 92 _ [(.ref nd)]))
      refine Goes.step (fun _ k => XS.iload X43.here hx rfl (hb hby d4_92) rfl  k) ?_
      refine Goes.step (fun _ k => XS.aloadN X43.here hx rfl (hb hby d4_94) rfl rfl k) ?_
      obtain ⟨T44, X44, e44, st44⟩ := getF X43 hx hZ hown (host := "") (Or.inl w_14) Via.refl e43 f34 (g := (mkF m 95 #[.val (.ref x0), .val (.int x1), .val (.double (FP.i2d kx)), .second, .val (.int (2 : Int32)), .val (.int (0 : Int32))] [(.ref x0), (.int (2 : Int32)), (.ref nd)])) rfl rfl (hb hby d4_95)
      refine Goes.step st44 ?_
      show Goes _ _ _ _ _ _ _ (T44.setTop (mkF m 98 _ [(.ref nd), (.int (2 : Int32)), (.ref nd)]))
      refine Goes.step (fun _ k => XS.iload X44.here hx rfl (hb hby d4_98) rfl  k) ?_
      obtain ⟨cl45, Ar45, q45, S45, P45, H45, G45⟩ := id f37
      have hin45 : ¬ ((0 : Int32) < 0 ∨ cl45.slots.size ≤ ((0 : Int32)).toNatClampNeg) := inb_of S45 ⟨by decide, by decide⟩
      have hat45 : cl45.slots[((0 : Int32)).toNatClampNeg]? = some (.int va0) := H45 _ (by rw [S45]; decide)
      refine Goes.step (fun _ k => X44.iaload hx (j := (0 : Int32)) (v := (.int va0)) (by rw [e44]; exact Ar45.1) (State.isArrayOf_alike hZ.alike Ar45.2.1) Ar45.2.2 hin45 hat45 (g := (mkF m 100 #[.val (.ref x0), .val (.int x1), .val (.double (FP.i2d kx)), .second, .val (.int (2 : Int32)), .val (.int (0 : Int32))] [(.int (0 : Int32)), (.ref nd), (.int (2 : Int32)), (.ref nd)])) rfl rfl (hb hby d4_100) _ k) ?_
      show Goes _ _ _ _ _ _ _ (T44.setTop (mkF m 101 #[.val (.ref x0), .val (.int x1), .val (.double (FP.i2d kx)), .second, .val (.int (2 : Int32)), .val (.int (0 : Int32))] [(.int va0), (.int (2 : Int32)), (.ref nd)]))
      obtain ⟨cl46, Ar46, q46, S46, P46, H46, G46⟩ := id f37
      have hin46 : ¬ ((2 : Int32) < 0 ∨ cl46.slots.size ≤ ((2 : Int32)).toNatClampNeg) := inb_of S46 ⟨by decide, by decide⟩
      obtain ⟨T47, h47, X47, e47, W47, st47⟩ := stI X44 hx hZ e44 Ar46 (j := (2 : Int32)) hin46 (g := (mkF m 101 #[.val (.ref x0), .val (.int x1), .val (.double (FP.i2d kx)), .second, .val (.int (2 : Int32)), .val (.int (0 : Int32))] [(.int va0), (.int (2 : Int32)), (.ref nd)])) rfl rfl (hb hby d4_101)
      refine Goes.step st47 ?_
      have V47 := Arv.set Ar46 q46 S46 P46 H46 G46 rfl W47 2 rfl (Nat.le_of_ble_eq_true rfl)
      have f48 := f33.other W47 (Or.inl ne1)
      have f49 := f34.other W47 (Or.inl ne1)
      have f50 := f35.other W47 (Or.inl ne1)
      have f51 := f36.wr W47
      have f52 := V47
      have f53 := f38.other W47 (Ne.symm ne3)
      have K54 : Keep h0 h47 [x0, nd, ky] := K39.wr W47 (Or.inl (List.mem_of_getElem? (i := 1) rfl))
      have Z54 : n0 ≤ h47.size := by rw [Wr.size W47]; exact Z39
      have N54 := Fr.snoc X47 N39 g_nd
      show Goes _ _ _ _ _ _ _ (T47.setTop (mkF m 102 _ []))
      refine Goes.step (fun _ k => XS.aloadN X47.here hx rfl (hb hby d4_102) rfl rfl k) ?_
      obtain ⟨T55, X55, e55, st55⟩ := getF X47 hx hZ hown (host := "") (Or.inl w_17) Via.refl e47 f50 (g := (mkF m 103 #[.val (.ref x0), .val (.int x1), .val (.double (FP.i2d kx)), .second, .val (.int (2 : Int32)), .val (.int (0 : Int32))] [(.ref x0)])) rfl rfl (hb hby d4_103)
      refine Goes.step st55 ?_
      show Goes _ _ _ _ _ _ _ (T55.setTop (mkF m 106 _ [(.ref ky)]))
      refine Goes.step (fun _ k => XS.iload X55.here hx rfl (hb hby d4_106) rfl  k) ?_
      refine Goes.step (fun _ k => XS.aloadN X55.here hx rfl (hb hby d4_108) rfl rfl k) ?_
      obtain ⟨T56, X56, e56, st56⟩ := getF X55 hx hZ hown (host := "") (Or.inl w_17) Via.refl e55 f50 (g := (mkF m 109 #[.val (.ref x0), .val (.int x1), .val (.double (FP.i2d kx)), .second, .val (.int (2 : Int32)), .val (.int (0 : Int32))] [(.ref x0), (.int (2 : Int32)), (.ref ky)])) rfl rfl (hb hby d4_109)
      refine Goes.step st56 ?_
      show Goes _ _ _ _ _ _ _ (T56.setTop (mkF m 112 _ [(.ref ky), (.int (2 : Int32)), (.ref ky)]))
      refine Goes.step (fun _ k => XS.iload X56.here hx rfl (hb hby d4_112) rfl  k) ?_
      obtain ⟨cl57, Ar57, q57, S57, P57, H57, G57⟩ := id f53
      have hin57 : ¬ ((0 : Int32) < 0 ∨ cl57.slots.size ≤ ((0 : Int32)).toNatClampNeg) := inb_of S57 ⟨by decide, by decide⟩
      have hat57 : cl57.slots[((0 : Int32)).toNatClampNeg]? = some (.double (FP.i2d vb0)) := H57 _ (by rw [S57]; decide)
      refine Goes.step (fun _ k => X56.daload hx (j := (0 : Int32)) (v := (.double (FP.i2d vb0))) (by rw [e56]; exact Ar57.1) (State.isArrayOf_alike hZ.alike Ar57.2.1) Ar57.2.2 hin57 hat57 (g := (mkF m 114 #[.val (.ref x0), .val (.int x1), .val (.double (FP.i2d kx)), .second, .val (.int (2 : Int32)), .val (.int (0 : Int32))] [(.int (0 : Int32)), (.ref ky), (.int (2 : Int32)), (.ref ky)])) rfl rfl (hb hby d4_114) _ k) ?_
      show Goes _ _ _ _ _ _ _ (T56.setTop (mkF m 115 _ [(.double (FP.i2d vb0)), (.int (2 : Int32)), (.ref ky)]))
      obtain ⟨cl58, Ar58, q58, S58, P58, H58, G58⟩ := id f53
      have hin58 : ¬ ((2 : Int32) < 0 ∨ cl58.slots.size ≤ ((2 : Int32)).toNatClampNeg) := inb_of S58 ⟨by decide, by decide⟩
      obtain ⟨T59, h59, X59, e59, W59, st59⟩ := stD X56 hx hZ e56 Ar58 (j := (2 : Int32)) hin58 (g := (mkF m 115 #[.val (.ref x0), .val (.int x1), .val (.double (FP.i2d kx)), .second, .val (.int (2 : Int32)), .val (.int (0 : Int32))] [(.double (FP.i2d vb0)), (.int (2 : Int32)), (.ref ky)])) rfl rfl (hb hby d4_115)
      refine Goes.step st59 ?_
      have V59 := Arv.set Ar58 q58 S58 P58 H58 G58 rfl W59 2 rfl (Nat.le_of_ble_eq_true rfl)
      have f60 := f48.other W59 (Or.inl ne2)
      have f61 := f49.other W59 (Or.inl ne2)
      have f62 := f50.other W59 (Or.inl ne2)
      have f63 := f51.wr W59
      have f64 := f52.other W59 ne3
      have f65 := V59
      have K66 : Keep h0 h59 [x0, nd, ky] := K54.wr W59 (Or.inl (List.mem_of_getElem? (i := 2) rfl))
      have Z66 : n0 ≤ h59.size := by rw [Wr.size W59]; exact Z54
      have N66 := Fr.snoc X59 N54 g_ky
      show Goes _ _ _ _ _ _ _ (T59.setTop (mkF m 116 _ []))
      refine Goes.step (fun _ k => XS.iload X59.here hx rfl (hb hby d4_116) rfl  k) ?_
      refine Goes.step (fun _ k => XS.istore X59.here hx rfl (hb hby d4_118) rfl (l' := #[.val (.ref x0), .val (.int x1), .val (.double (FP.i2d kx)), .second, .val (.int (0 : Int32)), .val (.int (0 : Int32))]) rfl k) ?_
      show Goes _ _ _ _ _ _ _ (T59.setTop (mkF m 120 _ []))
      refine Goes.step (fun _ k => XS.goto X59.here hx rfl (pc0 := 120) (pc' := 59) rfl (hb hby d4_120) (by decide) (by decide) k) ?_
      show Goes _ _ _ _ _ _ _ (T59.setTop (mkF m 59 #[.val (.ref x0), .val (.int x1), .val (.double (FP.i2d kx)), .second, .val (.int (0 : Int32)), .val (.int (0 : Int32))] []))
      refine Goes.step (fun _ k => XS.iload X59.here hx rfl (hb hby d4_59) rfl  k) ?_
      refine Goes.step (fun _ k => XS.ifYes X59.here hx rfl (pc0 := 61) (pc' := 123) rfl (hb hby d4_61) rfl ((if0 _ _).trans (flt (by decide : ¬ ((0 : Int32) < (0 : Int32)))).2.2.2) (by decide) (by decide) k) ?_
      show Goes _ _ _ _ _ _ _ (T59.setTop (mkF m 123 _ []))
      refine Goes.step (fun _ k => XS.aloadN X59.here hx rfl (hb hby d4_123) rfl rfl k) ?_
      obtain ⟨T67, X67, e67, st67⟩ := getF X59 hx hZ hown (host := "") (Or.inl w_14) Via.refl e59 f61 (g := (mkF m 124 #[.val (.ref x0), .val (.int x1), .val (.double (FP.i2d kx)), .second, .val (.int (0 : Int32)), .val (.int (0 : Int32))] [(.ref x0)])) rfl rfl (hb hby d4_124)
      refine Goes.step st67 ?_
      show Goes _ _ _ _ _ _ _ (T67.setTop (mkF m 127 _ [(.ref nd)]))
      refine Goes.step (fun _ k => XS.iload X67.here hx rfl (hb hby d4_127) rfl  k) ?_
      refine Goes.step (fun _ k => XS.iloadN X67.here hx rfl (hb hby d4_129) rfl  k) ?_
      obtain ⟨cl68, Ar68, q68, S68, P68, H68, G68⟩ := id f64
      have hin68 : ¬ ((0 : Int32) < 0 ∨ cl68.slots.size ≤ ((0 : Int32)).toNatClampNeg) := inb_of S68 ⟨by decide, by decide⟩
      obtain ⟨T69, h69, X69, e69, W69, st69⟩ := stI X67 hx hZ e67 Ar68 (j := (0 : Int32)) hin68 (g := (mkF m 130 #[.val (.ref x0), .val (.int x1), .val (.double (FP.i2d kx)), .second, .val (.int (0 : Int32)), .val (.int (0 : Int32))] [(.int x1), (.int (0 : Int32)), (.ref nd)])) rfl rfl (hb hby d4_130)
      refine Goes.step st69 ?_
      have V69 := Arv.set Ar68 q68 S68 P68 H68 G68 rfl W69 0 rfl (Nat.le_of_ble_eq_true rfl)
      have f70 := f60.other W69 (Or.inl ne1)
      have f71 := f61.other W69 (Or.inl ne1)
      have f72 := f62.other W69 (Or.inl ne1)
      have f73 := f63.wr W69
      have f74 := V69
      have f75 := f65.other W69 (Ne.symm ne3)
      have K76 : Keep h0 h69 [x0, nd, ky] := K66.wr W69 (Or.inl (List.mem_of_getElem? (i := 1) rfl))
      have Z76 : n0 ≤ h69.size := by rw [Wr.size W69]; exact Z66
      have N76 := Fr.snoc X69 N66 g_nd
      show Goes _ _ _ _ _ _ _ (T69.setTop (mkF m 131 _ []))
      refine Goes.step (fun _ k => XS.aloadN X69.here hx rfl (hb hby d4_131) rfl rfl k) ?_
      obtain ⟨T77, X77, e77, st77⟩ := getF X69 hx hZ hown (host := "") (Or.inl w_17) Via.refl e69 f72 (g := (mkF m 132 #[.val (.ref x0), .val (.int x1), .val (.double (FP.i2d kx)), .second, .val (.int (0 : Int32)), .val (.int (0 : Int32))] [(.ref x0)])) rfl rfl (hb hby d4_132)
      refine Goes.step st77 ?_
      show Goes _ _ _ _ _ _ _ (T77.setTop (mkF m 135 _ [(.ref ky)]))
      refine Goes.step (fun _ k => XS.iload X77.here hx rfl (hb hby d4_135) rfl  k) ?_
      refine Goes.step (fun _ k => XS.dloadN X77.here hx rfl (hb hby d4_137) rfl k) ?_
      obtain ⟨cl78, Ar78, q78, S78, P78, H78, G78⟩ := id f75
      have hin78 : ¬ ((0 : Int32) < 0 ∨ cl78.slots.size ≤ ((0 : Int32)).toNatClampNeg) := inb_of S78 ⟨by decide, by decide⟩
      obtain ⟨T79, h79, X79, e79, W79, st79⟩ := stD X77 hx hZ e77 Ar78 (j := (0 : Int32)) hin78 (g := (mkF m 138 #[.val (.ref x0), .val (.int x1), .val (.double (FP.i2d kx)), .second, .val (.int (0 : Int32)), .val (.int (0 : Int32))] [(.double (FP.i2d kx)), (.int (0 : Int32)), (.ref ky)])) rfl rfl (hb hby d4_138)
      refine Goes.step st79 ?_
      have V79 := Arv.set Ar78 q78 S78 P78 H78 G78 rfl W79 0 rfl (Nat.le_of_ble_eq_true rfl)
      have f80 := f70.other W79 (Or.inl ne2)
      have f81 := f71.other W79 (Or.inl ne2)
      have f82 := f72.other W79 (Or.inl ne2)
      have f83 := f73.wr W79
      have f84 := f74.other W79 ne3
      have f85 := V79
      have K86 : Keep h0 h79 [x0, nd, ky] := K76.wr W79 (Or.inl (List.mem_of_getElem? (i := 2) rfl))
      have Z86 : n0 ≤ h79.size := by rw [Wr.size W79]; exact Z76
      have N86 := Fr.snoc X79 N76 g_ky
      show Goes _ _ _ _ _ _ _ (T79.setTop (mkF m 139 _ []))
      have ph0 := own_l c77_15
      have ph1 := own_l c77_42
      exact Goes.retV X79 hx (BodyLoose.notSynchronized Bd) Bd.returns (hb hby d4_139) (by show Q4_5 Z x0 x1 kx nd ky kn kd va0 va1 va2 va3 va4 vb0 vb1 vb2 vb3 vb4 h0 n0 none T79.heap _; rw [e79]; exact ⟨N86, K86, rfl, f80, f81, f82, x1, va1, va0, va3, va4, va2, kx, vb1, vb0, vb3, vb4, vb2, f84, f85, (List.Perm.map (fun i => ([(x1, kx), (va0, vb0), (va1, vb1), (va2, vb2), (va3, vb3), (va4, vb4)] : List (Int32 × Int32)).getD i (0, 0)) (by decide : ([0, 2, 1, 4, 5, 3] : List Nat).Perm [0, 1, 2, 3, 4, 5])), by omega, by omega, by omega, by omega, by omega⟩) (by decide) (by decide)
    · refine Goes.step (fun _ k => XS.ifYes X40.here hx rfl (pc0 := 77) (pc' := 123) rfl (hb hby d4_77) rfl ((if0 _ _).trans (flt (fun q => c77_42 ((own_dgt _ _ _).mp q))).2.2.2) (by decide) (by decide) k) ?_
      show Goes _ _ _ _ _ _ _ (T40.setTop (mkF m 123 _ []))
      refine Goes.step (fun _ k => XS.aloadN X40.here hx rfl (hb hby d4_123) rfl rfl k) ?_
      obtain ⟨T87, X87, e87, st87⟩ := getF X40 hx hZ hown (host := "") (Or.inl w_14) Via.refl e40 f34 (g := (mkF m 124 #[.val (.ref x0), .val (.int x1), .val (.double (FP.i2d kx)), .second, .val (.int (2 : Int32)), .val (.int (2 : Int32))] [(.ref x0)])) rfl rfl (hb hby d4_124)
      refine Goes.step st87 ?_
      show Goes _ _ _ _ _ _ _ (T87.setTop (mkF m 127 _ [(.ref nd)]))
      refine Goes.step (fun _ k => XS.iload X87.here hx rfl (hb hby d4_127) rfl  k) ?_
      refine Goes.step (fun _ k => XS.iloadN X87.here hx rfl (hb hby d4_129) rfl  k) ?_
      obtain ⟨cl88, Ar88, q88, S88, P88, H88, G88⟩ := id f37
      have hin88 : ¬ ((2 : Int32) < 0 ∨ cl88.slots.size ≤ ((2 : Int32)).toNatClampNeg) := inb_of S88 ⟨by decide, by decide⟩
      obtain ⟨T89, h89, X89, e89, W89, st89⟩ := stI X87 hx hZ e87 Ar88 (j := (2 : Int32)) hin88 (g := (mkF m 130 #[.val (.ref x0), .val (.int x1), .val (.double (FP.i2d kx)), .second, .val (.int (2 : Int32)), .val (.int (2 : Int32))] [(.int x1), (.int (2 : Int32)), (.ref nd)])) rfl rfl (hb hby d4_130)
      refine Goes.step st89 ?_
      have V89 := Arv.set Ar88 q88 S88 P88 H88 G88 rfl W89 2 rfl (Nat.le_of_ble_eq_true rfl)
      have f90 := f33.other W89 (Or.inl ne1)
      have f91 := f34.other W89 (Or.inl ne1)
      have f92 := f35.other W89 (Or.inl ne1)
      have f93 := f36.wr W89
      have f94 := V89
      have f95 := f38.other W89 (Ne.symm ne3)
      have K96 : Keep h0 h89 [x0, nd, ky] := K39.wr W89 (Or.inl (List.mem_of_getElem? (i := 1) rfl))
      have Z96 : n0 ≤ h89.size := by rw [Wr.size W89]; exact Z39
      have N96 := Fr.snoc X89 N39 g_nd
      show Goes _ _ _ _ _ _ _ (T89.setTop (mkF m 131 _ []))
      refine Goes.step (fun _ k => XS.aloadN X89.here hx rfl (hb hby d4_131) rfl rfl k) ?_
      obtain ⟨T97, X97, e97, st97⟩ := getF X89 hx hZ hown (host := "") (Or.inl w_17) Via.refl e89 f92 (g := (mkF m 132 #[.val (.ref x0), .val (.int x1), .val (.double (FP.i2d kx)), .second, .val (.int (2 : Int32)), .val (.int (2 : Int32))] [(.ref x0)])) rfl rfl (hb hby d4_132)
      refine Goes.step st97 ?_
      show Goes _ _ _ _ _ _ _ (T97.setTop (mkF m 135 _ [(.ref ky)]))
      refine Goes.step (fun _ k => XS.iload X97.here hx rfl (hb hby d4_135) rfl  k) ?_
      refine Goes.step (fun _ k => XS.dloadN X97.here hx rfl (hb hby d4_137) rfl k) ?_
      obtain ⟨cl98, Ar98, q98, S98, P98, H98, G98⟩ := id f95
      have hin98 : ¬ ((2 : Int32) < 0 ∨ cl98.slots.size ≤ ((2 : Int32)).toNatClampNeg) := inb_of S98 ⟨by decide, by decide⟩
      obtain ⟨T99, h99, X99, e99, W99, st99⟩ := stD X97 hx hZ e97 Ar98 (j := (2 : Int32)) hin98 (g := (mkF m 138 #[.val (.ref x0), .val (.int x1), .val (.double (FP.i2d kx)), .second, .val (.int (2 : Int32)), .val (.int (2 : Int32))] [(.double (FP.i2d kx)), (.int (2 : Int32)), (.ref ky)])) rfl rfl (hb hby d4_138)
      refine Goes.step st99 ?_
      have V99 := Arv.set Ar98 q98 S98 P98 H98 G98 rfl W99 2 rfl (Nat.le_of_ble_eq_true rfl)
      have f100 := f90.other W99 (Or.inl ne2)
      have f101 := f91.other W99 (Or.inl ne2)
      have f102 := f92.other W99 (Or.inl ne2)
      have f103 := f93.wr W99
      have f104 := f94.other W99 ne3
      have f105 := V99
      have K106 : Keep h0 h99 [x0, nd, ky] := K96.wr W99 (Or.inl (List.mem_of_getElem? (i := 2) rfl))
      have Z106 : n0 ≤ h99.size := by rw [Wr.size W99]; exact Z96
      have N106 := Fr.snoc X99 N96 g_ky
      show Goes _ _ _ _ _ _ _ (T99.setTop (mkF m 139 _ []))
      have ph0 := own_l c77_15
      have ph1 := own_nl c77_42
      exact Goes.retV X99 hx (BodyLoose.notSynchronized Bd) Bd.returns (hb hby d4_139) (by show Q4_5 Z x0 x1 kx nd ky kn kd va0 va1 va2 va3 va4 vb0 vb1 vb2 vb3 vb4 h0 n0 none T99.heap _; rw [e99]; exact ⟨N106, K106, rfl, f100, f101, f102, va0, va1, x1, va3, va4, va2, vb0, vb1, kx, vb3, vb4, vb2, f104, f105, (List.Perm.map (fun i => ([(x1, kx), (va0, vb0), (va1, vb1), (va2, vb2), (va3, vb3), (va4, vb4)] : List (Int32 × Int32)).getD i (0, 0)) (by decide : ([1, 2, 0, 4, 5, 3] : List Nat).Perm [0, 1, 2, 3, 4, 5])), by omega, by omega, by omega, by omega, by omega⟩) (by decide) (by decide)
  · refine Goes.step (fun _ k => XS.ifYes X13.here hx rfl (pc0 := 77) (pc' := 123) rfl (hb hby d4_77) rfl ((if0 _ _).trans (flt (fun q => c77_15 ((own_dgt _ _ _).mp q))).2.2.2) (by decide) (by decide) k) ?_
    show Goes _ _ _ _ _ _ _ (T13.setTop (mkF m 123 _ []))
    refine Goes.step (fun _ k => XS.aloadN X13.here hx rfl (hb hby d4_123) rfl rfl k) ?_
    obtain ⟨T107, X107, e107, st107⟩ := getF X13 hx hZ hown (host := "") (Or.inl w_14) Via.refl e13 f7 (g := (mkF m 124 #[.val (.ref x0), .val (.int x1), .val (.double (FP.i2d kx)), .second, .val (.int (5 : Int32)), .unset] [(.ref x0)])) rfl rfl (hb hby d4_124)
    refine Goes.step st107 ?_
    show Goes _ _ _ _ _ _ _ (T107.setTop (mkF m 127 _ [(.ref nd)]))
    refine Goes.step (fun _ k => XS.iload X107.here hx rfl (hb hby d4_127) rfl  k) ?_
    refine Goes.step (fun _ k => XS.iloadN X107.here hx rfl (hb hby d4_129) rfl  k) ?_
    obtain ⟨cl108, Ar108, q108, S108, P108, H108, G108⟩ := id f10
    have hin108 : ¬ ((5 : Int32) < 0 ∨ cl108.slots.size ≤ ((5 : Int32)).toNatClampNeg) := inb_of S108 ⟨by decide, by decide⟩
    obtain ⟨T109, h109, X109, e109, W109, st109⟩ := stI X107 hx hZ e107 Ar108 (j := (5 : Int32)) hin108 (g := (mkF m 130 #[.val (.ref x0), .val (.int x1), .val (.double (FP.i2d kx)), .second, .val (.int (5 : Int32)), .unset] [(.int x1), (.int (5 : Int32)), (.ref nd)])) rfl rfl (hb hby d4_130)
    refine Goes.step st109 ?_
    have V109 := Arv.set Ar108 q108 S108 P108 H108 G108 rfl W109 5 rfl (Nat.le_of_ble_eq_true rfl)
    have f110 := f6.other W109 (Or.inl ne1)
    have f111 := f7.other W109 (Or.inl ne1)
    have f112 := f8.other W109 (Or.inl ne1)
    have f113 := f9.wr W109
    have f114 := V109
    have f115 := f11.other W109 (Ne.symm ne3)
    have K116 : Keep h0 h109 [x0, nd, ky] := K12.wr W109 (Or.inl (List.mem_of_getElem? (i := 1) rfl))
    have Z116 : n0 ≤ h109.size := by rw [Wr.size W109]; exact Z12
    have N116 := Fr.snoc X109 N12 g_nd
    show Goes _ _ _ _ _ _ _ (T109.setTop (mkF m 131 _ []))
    refine Goes.step (fun _ k => XS.aloadN X109.here hx rfl (hb hby d4_131) rfl rfl k) ?_
    obtain ⟨T117, X117, e117, st117⟩ := getF X109 hx hZ hown (host := "") (Or.inl w_17) Via.refl e109 f112 (g := (mkF m 132 #[.val (.ref x0), .val (.int x1), .val (.double (FP.i2d kx)), .second, .val (.int (5 : Int32)), .unset] [(.ref x0)])) rfl rfl (hb hby d4_132)
    refine Goes.step st117 ?_
    show Goes _ _ _ _ _ _ _ (T117.setTop (mkF m 135 _ [(.ref ky)]))
    refine Goes.step (fun _ k => XS.iload X117.here hx rfl (hb hby d4_135) rfl  k) ?_
    refine Goes.step (fun _ k => XS.dloadN X117.here hx rfl (hb hby d4_137) rfl k) ?_
    obtain ⟨cl118, Ar118, q118, S118, P118, H118, G118⟩ := id f115
    have hin118 : ¬ ((5 : Int32) < 0 ∨ cl118.slots.size ≤ ((5 : Int32)).toNatClampNeg) := inb_of S118 ⟨by decide, by decide⟩
    obtain ⟨T119, h119, X119, e119, W119, st119⟩ := stD X117 hx hZ e117 Ar118 (j := (5 : Int32)) hin118 (g := (mkF m 138 #[.val (.ref x0), .val (.int x1), .val (.double (FP.i2d kx)), .second, .val (.int (5 : Int32)), .unset] [(.double (FP.i2d kx)), (.int (5 : Int32)), (.ref ky)])) rfl rfl (hb hby d4_138)
    refine Goes.step st119 ?_
    have V119 := Arv.set Ar118 q118 S118 P118 H118 G118 rfl W119 5 rfl (Nat.le_of_ble_eq_true rfl)
    have f120 := f110.other W119 (Or.inl ne2)
    have f121 := f111.other W119 (Or.inl ne2)
    have f122 := f112.other W119 (Or.inl ne2)
    have f123 := f113.wr W119
    have f124 := f114.other W119 ne3
    have f125 := V119
    have K126 : Keep h0 h119 [x0, nd, ky] := K116.wr W119 (Or.inl (List.mem_of_getElem? (i := 2) rfl))
    have Z126 : n0 ≤ h119.size := by rw [Wr.size W119]; exact Z116
    have N126 := Fr.snoc X119 N116 g_ky
    show Goes _ _ _ _ _ _ _ (T119.setTop (mkF m 139 _ []))
    have ph0 := own_nl c77_15
    exact Goes.retV X119 hx (BodyLoose.notSynchronized Bd) Bd.returns (hb hby d4_139) (by show Q4_5 Z x0 x1 kx nd ky kn kd va0 va1 va2 va3 va4 vb0 vb1 vb2 vb3 vb4 h0 n0 none T119.heap _; rw [e119]; exact ⟨N126, K126, rfl, f120, f121, f122, va0, va1, va2, va3, va4, x1, vb0, vb1, vb2, vb3, vb4, kx, f124, f125, (List.Perm.map (fun i => ([(x1, kx), (va0, vb0), (va1, vb1), (va2, vb2), (va3, vb3), (va4, vb4)] : List (Int32 × Int32)).getD i (0, 0)) (by decide : ([1, 2, 3, 4, 5, 0] : List Nat).Perm [0, 1, 2, 3, 4, 5])), by omega, by omega, by omega, by omega, by omega⟩) (by decide) (by decide)
theorem d5_0 : decode prog_21_method_6_code 0 = .ok (.aload_n 0, 1) := by decide +kernel
theorem d5_1 : decode prog_21_method_6_code 1 = .ok (.getfield 7, 3) := by decide +kernel
theorem d5_4 : decode prog_21_method_6_code 4 = .ok (.iconst 0, 1) := by decide +kernel
theorem d5_5 : decode prog_21_method_6_code 5 = .ok (.iaload, 1) := by decide +kernel
theorem d5_6 : decode prog_21_method_6_code 6 = .ok (.istore_n 1, 1) := by decide +kernel
theorem d5_7 : decode prog_21_method_6_code 7 = .ok (.aload_n 0, 1) := by decide +kernel
theorem d5_8 : decode prog_21_method_6_code 8 = .ok (.dup, 1) := by decide +kernel
theorem d5_9 : decode prog_21_method_6_code 9 = .ok (.getfield 17, 3) := by decide +kernel
theorem d5_12 : decode prog_21_method_6_code 12 = .ok (.iconst 1, 1) := by decide +kernel
theorem d5_13 : decode prog_21_method_6_code 13 = .ok (.isub, 1) := by decide +kernel
theorem d5_14 : decode prog_21_method_6_code 14 = .ok (.putfield 17, 3) := by decide +kernel
theorem d5_17 : decode prog_21_method_6_code 17 = .ok (.aload_n 0, 1) := by decide +kernel
theorem d5_18 : decode prog_21_method_6_code 18 = .ok (.getfield 7, 3) := by decide +kernel
theorem d5_21 : decode prog_21_method_6_code 21 = .ok (.aload_n 0, 1) := by decide +kernel
theorem d5_22 : decode prog_21_method_6_code 22 = .ok (.getfield 17, 3) := by decide +kernel
theorem d5_25 : decode prog_21_method_6_code 25 = .ok (.iaload, 1) := by decide +kernel
theorem d5_26 : decode prog_21_method_6_code 26 = .ok (.istore_n 2, 1) := by decide +kernel
theorem d5_27 : decode prog_21_method_6_code 27 = .ok (.aload_n 0, 1) := by decide +kernel
theorem d5_28 : decode prog_21_method_6_code 28 = .ok (.getfield 13, 3) := by decide +kernel
theorem d5_31 : decode prog_21_method_6_code 31 = .ok (.aload_n 0, 1) := by decide +kernel
theorem d5_32 : decode prog_21_method_6_code 32 = .ok (.getfield 17, 3) := by decide +kernel
theorem d5_35 : decode prog_21_method_6_code 35 = .ok (.daload, 1) := by decide +kernel
theorem d5_36 : decode prog_21_method_6_code 36 = .ok (.dstore_n 3, 1) := by decide +kernel
theorem d5_37 : decode prog_21_method_6_code 37 = .ok (.iconst 0, 1) := by decide +kernel
theorem d5_38 : decode prog_21_method_6_code 38 = .ok (.istore 5, 2) := by decide +kernel
theorem d5_40 : decode prog_21_method_6_code 40 = .ok (.iconst 1, 1) := by decide +kernel
theorem d5_41 : decode prog_21_method_6_code 41 = .ok (.istore 6, 2) := by decide +kernel
theorem d5_43 : decode prog_21_method_6_code 43 = .ok (.iload 6, 2) := by decide +kernel
theorem d5_45 : decode prog_21_method_6_code 45 = .ok (.aload_n 0, 1) := by decide +kernel
theorem d5_46 : decode prog_21_method_6_code 46 = .ok (.getfield 17, 3) := by decide +kernel
theorem d5_49 : decode prog_21_method_6_code 49 = .ok (.if_icmp .ge 95, 3) := by decide +kernel
theorem d5_52 : decode prog_21_method_6_code 52 = .ok (.iload 6, 2) := by decide +kernel
theorem d5_54 : decode prog_21_method_6_code 54 = .ok (.iconst 1, 1) := by decide +kernel
theorem d5_55 : decode prog_21_method_6_code 55 = .ok (.iadd, 1) := by decide +kernel
theorem d5_56 : decode prog_21_method_6_code 56 = .ok (.aload_n 0, 1) := by decide +kernel
theorem d5_57 : decode prog_21_method_6_code 57 = .ok (.getfield 17, 3) := by decide +kernel
theorem d5_60 : decode prog_21_method_6_code 60 = .ok (.if_icmp .ge 26, 3) := by decide +kernel
theorem d5_63 : decode prog_21_method_6_code 63 = .ok (.aload_n 0, 1) := by decide +kernel
theorem d5_64 : decode prog_21_method_6_code 64 = .ok (.getfield 13, 3) := by decide +kernel
theorem d5_67 : decode prog_21_method_6_code 67 = .ok (.iload 6, 2) := by decide +kernel
theorem d5_69 : decode prog_21_method_6_code 69 = .ok (.iconst 1, 1) := by decide +kernel
theorem d5_70 : decode prog_21_method_6_code 70 = .ok (.iadd, 1) := by decide +kernel
theorem d5_71 : decode prog_21_method_6_code 71 = .ok (.daload, 1) := by decide +kernel
theorem d5_72 : decode prog_21_method_6_code 72 = .ok (.aload_n 0, 1) := by decide +kernel
theorem d5_73 : decode prog_21_method_6_code 73 = .ok (.getfield 13, 3) := by decide +kernel
theorem d5_76 : decode prog_21_method_6_code 76 = .ok (.iload 6, 2) := by decide +kernel
theorem d5_78 : decode prog_21_method_6_code 78 = .ok (.daload, 1) := by decide +kernel
theorem d5_79 : decode prog_21_method_6_code 79 = .ok (.dcmp .g, 1) := by decide +kernel
theorem d5_80 : decode prog_21_method_6_code 80 = .ok (.ifCond .ge 6, 3) := by decide +kernel
theorem d5_83 : decode prog_21_method_6_code 83 = .ok (.iinc 6 1, 3) := by decide +kernel
theorem d5_86 : decode prog_21_method_6_code 86 = .ok (.aload_n 0, 1) := by decide +kernel
theorem d5_87 : decode prog_21_method_6_code 87 = .ok (.getfield 13, 3) := by decide +kernel
theorem d5_90 : decode prog_21_method_6_code 90 = .ok (.iload 6, 2) := by decide +kernel
theorem d5_92 : decode prog_21_method_6_code 92 = .ok (.daload, 1) := by decide +kernel
theorem d5_93 : decode prog_21_method_6_code 93 = .ok (.dload_n 3, 1) := by decide +kernel
theorem d5_94 : decode prog_21_method_6_code 94 = .ok (.dcmp .l, 1) := by decide +kernel
theorem d5_95 : decode prog_21_method_6_code 95 = .ok (.ifCond .lt 6, 3) := by decide +kernel
theorem d5_98 : decode prog_21_method_6_code 98 = .ok (.goto 46, 3) := by decide +kernel
theorem d5_101 : decode prog_21_method_6_code 101 = .ok (.aload_n 0, 1) := by decide +kernel
theorem d5_102 : decode prog_21_method_6_code 102 = .ok (.getfield 7, 3) := by decide +kernel
theorem d5_105 : decode prog_21_method_6_code 105 = .ok (.iload 5, 2) := by decide +kernel
theorem d5_107 : decode prog_21_method_6_code 107 = .ok (.aload_n 0, 1) := by decide +kernel
theorem d5_108 : decode prog_21_method_6_code 108 = .ok (.getfield 7, 3) := by decide +kernel
theorem d5_111 : decode prog_21_method_6_code 111 = .ok (.iload 6, 2) := by decide +kernel
theorem d5_113 : decode prog_21_method_6_code 113 = .ok (.iaload, 1) := by decide +kernel
theorem d5_114 : decode prog_21_method_6_code 114 = .ok (.iastore, 1) := by decide +kernel
theorem d5_115 : decode prog_21_method_6_code 115 = .ok (.aload_n 0, 1) := by decide +kernel
theorem d5_116 : decode prog_21_method_6_code 116 = .ok (.getfield 13, 3) := by decide +kernel
theorem d5_119 : decode prog_21_method_6_code 119 = .ok (.iload 5, 2) := by decide +kernel
theorem d5_121 : decode prog_21_method_6_code 121 = .ok (.aload_n 0, 1) := by decide +kernel
theorem d5_122 : decode prog_21_method_6_code 122 = .ok (.getfield 13, 3) := by decide +kernel
theorem d5_125 : decode prog_21_method_6_code 125 = .ok (.iload 6, 2) := by decide +kernel
theorem d5_127 : decode prog_21_method_6_code 127 = .ok (.daload, 1) := by decide +kernel
theorem d5_128 : decode prog_21_method_6_code 128 = .ok (.dastore, 1) := by decide +kernel
theorem d5_129 : decode prog_21_method_6_code 129 = .ok (.iload 6, 2) := by decide +kernel
theorem d5_131 : decode prog_21_method_6_code 131 = .ok (.istore 5, 2) := by decide +kernel
theorem d5_133 : decode prog_21_method_6_code 133 = .ok (.iconst 2, 1) := by decide +kernel
theorem d5_134 : decode prog_21_method_6_code 134 = .ok (.iload 5, 2) := by decide +kernel
theorem d5_136 : decode prog_21_method_6_code 136 = .ok (.imul, 1) := by decide +kernel
theorem d5_137 : decode prog_21_method_6_code 137 = .ok (.iconst 1, 1) := by decide +kernel
theorem d5_138 : decode prog_21_method_6_code 138 = .ok (.iadd, 1) := by decide +kernel
theorem d5_139 : decode prog_21_method_6_code 139 = .ok (.istore 6, 2) := by decide +kernel
theorem d5_141 : decode prog_21_method_6_code 141 = .ok (.goto (-98), 3) := by decide +kernel
theorem d5_144 : decode prog_21_method_6_code 144 = .ok (.aload_n 0, 1) := by decide +kernel
theorem d5_145 : decode prog_21_method_6_code 145 = .ok (.getfield 7, 3) := by decide +kernel
theorem d5_148 : decode prog_21_method_6_code 148 = .ok (.iload 5, 2) := by decide +kernel
theorem d5_150 : decode prog_21_method_6_code 150 = .ok (.iload_n 2, 1) := by decide +kernel
theorem d5_151 : decode prog_21_method_6_code 151 = .ok (.iastore, 1) := by decide +kernel
theorem d5_152 : decode prog_21_method_6_code 152 = .ok (.aload_n 0, 1) := by decide +kernel
theorem d5_153 : decode prog_21_method_6_code 153 = .ok (.getfield 13, 3) := by decide +kernel
theorem d5_156 : decode prog_21_method_6_code 156 = .ok (.iload 5, 2) := by decide +kernel
theorem d5_158 : decode prog_21_method_6_code 158 = .ok (.dload_n 3, 1) := by decide +kernel
theorem d5_159 : decode prog_21_method_6_code 159 = .ok (.dastore, 1) := by decide +kernel
theorem d5_160 : decode prog_21_method_6_code 160 = .ok (.iload_n 1, 1) := by decide +kernel
theorem d5_161 : decode prog_21_method_6_code 161 = .ok (.ireturn, 1) := by decide +kernel
theorem pn_5 : plainName "com/example/hailwise/hailwise/NodeQueue" = true := by first | (simp [plainName, overriddenIn]; done) | decide +kernel
theorem ef_5_6 (m : MethodId) (x0 : Addr) (nd : Addr) (ky : Addr) (kn : ClassId) (kd : ClassId) (va0 : Int32) (va1 : Int32) (va2 : Int32) (va3 : Int32) (va4 : Int32) (va5 : Int32) (vb0 : Int32) (vb1 : Int32) (vb2 : Int32) (vb3 : Int32) (vb4 : Int32) (vb5 : Int32)  : entryFrame m #[(.ref x0)] 7 = mkF m 0 #[.val (.ref x0), .unset, .unset, .unset, .unset, .unset, .unset] [] := by first | (simp [entryFrame, mkF, argsToLocals, Value.category]; done) | rfl
def Q5_6 (Z : State) (x0 : Addr) (nd : Addr) (ky : Addr) (kn : ClassId) (kd : ClassId) (va0 : Int32) (va1 : Int32) (va2 : Int32) (va3 : Int32) (va4 : Int32) (va5 : Int32) (vb0 : Int32) (vb1 : Int32) (vb2 : Int32) (vb3 : Int32) (vb4 : Int32) (vb5 : Int32) (h0 : Heap) (n0 : Nat) (v : Option Value) (h : Heap) (L : List Loc) : Prop := Fr n0 L ∧ Keep h0 h [x0, nd, ky] ∧ v = some (.int va0) ∧ Fld Z h x0 "com/example/hailwise/hailwise/NodeQueue" "size" "I" (.int (5 : Int32)) ∧ Fld Z h x0 "com/example/hailwise/hailwise/NodeQueue" "nodes" "[I" (.ref nd) ∧ Fld Z h x0 "com/example/hailwise/hailwise/NodeQueue" "keys" "[D" (.ref ky) ∧ ∃ p0 p1 p2 p3 p4 p5 q0 q1 q2 q3 q4 q5 : Int32, Arv Z h nd kn .int (64 : Int32) [(.int p0), (.int p1), (.int p2), (.int p3), (.int p4), (.int p5)] (.int (0 : Int32)) ∧ Arv Z h ky kd .double (64 : Int32) [(.double (FP.i2d q0)), (.double (FP.i2d q1)), (.double (FP.i2d q2)), (.double (FP.i2d q3)), (.double (FP.i2d q4)), (.double (FP.i2d q5))] (.double (0 : UInt64)) ∧ ([(p0, q0), (p1, q1), (p2, q2), (p3, q3), (p4, q4)] : List (Int32 × Int32)).Perm ([(va1, vb1), (va2, vb2), (va3, vb3), (va4, vb4), (va5, vb5)] : List (Int32 × Int32)) ∧ q0.toInt ≤ q1.toInt ∧ q0.toInt ≤ q2.toInt ∧ q1.toInt ≤ q3.toInt ∧ q1.toInt ≤ q4.toInt ∧ vb0.toInt ≤ q0.toInt
set_option maxRecDepth 65536 in
set_option maxHeartbeats 40000000 in
theorem rm5_6 (l : Launch) (Z : State) (a0 : Array Value) (hw : ∀ d ∈ tables_1, d.before a0 Z = true) (ws : List Jvm.Cond) (x0 : Addr) (nd : Addr) (ky : Addr) (kn : ClassId) (kd : ClassId) (va0 : Int32) (va1 : Int32) (va2 : Int32) (va3 : Int32) (va4 : Int32) (va5 : Int32) (vb0 : Int32) (vb1 : Int32) (vb2 : Int32) (vb3 : Int32) (vb4 : Int32) (vb5 : Int32) (h0 : Heap) (n0 : Nat) (Z0 : n0 ≤ h0.size) (F_size : Fld Z h0 x0 "com/example/hailwise/hailwise/NodeQueue" "size" "I" (.int (6 : Int32))) (F_nd : Fld Z h0 x0 "com/example/hailwise/hailwise/NodeQueue" "nodes" "[I" (.ref nd)) (F_ky : Fld Z h0 x0 "com/example/hailwise/hailwise/NodeQueue" "keys" "[D" (.ref ky)) (E_x0 : Exa Z h0 x0 "com/example/hailwise/hailwise/NodeQueue") (V_nd : Arv Z h0 nd kn .int (64 : Int32) [(.int va0), (.int va1), (.int va2), (.int va3), (.int va4), (.int va5)] (.int (0 : Int32))) (V_ky : Arv Z h0 ky kd .double (64 : Int32) [(.double (FP.i2d vb0)), (.double (FP.i2d vb1)), (.double (FP.i2d vb2)), (.double (FP.i2d vb3)), (.double (FP.i2d vb4)), (.double (FP.i2d vb5))] (.double (0 : UInt64))) (g_x0 : n0 ≤ x0) (g_nd : n0 ≤ nd) (g_ky : n0 ≤ ky) (ne1 : x0 ≠ nd) (ne2 : x0 ≠ ky) (ne3 : nd ≠ ky) (ho01 : vb0.toInt ≤ vb1.toInt) (ho02 : vb0.toInt ≤ vb2.toInt) (ho13 : vb1.toInt ≤ vb3.toInt) (ho14 : vb1.toInt ≤ vb4.toInt) (ho25 : vb2.toInt ≤ vb5.toInt) :
    MetFree l (⟨"com/example/hailwise/hailwise/NodeQueue", "poll", "()I"⟩ : MethodName) (head1 (Jvm.Cond.code (⟨"com/example/hailwise/hailwise/NodeQueue", "poll", "()I"⟩ : MethodName) prog_21_method_6_code 7 (some .int) :: ws) ({ frames := 0, cells := 0, slots := 0, locals := 0 } : Room)) (fun a U => a = #[(.ref x0)] ∧ Z.Warmed39 U.vm ∧ U.heap = h0) (fun _ _ _ _ _ => True) (fun _ U o U' => ∃ v L, o = .returned v ∧ Q5_6 Z x0 nd ky kn kd va0 va1 va2 va3 va4 va5 vb0 vb1 vb2 vb3 vb4 vb5 h0 n0 v U'.heap L ∧ FrameEnd U o U' L ({ frames := 0, cells := 0, slots := 0, locals := 0 } : Room).cells ({ frames := 0, cells := 0, slots := 0, locals := 0 } : Room).slots) := by
  refine MetFree.of_bodySF (plainFor_of_name pn_5) hisR ?_
  intro p e s m args below meth c s₁ Bd hml0 hP hK
  obtain ⟨rfl, hZ, hh⟩ := hP
  have w_6 := hw _ (List.mem_of_getElem? (i := 6) rfl)
  have w_14 := hw _ (List.mem_of_getElem? (i := 14) rfl)
  have w_15 := hw _ (List.mem_of_getElem? (i := 15) rfl)
  have w_17 := hw _ (List.mem_of_getElem? (i := 17) rfl)
  have w_18 := hw _ (List.mem_of_getElem? (i := 18) rfl)
  have w_24 := hw _ (List.mem_of_getElem? (i := 24) rfl)
  have w_25 := hw _ (List.mem_of_getElem? (i := 25) rfl)
  have hx := Bd.exec
  have hby := Bd.bytes
  have hml : c.maxLocals = 7 := hml0
  have hown : s.vm.findClass "com/example/hailwise/hailwise/NodeQueue" = some m.cls := findClass_of_methodNamed Bd.named
  have hnm := (name_of_methodNamed Bd.named Bd.method).1
  have X0 : Stand p l e ({ frames := 0, cells := 0, slots := 0, locals := 0 } : Room) s m #[(.ref x0)] below meth c s₁ [] 0 0 := Stand.of_body Bd
  have e0 : s₁.heap = h0 := by rw [← hh, Bd.state]; rfl
  have N0 := Fr.nil n0
  have K0 : Keep h0 h0 [x0, nd, ky] := Keep.refl h0 _
  refine (?_ : Goes p e below s ({ frames := 0, cells := 0, slots := 0, locals := 0 } : Room).cells ({ frames := 0, cells := 0, slots := 0, locals := 0 } : Room).slots (fun v h L => Q5_6 Z x0 nd ky kn kd va0 va1 va2 va3 va4 va5 vb0 vb1 vb2 vb3 vb4 vb5 h0 n0 v h L) (s₁.setTop (entryFrame m #[(.ref x0)] 7)))
  rw [ef_5_6 m x0 nd ky kn kd va0 va1 va2 va3 va4 va5 vb0 vb1 vb2 vb3 vb4 vb5 ]
  show Goes _ _ _ _ _ _ _ (s₁.setTop (mkF m 0 #[.val (.ref x0), .unset, .unset, .unset, .unset, .unset, .unset] []))
  refine Goes.step (fun _ k => XS.aloadN X0.here hx rfl (hb hby d5_0) rfl rfl k) ?_
  obtain ⟨T1, X1, e1, st1⟩ := getF X0 hx hZ hown (host := "") (Or.inl w_14) Via.refl e0 F_nd (g := (mkF m 1 #[.val (.ref x0), .unset, .unset, .unset, .unset, .unset, .unset] [(.ref x0)])) rfl rfl (hb hby d5_1)
  refine Goes.step st1 ?_
  show Goes _ _ _ _ _ _ _ (T1.setTop (mkF m 4 _ [(.ref nd)]))
  refine Goes.step (fun _ k => XS.iconst X1.here hx rfl (hb hby d5_4) k) ?_
  obtain ⟨cl2, Ar2, q2, S2, P2, H2, G2⟩ := id V_nd
  have hin2 : ¬ ((0 : Int32) < 0 ∨ cl2.slots.size ≤ ((0 : Int32)).toNatClampNeg) := inb_of S2 ⟨by decide, by decide⟩
  have hat2 : cl2.slots[((0 : Int32)).toNatClampNeg]? = some (.int va0) := H2 _ (by rw [S2]; decide)
  refine Goes.step (fun _ k => X1.iaload hx (j := (0 : Int32)) (v := (.int va0)) (by rw [e1]; exact Ar2.1) (State.isArrayOf_alike hZ.alike Ar2.2.1) Ar2.2.2 hin2 hat2 (g := (mkF m 5 #[.val (.ref x0), .unset, .unset, .unset, .unset, .unset, .unset] [(.int (0 : Int32)), (.ref nd)])) rfl rfl (hb hby d5_5) _ k) ?_
  show Goes _ _ _ _ _ _ _ (T1.setTop (mkF m 6 _ [(.int va0)]))
  refine Goes.step (fun _ k => XS.istoreN X1.here hx rfl (hb hby d5_6) rfl (l' := #[.val (.ref x0), .val (.int va0), .unset, .unset, .unset, .unset, .unset]) rfl k) ?_
  show Goes _ _ _ _ _ _ _ (T1.setTop (mkF m 7 _ []))
  refine Goes.step (fun _ k => XS.aloadN X1.here hx rfl (hb hby d5_7) rfl rfl k) ?_
  refine Goes.step (fun _ k => XS.dup X1.here hx rfl (hb hby d5_8) rfl rfl k) ?_
  obtain ⟨T3, X3, e3, st3⟩ := getF X1 hx hZ hown (host := "") (Or.inl w_24) Via.refl e1 F_size (g := (mkF m 9 #[.val (.ref x0), .val (.int va0), .unset, .unset, .unset, .unset, .unset] [(.ref x0), (.ref x0)])) rfl rfl (hb hby d5_9)
  refine Goes.step st3 ?_
  show Goes _ _ _ _ _ _ _ (T3.setTop (mkF m 12 _ [(.int (6 : Int32)), (.ref x0)]))
  refine Goes.step (fun _ k => XS.iconst X3.here hx rfl (hb hby d5_12) k) ?_
  refine Goes.step (fun _ k => XS.isub X3.here hx rfl (hb hby d5_13) rfl k) ?_
  show Goes _ _ _ _ _ _ _ (T3.setTop (mkF m 14 _ [(.int (5 : Int32)), (.ref x0)]))
  obtain ⟨T4, h4, X4, e4, W4, st4⟩ := putF X3 hx hZ hown (host := "") (Or.inl w_24) Via.refl e3 F_size E_x0 (Or.inl w_25) w_6 (ty := .int) (by decide) rfl rfl (g := (mkF m 14 #[.val (.ref x0), .val (.int va0), .unset, .unset, .unset, .unset, .unset] [(.int (5 : Int32)), (.ref x0)])) rfl rfl (hb hby d5_14)
  refine Goes.step st4 ?_
  have f5 := F_size.same W4
  have f6 := F_nd.other W4 (Or.inr (slot_ne (Or.inl w_15) (Or.inl w_25) (by decide) (t := (.array .int)) (t' := .int) (by decide) (by decide)))
  have f7 := F_ky.other W4 (Or.inr (slot_ne (Or.inl w_18) (Or.inl w_25) (by decide) (t := (.array .double)) (t' := .int) (by decide) (by decide)))
  have f8 := E_x0.wr W4
  have f9 := V_nd.other W4 (Ne.symm ne1)
  have f10 := V_ky.other W4 (Ne.symm ne2)
  have K11 : Keep h0 h4 [x0, nd, ky] := K0.wr W4 (Or.inl (List.mem_of_getElem? (i := 0) rfl))
  have Z11 : n0 ≤ h4.size := by rw [Wr.size W4]; exact Z0
  have N11 := Fr.snoc X4 N0 g_x0
  show Goes _ _ _ _ _ _ _ (T4.setTop (mkF m 17 _ []))
  refine Goes.step (fun _ k => XS.aloadN X4.here hx rfl (hb hby d5_17) rfl rfl k) ?_
  obtain ⟨T12, X12, e12, st12⟩ := getF X4 hx hZ hown (host := "") (Or.inl w_14) Via.refl e4 f6 (g := (mkF m 18 #[.val (.ref x0), .val (.int va0), .unset, .unset, .unset, .unset, .unset] [(.ref x0)])) rfl rfl (hb hby d5_18)
  refine Goes.step st12 ?_
  show Goes _ _ _ _ _ _ _ (T12.setTop (mkF m 21 #[.val (.ref x0), .val (.int va0), .unset, .unset, .unset, .unset, .unset] [(.ref nd)]))
  refine Goes.step (fun _ k => XS.aloadN X12.here hx rfl (hb hby d5_21) rfl rfl k) ?_
  obtain ⟨T13, X13, e13, st13⟩ := getF X12 hx hZ hown (host := "") (Or.inl w_24) Via.refl e12 f5 (g := (mkF m 22 #[.val (.ref x0), .val (.int va0), .unset, .unset, .unset, .unset, .unset] [(.ref x0), (.ref nd)])) rfl rfl (hb hby d5_22)
  refine Goes.step st13 ?_
  show Goes _ _ _ _ _ _ _ (T13.setTop (mkF m 25 _ [(.int (5 : Int32)), (.ref nd)]))
  obtain ⟨cl14, Ar14, q14, S14, P14, H14, G14⟩ := id f9
  have hin14 : ¬ ((5 : Int32) < 0 ∨ cl14.slots.size ≤ ((5 : Int32)).toNatClampNeg) := inb_of S14 ⟨by decide, by decide⟩
  have hat14 : cl14.slots[((5 : Int32)).toNatClampNeg]? = some (.int va5) := H14 _ (by rw [S14]; decide)
  refine Goes.step (fun _ k => X13.iaload hx (j := (5 : Int32)) (v := (.int va5)) (by rw [e13]; exact Ar14.1) (State.isArrayOf_alike hZ.alike Ar14.2.1) Ar14.2.2 hin14 hat14 (g := (mkF m 25 #[.val (.ref x0), .val (.int va0), .unset, .unset, .unset, .unset, .unset] [(.int (5 : Int32)), (.ref nd)])) rfl rfl (hb hby d5_25) _ k) ?_
  show Goes _ _ _ _ _ _ _ (T13.setTop (mkF m 26 _ [(.int va5)]))
  refine Goes.step (fun _ k => XS.istoreN X13.here hx rfl (hb hby d5_26) rfl (l' := #[.val (.ref x0), .val (.int va0), .val (.int va5), .unset, .unset, .unset, .unset]) rfl k) ?_
  show Goes _ _ _ _ _ _ _ (T13.setTop (mkF m 27 _ []))
  refine Goes.step (fun _ k => XS.aloadN X13.here hx rfl (hb hby d5_27) rfl rfl k) ?_
  obtain ⟨T15, X15, e15, st15⟩ := getF X13 hx hZ hown (host := "") (Or.inl w_17) Via.refl e13 f7 (g := (mkF m 28 #[.val (.ref x0), .val (.int va0), .val (.int va5), .unset, .unset, .unset, .unset] [(.ref x0)])) rfl rfl (hb hby d5_28)
  refine Goes.step st15 ?_
  show Goes _ _ _ _ _ _ _ (T15.setTop (mkF m 31 _ [(.ref ky)]))
  refine Goes.step (fun _ k => XS.aloadN X15.here hx rfl (hb hby d5_31) rfl rfl k) ?_
  obtain ⟨T16, X16, e16, st16⟩ := getF X15 hx hZ hown (host := "") (Or.inl w_24) Via.refl e15 f5 (g := (mkF m 32 #[.val (.ref x0), .val (.int va0), .val (.int va5), .unset, .unset, .unset, .unset] [(.ref x0), (.ref ky)])) rfl rfl (hb hby d5_32)
  refine Goes.step st16 ?_
  show Goes _ _ _ _ _ _ _ (T16.setTop (mkF m 35 _ [(.int (5 : Int32)), (.ref ky)]))
  obtain ⟨cl17, Ar17, q17, S17, P17, H17, G17⟩ := id f10
  have hin17 : ¬ ((5 : Int32) < 0 ∨ cl17.slots.size ≤ ((5 : Int32)).toNatClampNeg) := inb_of S17 ⟨by decide, by decide⟩
  have hat17 : cl17.slots[((5 : Int32)).toNatClampNeg]? = some (.double (FP.i2d vb5)) := H17 _ (by rw [S17]; decide)
  refine Goes.step (fun _ k => X16.daload hx (j := (5 : Int32)) (v := (.double (FP.i2d vb5))) (by rw [e16]; exact Ar17.1) (State.isArrayOf_alike hZ.alike Ar17.2.1) Ar17.2.2 hin17 hat17 (g := (mkF m 35 #[.val (.ref x0), .val (.int va0), .val (.int va5), .unset, .unset, .unset, .unset] [(.int (5 : Int32)), (.ref ky)])) rfl rfl (hb hby d5_35) _ k) ?_
  show Goes _ _ _ _ _ _ _ (T16.setTop (mkF m 36 _ [(.double (FP.i2d vb5))]))
  refine Goes.step (fun _ k => XS.dstoreN X16.here hx rfl (hb hby d5_36) rfl (l' := #[.val (.ref x0), .val (.int va0), .val (.int va5), .val (.double (FP.i2d vb5)), .second, .unset, .unset]) rfl k) ?_
  show Goes _ _ _ _ _ _ _ (T16.setTop (mkF m 37 #[.val (.ref x0), .val (.int va0), .val (.int va5), .val (.double (FP.i2d vb5)), .second, .unset, .unset] []))
  refine Goes.step (fun _ k => XS.iconst X16.here hx rfl (hb hby d5_37) k) ?_
  refine Goes.step (fun _ k => XS.istore X16.here hx rfl (hb hby d5_38) rfl (l' := #[.val (.ref x0), .val (.int va0), .val (.int va5), .val (.double (FP.i2d vb5)), .second, .val (.int (0 : Int32)), .unset]) rfl k) ?_
  show Goes _ _ _ _ _ _ _ (T16.setTop (mkF m 40 _ []))
  refine Goes.step (fun _ k => XS.iconst X16.here hx rfl (hb hby d5_40) k) ?_
  refine Goes.step (fun _ k => XS.istore X16.here hx rfl (hb hby d5_41) rfl (l' := #[.val (.ref x0), .val (.int va0), .val (.int va5), .val (.double (FP.i2d vb5)), .second, .val (.int (0 : Int32)), .val (.int (1 : Int32))]) rfl k) ?_
  show Goes _ _ _ _ _ _ _ (T16.setTop (mkF m 43 _ []))
  refine Goes.step (fun _ k => XS.iload X16.here hx rfl (hb hby d5_43) rfl  k) ?_
  refine Goes.step (fun _ k => XS.aloadN X16.here hx rfl (hb hby d5_45) rfl rfl k) ?_
  obtain ⟨T18, X18, e18, st18⟩ := getF X16 hx hZ hown (host := "") (Or.inl w_24) Via.refl e16 f5 (g := (mkF m 46 #[.val (.ref x0), .val (.int va0), .val (.int va5), .val (.double (FP.i2d vb5)), .second, .val (.int (0 : Int32)), .val (.int (1 : Int32))] [(.ref x0), (.int (1 : Int32))])) rfl rfl (hb hby d5_46)
  refine Goes.step st18 ?_
  show Goes _ _ _ _ _ _ _ (T18.setTop (mkF m 49 _ [(.int (5 : Int32)), (.int (1 : Int32))]))
  refine Goes.step (fun _ k => XS.icmpNo X18.here hx rfl (hb hby d5_49) rfl (tlt (by decide : (1 : Int32) < (5 : Int32))).2.1 k) ?_
  show Goes _ _ _ _ _ _ _ (T18.setTop (mkF m 52 _ []))
  refine Goes.step (fun _ k => XS.iload X18.here hx rfl (hb hby d5_52) rfl  k) ?_
  refine Goes.step (fun _ k => XS.iconst X18.here hx rfl (hb hby d5_54) k) ?_
  refine Goes.step (fun _ k => XS.iadd X18.here hx rfl (hb hby d5_55) rfl k) ?_
  show Goes _ _ _ _ _ _ _ (T18.setTop (mkF m 56 _ [(.int (2 : Int32))]))
  refine Goes.step (fun _ k => XS.aloadN X18.here hx rfl (hb hby d5_56) rfl rfl k) ?_
  obtain ⟨T19, X19, e19, st19⟩ := getF X18 hx hZ hown (host := "") (Or.inl w_24) Via.refl e18 f5 (g := (mkF m 57 #[.val (.ref x0), .val (.int va0), .val (.int va5), .val (.double (FP.i2d vb5)), .second, .val (.int (0 : Int32)), .val (.int (1 : Int32))] [(.ref x0), (.int (2 : Int32))])) rfl rfl (hb hby d5_57)
  refine Goes.step st19 ?_
  show Goes _ _ _ _ _ _ _ (T19.setTop (mkF m 60 _ [(.int (5 : Int32)), (.int (2 : Int32))]))
  refine Goes.step (fun _ k => XS.icmpNo X19.here hx rfl (hb hby d5_60) rfl (tlt (by decide : (2 : Int32) < (5 : Int32))).2.1 k) ?_
  show Goes _ _ _ _ _ _ _ (T19.setTop (mkF m 63 #[.val (.ref x0), .val (.int va0), .val (.int va5), .val (.double (FP.i2d vb5)), .second, .val (.int (0 : Int32)), .val (.int (1 : Int32))] []))
  refine Goes.step (fun _ k => XS.aloadN X19.here hx rfl (hb hby d5_63) rfl rfl k) ?_
  obtain ⟨T20, X20, e20, st20⟩ := getF X19 hx hZ hown (host := "") (Or.inl w_17) Via.refl e19 f7 (g := (mkF m 64 #[.val (.ref x0), .val (.int va0), .val (.int va5), .val (.double (FP.i2d vb5)), .second, .val (.int (0 : Int32)), .val (.int (1 : Int32))] [(.ref x0)])) rfl rfl (hb hby d5_64)
  refine Goes.step st20 ?_
  show Goes _ _ _ _ _ _ _ (T20.setTop (mkF m 67 _ [(.ref ky)]))
  refine Goes.step (fun _ k => XS.iload X20.here hx rfl (hb hby d5_67) rfl  k) ?_
  refine Goes.step (fun _ k => XS.iconst X20.here hx rfl (hb hby d5_69) k) ?_
  refine Goes.step (fun _ k => XS.iadd X20.here hx rfl (hb hby d5_70) rfl k) ?_
  show Goes _ _ _ _ _ _ _ (T20.setTop (mkF m 71 _ [(.int (2 : Int32)), (.ref ky)]))
  obtain ⟨cl21, Ar21, q21, S21, P21, H21, G21⟩ := id f10
  have hin21 : ¬ ((2 : Int32) < 0 ∨ cl21.slots.size ≤ ((2 : Int32)).toNatClampNeg) := inb_of S21 ⟨by decide, by decide⟩
  have hat21 : cl21.slots[((2 : Int32)).toNatClampNeg]? = some (.double (FP.i2d vb2)) := H21 _ (by rw [S21]; decide)
  refine Goes.step (fun _ k => X20.daload hx (j := (2 : Int32)) (v := (.double (FP.i2d vb2))) (by rw [e20]; exact Ar21.1) (State.isArrayOf_alike hZ.alike Ar21.2.1) Ar21.2.2 hin21 hat21 (g := (mkF m 71 #[.val (.ref x0), .val (.int va0), .val (.int va5), .val (.double (FP.i2d vb5)), .second, .val (.int (0 : Int32)), .val (.int (1 : Int32))] [(.int (2 : Int32)), (.ref ky)])) rfl rfl (hb hby d5_71) _ k) ?_
  show Goes _ _ _ _ _ _ _ (T20.setTop (mkF m 72 _ [(.double (FP.i2d vb2))]))
  refine Goes.step (fun _ k => XS.aloadN X20.here hx rfl (hb hby d5_72) rfl rfl k) ?_
  obtain ⟨T22, X22, e22, st22⟩ := getF X20 hx hZ hown (host := "") (Or.inl w_17) Via.refl e20 f7 (g := (mkF m 73 #[.val (.ref x0), .val (.int va0), .val (.int va5), .val (.double (FP.i2d vb5)), .second, .val (.int (0 : Int32)), .val (.int (1 : Int32))] [(.ref x0), (.double (FP.i2d vb2))])) rfl rfl (hb hby d5_73)
  refine Goes.step st22 ?_
  show Goes _ _ _ _ _ _ _ (T22.setTop (mkF m 76 _ [(.ref ky), (.double (FP.i2d vb2))]))
  refine Goes.step (fun _ k => XS.iload X22.here hx rfl (hb hby d5_76) rfl  k) ?_
  obtain ⟨cl23, Ar23, q23, S23, P23, H23, G23⟩ := id f10
  have hin23 : ¬ ((1 : Int32) < 0 ∨ cl23.slots.size ≤ ((1 : Int32)).toNatClampNeg) := inb_of S23 ⟨by decide, by decide⟩
  have hat23 : cl23.slots[((1 : Int32)).toNatClampNeg]? = some (.double (FP.i2d vb1)) := H23 _ (by rw [S23]; decide)
  refine Goes.step (fun _ k => X22.daload hx (j := (1 : Int32)) (v := (.double (FP.i2d vb1))) (by rw [e22]; exact Ar23.1) (State.isArrayOf_alike hZ.alike Ar23.2.1) Ar23.2.2 hin23 hat23 (g := (mkF m 78 #[.val (.ref x0), .val (.int va0), .val (.int va5), .val (.double (FP.i2d vb5)), .second, .val (.int (0 : Int32)), .val (.int (1 : Int32))] [(.int (1 : Int32)), (.ref ky), (.double (FP.i2d vb2))])) rfl rfl (hb hby d5_78) _ k) ?_
  show Goes _ _ _ _ _ _ _ (T22.setTop (mkF m 79 _ [(.double (FP.i2d vb1)), (.double (FP.i2d vb2))]))
  refine Goes.step (fun _ k => XS.dcmpS X22.here hx rfl (hb hby d5_79) rfl rfl k) ?_
  show Goes _ _ _ _ _ _ _ (T22.setTop (mkF m 80 _ [(.int (cmpValue (FP.dcmp (FP.i2d vb2) (FP.i2d vb1)) .g))]))
  by_cases c80_24 : vb2 < vb1
  · refine Goes.step (fun _ k => XS.ifNo X22.here hx rfl (hb hby d5_80) rfl ((if0 _ _).trans (tlt ((own_dlt _ _ _).mpr c80_24)).2.1) k) ?_
    show Goes _ _ _ _ _ _ _ (T22.setTop (mkF m 83 #[.val (.ref x0), .val (.int va0), .val (.int va5), .val (.double (FP.i2d vb5)), .second, .val (.int (0 : Int32)), .val (.int (1 : Int32))] []))
    refine Goes.step (fun _ k => XS.iinc X22.here hx rfl (hb hby d5_83) rfl (l' := #[.val (.ref x0), .val (.int va0), .val (.int va5), .val (.double (FP.i2d vb5)), .second, .val (.int (0 : Int32)), .val (.int (2 : Int32))]) rfl k) ?_
    show Goes _ _ _ _ _ _ _ (T22.setTop (mkF m 86 _ []))
    refine Goes.step (fun _ k => XS.aloadN X22.here hx rfl (hb hby d5_86) rfl rfl k) ?_
    obtain ⟨T25, X25, e25, st25⟩ := getF X22 hx hZ hown (host := "") (Or.inl w_17) Via.refl e22 f7 (g := (mkF m 87 #[.val (.ref x0), .val (.int va0), .val (.int va5), .val (.double (FP.i2d vb5)), .second, .val (.int (0 : Int32)), .val (.int (2 : Int32))] [(.ref x0)])) rfl rfl (hb hby d5_87)
    refine Goes.step st25 ?_
    show Goes _ _ _ _ _ _ _ (T25.setTop (mkF m 90 _ [(.ref ky)]))
    refine Goes.step (fun _ k => XS.iload X25.here hx rfl (hb hby d5_90) rfl  k) ?_
    obtain ⟨cl26, Ar26, q26, S26, P26, H26, G26⟩ := id f10
    have hin26 : ¬ ((2 : Int32) < 0 ∨ cl26.slots.size ≤ ((2 : Int32)).toNatClampNeg) := inb_of S26 ⟨by decide, by decide⟩
    have hat26 : cl26.slots[((2 : Int32)).toNatClampNeg]? = some (.double (FP.i2d vb2)) := H26 _ (by rw [S26]; decide)
    refine Goes.step (fun _ k => X25.daload hx (j := (2 : Int32)) (v := (.double (FP.i2d vb2))) (by rw [e25]; exact Ar26.1) (State.isArrayOf_alike hZ.alike Ar26.2.1) Ar26.2.2 hin26 hat26 (g := (mkF m 92 #[.val (.ref x0), .val (.int va0), .val (.int va5), .val (.double (FP.i2d vb5)), .second, .val (.int (0 : Int32)), .val (.int (2 : Int32))] [(.int (2 : Int32)), (.ref ky)])) rfl rfl (hb hby d5_92) _ k) ?_
    show Goes _ _ _ _ _ _ _ (T25.setTop (mkF m 93 _ [(.double (FP.i2d vb2))]))
    refine Goes.step (fun _ k => XS.dloadN X25.here hx rfl (hb hby d5_93) rfl k) ?_
    refine Goes.step (fun _ k => XS.dcmpS X25.here hx rfl (hb hby d5_94) rfl rfl k) ?_
    show Goes _ _ _ _ _ _ _ (T25.setTop (mkF m 95 _ [(.int (cmpValue (FP.dcmp (FP.i2d vb2) (FP.i2d vb5)) .l))]))
    by_cases c95_27 : vb2 < vb5
    · refine Goes.step (fun _ k => XS.ifYes X25.here hx rfl (pc0 := 95) (pc' := 101) rfl (hb hby d5_95) rfl ((if0 _ _).trans (tlt ((own_dlt _ _ _).mpr c95_27)).1) (by decide) (by decide) k) ?_
      show Goes _ _ _ _ _ _ _ (T25.setTop (mkF m 101 _ []))
      refine Goes.step (fun _ k => XS.aloadN X25.here hx rfl (hb hby d5_101) rfl rfl k) ?_
      obtain ⟨T28, X28, e28, st28⟩ := getF X25 hx hZ hown (host := "") (Or.inl w_14) Via.refl e25 f6 (g := (mkF m 102 #[.val (.ref x0), .val (.int va0), .val (.int va5), .val (.double (FP.i2d vb5)), .second, .val (.int (0 : Int32)), .val (.int (2 : Int32))] [(.ref x0)])) rfl rfl (hb hby d5_102)
      refine Goes.step st28 ?_
      show Goes _ _ _ _ _ _ _ (T28.setTop (mkF m 105 _ [(.ref nd)]))
      refine Goes.step (fun _ k => XS.iload X28.here hx rfl (hb hby d5_105) rfl  k) ?_
      refine Goes.step (fun _ k => XS.aloadN X28.here hx rfl (hb hby d5_107) rfl rfl k) ?_
      obtain ⟨T29, X29, e29, st29⟩ := getF X28 hx hZ hown (host := "") (Or.inl w_14) Via.refl e28 f6 (g := (mkF m 108 #[.val (.ref x0), .val (.int va0), .val (.int va5), .val (.double (FP.i2d vb5)), .second, .val (.int (0 : Int32)), .val (.int (2 : Int32))] [(.ref x0), (.int (0 : Int32)), (.ref nd)])) rfl rfl (hb hby d5_108)
      refine Goes.step st29 ?_
      show Goes _ _ _ _ _ _ _ (T29.setTop (mkF m 111 #[.val (.ref x0), .val (.int va0), .val (.int va5), .val (.double (FP.i2d vb5)), .second, .val (.int (0 : Int32)), .val (.int (2 : Int32))] [(.ref nd), (.int (0 : Int32)), (.ref nd)]))
      refine Goes.step (fun _ k => XS.iload X29.here hx rfl (hb hby d5_111) rfl  k) ?_
      obtain ⟨cl30, Ar30, q30, S30, P30, H30, G30⟩ := id f9
      have hin30 : ¬ ((2 : Int32) < 0 ∨ cl30.slots.size ≤ ((2 : Int32)).toNatClampNeg) := inb_of S30 ⟨by decide, by decide⟩
      have hat30 : cl30.slots[((2 : Int32)).toNatClampNeg]? = some (.int va2) := H30 _ (by rw [S30]; decide)
      refine Goes.step (fun _ k => X29.iaload hx (j := (2 : Int32)) (v := (.int va2)) (by rw [e29]; exact Ar30.1) (State.isArrayOf_alike hZ.alike Ar30.2.1) Ar30.2.2 hin30 hat30 (g := (mkF m 113 #[.val (.ref x0), .val (.int va0), .val (.int va5), .val (.double (FP.i2d vb5)), .second, .val (.int (0 : Int32)), .val (.int (2 : Int32))] [(.int (2 : Int32)), (.ref nd), (.int (0 : Int32)), (.ref nd)])) rfl rfl (hb hby d5_113) _ k) ?_
      show Goes _ _ _ _ _ _ _ (T29.setTop (mkF m 114 _ [(.int va2), (.int (0 : Int32)), (.ref nd)]))
      obtain ⟨cl31, Ar31, q31, S31, P31, H31, G31⟩ := id f9
      have hin31 : ¬ ((0 : Int32) < 0 ∨ cl31.slots.size ≤ ((0 : Int32)).toNatClampNeg) := inb_of S31 ⟨by decide, by decide⟩
      obtain ⟨T32, h32, X32, e32, W32, st32⟩ := stI X29 hx hZ e29 Ar31 (j := (0 : Int32)) hin31 (g := (mkF m 114 #[.val (.ref x0), .val (.int va0), .val (.int va5), .val (.double (FP.i2d vb5)), .second, .val (.int (0 : Int32)), .val (.int (2 : Int32))] [(.int va2), (.int (0 : Int32)), (.ref nd)])) rfl rfl (hb hby d5_114)
      refine Goes.step st32 ?_
      have V32 := Arv.set Ar31 q31 S31 P31 H31 G31 rfl W32 0 rfl (Nat.le_of_ble_eq_true rfl)
      have f33 := f5.other W32 (Or.inl ne1)
      have f34 := f6.other W32 (Or.inl ne1)
      have f35 := f7.other W32 (Or.inl ne1)
      have f36 := f8.wr W32
      have f37 := V32
      have f38 := f10.other W32 (Ne.symm ne3)
      have K39 : Keep h0 h32 [x0, nd, ky] := K11.wr W32 (Or.inl (List.mem_of_getElem? (i := 1) rfl))
      have Z39 : n0 ≤ h32.size := by rw [Wr.size W32]; exact Z11
      have N39 := Fr.snoc X32 N11 g_nd
      show Goes _ _ _ _ _ _ _ (T32.setTop (mkF m 115 _ []))
      refine Goes.step (fun _ k => XS.aloadN X32.here hx rfl (hb hby d5_115) rfl rfl k) ?_
      obtain ⟨T40, X40, e40, st40⟩ := getF X32 hx hZ hown (host := "") (Or.inl w_17) Via.refl e32 f35 (g := (mkF m 116 #[.val (.ref x0), .val (.int va0), .val (.int va5), .val (.double (FP.i2d vb5)), .second, .val (.int (0 : Int32)), .val (.int (2 : Int32))] [(.ref x0)])) rfl rfl (hb hby d5_116)
      refine Goes.step st40 ?_
      show Goes _ _ _ _ _ _ _ (T40.setTop (mkF m 119 _ [(.ref ky)]))
      refine Goes.step (fun _ k => XS.iload X40.here hx rfl (hb hby d5_119) rfl  k) ?_
      refine Goes.step (fun _ k => XS.aloadN X40.here hx rfl (hb hby d5_121) rfl rfl k) ?_
      obtain ⟨T41, X41, e41, st41⟩ := getF X40 hx hZ hown (host := "") (Or.inl w_17) Via.refl e40 f35 (g := (mkF m 122 #[.val (.ref x0), .val (.int va0), .val (.int va5), .val (.double (FP.i2d vb5)), .second, .val (.int (0 : Int32)), .val (.int (2 : Int32))] [(.ref x0), (.int (0 : Int32)), (.ref ky)])) rfl rfl (hb hby d5_122)
      refine Goes.step st41 ?_
      show Goes _ _ _ _ _ _ _ (T41.setTop (mkF m 125 _ [(.ref ky), (.int (0 : Int32)), (.ref ky)]))
      refine Goes.step (fun _ k => XS.iload X41.here hx rfl (hb hby d5_125) rfl  k) ?_
      obtain ⟨cl42, Ar42, q42, S42, P42, H42, G42⟩ := id f38
      have hin42 : ¬ ((2 : Int32) < 0 ∨ cl42.slots.size ≤ ((2 : Int32)).toNatClampNeg) := inb_of S42 ⟨by decide, by decide⟩
      have hat42 : cl42.slots[((2 : Int32)).toNatClampNeg]? = some (.double (FP.i2d vb2)) := H42 _ (by rw [S42]; decide)
      refine Goes.step (fun _ k => X41.daload hx (j := (2 : Int32)) (v := (.double (FP.i2d vb2))) (by rw [e41]; exact Ar42.1) (State.isArrayOf_alike hZ.alike Ar42.2.1) Ar42.2.2 hin42 hat42 (g := (mkF m 127 #[.val (.ref x0), .val (.int va0), .val (.int va5), .val (.double (FP.i2d vb5)), .second, .val (.int (0 : Int32)), .val (.int (2 : Int32))] [(.int (2 : Int32)), (.ref ky), (.int (0 : Int32)), (.ref ky)])) rfl rfl (hb hby d5_127) _ k) ?_
      show Goes _ _ _ _ _ _ _ (T41.setTop (mkF m 128 _ [(.double (FP.i2d vb2)), (.int (0 : Int32)), (.ref ky)]))
      obtain ⟨cl43, Ar43, q43, S43, P43, H43, G43⟩ := id f38
      have hin43 : ¬ ((0 : Int32) < 0 ∨ cl43.slots.size ≤ ((0 : Int32)).toNatClampNeg) := inb_of S43 ⟨by decide, by decide⟩
      obtain ⟨T44, h44, X44, e44, W44, st44⟩ := stD X41 hx hZ e41 Ar43 (j := (0 : Int32)) hin43 (g := (mkF m 128 #[.val (.ref x0), .val (.int va0), .val (.int va5), .val (.double (FP.i2d vb5)), .second, .val (.int (0 : Int32)), .val (.int (2 : Int32))] [(.double (FP.i2d vb2)), (.int (0 : Int32)), (.ref ky)])) rfl rfl (hb hby d5_128)
      refine Goes.step st44 ?_
      have V44 := Arv.set Ar43 q43 S43 P43 H43 G43 rfl W44 0 rfl (Nat.le_of_ble_eq_true rfl)
      have f45 := f33.other W44 (Or.inl ne2)
      have f46 := f34.other W44 (Or.inl ne2)
      have f47 := f35.other W44 (Or.inl ne2)
      have f48 := f36.wr W44
      have f49 := f37.other W44 ne3
      have f50 := V44
      have K51 : Keep h0 h44 [x0, nd, ky] := K39.wr W44 (Or.inl (List.mem_of_getElem? (i := 2) rfl))
      have Z51 : n0 ≤ h44.size := by rw [Wr.size W44]; exact Z39
      have N51 := Fr.snoc X44 N39 g_ky
      show Goes _ _ _ _ _ _ _ (T44.setTop (mkF m 129 _ []))
      refine Goes.step (fun _ k => XS.iload X44.here hx rfl (hb hby d5_129) rfl  k) ?_
      refine Goes.step (fun _ k => XS.istore X44.here hx rfl (hb hby d5_131) rfl (l' := #[.val (.ref x0), .val (.int va0), .val (.int va5), .val (.double (FP.i2d vb5)), .second, .val (.int (2 : Int32)), .val (.int (2 : Int32))]) rfl k) ?_
      show Goes _ _ _ _ _ _ _ (T44.setTop (mkF m 133 #[.val (.ref x0), .val (.int va0), .val (.int va5), .val (.double (FP.i2d vb5)), .second, .val (.int (2 : Int32)), .val (.int (2 : Int32))] []))
      refine Goes.step (fun _ k => XS.iconst X44.here hx rfl (hb hby d5_133) k) ?_
      refine Goes.step (fun _ k => XS.iload X44.here hx rfl (hb hby d5_134) rfl  k) ?_
      refine Goes.step (fun _ k => XS.imul X44.here hx rfl (hb hby d5_136) rfl k) ?_
      show Goes _ _ _ _ _ _ _ (T44.setTop (mkF m 137 _ [(.int (4 : Int32))]))
      refine Goes.step (fun _ k => XS.iconst X44.here hx rfl (hb hby d5_137) k) ?_
      refine Goes.step (fun _ k => XS.iadd X44.here hx rfl (hb hby d5_138) rfl k) ?_
      show Goes _ _ _ _ _ _ _ (T44.setTop (mkF m 139 _ [(.int (5 : Int32))]))
      refine Goes.step (fun _ k => XS.istore X44.here hx rfl (hb hby d5_139) rfl (l' := #[.val (.ref x0), .val (.int va0), .val (.int va5), .val (.double (FP.i2d vb5)), .second, .val (.int (2 : Int32)), .val (.int (5 : Int32))]) rfl k) ?_
      show Goes _ _ _ _ _ _ _ (T44.setTop (mkF m 141 _ []))
      refine Goes.step (fun _ k => XS.goto X44.here hx rfl (pc0 := 141) (pc' := 43) rfl (hb hby d5_141) (by decide) (by decide) k) ?_
      show Goes _ _ _ _ _ _ _ (T44.setTop (mkF m 43 _ []))
      refine Goes.step (fun _ k => XS.iload X44.here hx rfl (hb hby d5_43) rfl  k) ?_
      refine Goes.step (fun _ k => XS.aloadN X44.here hx rfl (hb hby d5_45) rfl rfl k) ?_
      obtain ⟨T52, X52, e52, st52⟩ := getF X44 hx hZ hown (host := "") (Or.inl w_24) Via.refl e44 f45 (g := (mkF m 46 #[.val (.ref x0), .val (.int va0), .val (.int va5), .val (.double (FP.i2d vb5)), .second, .val (.int (2 : Int32)), .val (.int (5 : Int32))] [(.ref x0), (.int (5 : Int32))])) rfl rfl (hb hby d5_46)
      refine Goes.step st52 ?_
      show Goes _ _ _ _ _ _ _ (T52.setTop (mkF m 49 _ [(.int (5 : Int32)), (.int (5 : Int32))]))
      refine Goes.step (fun _ k => XS.icmpYes X52.here hx rfl (pc0 := 49) (pc' := 144) rfl (hb hby d5_49) rfl (flt (by decide : ¬ ((5 : Int32) < (5 : Int32)))).2.1 (by decide) (by decide) k) ?_
      show Goes _ _ _ _ _ _ _ (T52.setTop (mkF m 144 _ []))
      refine Goes.step (fun _ k => XS.aloadN X52.here hx rfl (hb hby d5_144) rfl rfl k) ?_
      obtain ⟨T53, X53, e53, st53⟩ := getF X52 hx hZ hown (host := "") (Or.inl w_14) Via.refl e52 f46 (g := (mkF m 145 #[.val (.ref x0), .val (.int va0), .val (.int va5), .val (.double (FP.i2d vb5)), .second, .val (.int (2 : Int32)), .val (.int (5 : Int32))] [(.ref x0)])) rfl rfl (hb hby d5_145)
      refine Goes.step st53 ?_
      show Goes _ _ _ _ _ _ _ (T53.setTop (mkF m 148 #[.val (.ref x0), .val (.int va0), .val (.int va5), .val (.double (FP.i2d vb5)), .second, .val (.int (2 : Int32)), .val (.int (5 : Int32))] [(.ref nd)]))
      refine Goes.step (fun _ k => XS.iload X53.here hx rfl (hb hby d5_148) rfl  k) ?_
      refine Goes.step (fun _ k => XS.iloadN X53.here hx rfl (hb hby d5_150) rfl  k) ?_
      obtain ⟨cl54, Ar54, q54, S54, P54, H54, G54⟩ := id f49
      have hin54 : ¬ ((2 : Int32) < 0 ∨ cl54.slots.size ≤ ((2 : Int32)).toNatClampNeg) := inb_of S54 ⟨by decide, by decide⟩
      obtain ⟨T55, h55, X55, e55, W55, st55⟩ := stI X53 hx hZ e53 Ar54 (j := (2 : Int32)) hin54 (g := (mkF m 151 #[.val (.ref x0), .val (.int va0), .val (.int va5), .val (.double (FP.i2d vb5)), .second, .val (.int (2 : Int32)), .val (.int (5 : Int32))] [(.int va5), (.int (2 : Int32)), (.ref nd)])) rfl rfl (hb hby d5_151)
      refine Goes.step st55 ?_
      have V55 := Arv.set Ar54 q54 S54 P54 H54 G54 rfl W55 2 rfl (Nat.le_of_ble_eq_true rfl)
      have f56 := f45.other W55 (Or.inl ne1)
      have f57 := f46.other W55 (Or.inl ne1)
      have f58 := f47.other W55 (Or.inl ne1)
      have f59 := f48.wr W55
      have f60 := V55
      have f61 := f50.other W55 (Ne.symm ne3)
      have K62 : Keep h0 h55 [x0, nd, ky] := K51.wr W55 (Or.inl (List.mem_of_getElem? (i := 1) rfl))
      have Z62 : n0 ≤ h55.size := by rw [Wr.size W55]; exact Z51
      have N62 := Fr.snoc X55 N51 g_nd
      show Goes _ _ _ _ _ _ _ (T55.setTop (mkF m 152 _ []))
      refine Goes.step (fun _ k => XS.aloadN X55.here hx rfl (hb hby d5_152) rfl rfl k) ?_
      obtain ⟨T63, X63, e63, st63⟩ := getF X55 hx hZ hown (host := "") (Or.inl w_17) Via.refl e55 f58 (g := (mkF m 153 #[.val (.ref x0), .val (.int va0), .val (.int va5), .val (.double (FP.i2d vb5)), .second, .val (.int (2 : Int32)), .val (.int (5 : Int32))] [(.ref x0)])) rfl rfl (hb hby d5_153)
      refine Goes.step st63 ?_
      show Goes _ _ _ _ _ _ _ (T63.setTop (mkF m 156 _ [(.ref ky)]))
      refine Goes.step (fun _ k => XS.iload X63.here hx rfl (hb hby d5_156) rfl  k) ?_
      refine Goes.step (fun _ k => XS.dloadN X63.here hx rfl (hb hby d5_158) rfl k) ?_
      obtain ⟨cl64, Ar64, q64, S64, P64, H64, G64⟩ := id f61
      have hin64 : ¬ ((2 : Int32) < 0 ∨ cl64.slots.size ≤ ((2 : Int32)).toNatClampNeg) := inb_of S64 ⟨by decide, by decide⟩
      obtain ⟨T65, h65, X65, e65, W65, st65⟩ := stD X63 hx hZ e63 Ar64 (j := (2 : Int32)) hin64 (g := (mkF m 159 #[.val (.ref x0), .val (.int va0), .val (.int va5), .val (.double (FP.i2d vb5)), .second, .val (.int (2 : Int32)), .val (.int (5 : Int32))] [(.double (FP.i2d vb5)), (.int (2 : Int32)), (.ref ky)])) rfl rfl (hb hby d5_159)
      refine Goes.step st65 ?_
      have V65 := Arv.set Ar64 q64 S64 P64 H64 G64 rfl W65 2 rfl (Nat.le_of_ble_eq_true rfl)
      have f66 := f56.other W65 (Or.inl ne2)
      have f67 := f57.other W65 (Or.inl ne2)
      have f68 := f58.other W65 (Or.inl ne2)
      have f69 := f59.wr W65
      have f70 := f60.other W65 ne3
      have f71 := V65
      have K72 : Keep h0 h65 [x0, nd, ky] := K62.wr W65 (Or.inl (List.mem_of_getElem? (i := 2) rfl))
      have Z72 : n0 ≤ h65.size := by rw [Wr.size W65]; exact Z62
      have N72 := Fr.snoc X65 N62 g_ky
      show Goes _ _ _ _ _ _ _ (T65.setTop (mkF m 160 _ []))
      refine Goes.step (fun _ k => XS.iloadN X65.here hx rfl (hb hby d5_160) rfl  k) ?_
      have ph0 := own_l c80_24
      have ph1 := own_l c95_27
      exact Goes.ret X65 hx (BodyLoose.notSynchronized Bd) Bd.returns rfl (Or.inl ⟨rfl, by simp, _, rfl⟩) (hb hby d5_161) (by show Q5_6 Z x0 nd ky kn kd va0 va1 va2 va3 va4 va5 vb0 vb1 vb2 vb3 vb4 vb5 h0 n0 (some (.int va0)) T65.heap _; rw [e65]; exact ⟨N72, K72, rfl, f66, f67, f68, va2, va1, va5, va3, va4, va5, vb2, vb1, vb5, vb3, vb4, vb5, f70, f71, (List.Perm.map (fun i => ([(va1, vb1), (va2, vb2), (va3, vb3), (va4, vb4), (va5, vb5)] : List (Int32 × Int32)).getD i (0, 0)) (by decide : ([1, 0, 4, 2, 3] : List Nat).Perm [0, 1, 2, 3, 4])), by omega, by omega, by omega, by omega, by omega⟩) (by decide) (by decide)
    · refine Goes.step (fun _ k => XS.ifNo X25.here hx rfl (hb hby d5_95) rfl ((if0 _ _).trans (flt (fun q => c95_27 ((own_dlt _ _ _).mp q))).1) k) ?_
      show Goes _ _ _ _ _ _ _ (T25.setTop (mkF m 98 _ []))
      refine Goes.step (fun _ k => XS.goto X25.here hx rfl (pc0 := 98) (pc' := 144) rfl (hb hby d5_98) (by decide) (by decide) k) ?_
      show Goes _ _ _ _ _ _ _ (T25.setTop (mkF m 144 _ []))
      refine Goes.step (fun _ k => XS.aloadN X25.here hx rfl (hb hby d5_144) rfl rfl k) ?_
      obtain ⟨T73, X73, e73, st73⟩ := getF X25 hx hZ hown (host := "") (Or.inl w_14) Via.refl e25 f6 (g := (mkF m 145 #[.val (.ref x0), .val (.int va0), .val (.int va5), .val (.double (FP.i2d vb5)), .second, .val (.int (0 : Int32)), .val (.int (2 : Int32))] [(.ref x0)])) rfl rfl (hb hby d5_145)
      refine Goes.step st73 ?_
      show Goes _ _ _ _ _ _ _ (T73.setTop (mkF m 148 #[.val (.ref x0), .val (.int va0), .val (.int va5), .val (.double (FP.i2d vb5)), .second, .val (.int (0 : Int32)), .val (.int (2 : Int32))] [(.ref nd)]))
      refine Goes.step (fun _ k => XS.iload X73.here hx rfl (hb hby d5_148) rfl  k) ?_
      refine Goes.step (fun _ k => XS.iloadN X73.here hx rfl (hb hby d5_150) rfl  k) ?_
      obtain ⟨cl74, Ar74, q74, S74, P74, H74, G74⟩ := id f9
      have hin74 : ¬ ((0 : Int32) < 0 ∨ cl74.slots.size ≤ ((0 : Int32)).toNatClampNeg) := inb_of S74 ⟨by decide, by decide⟩
      obtain ⟨T75, h75, X75, e75, W75, st75⟩ := stI X73 hx hZ e73 Ar74 (j := (0 : Int32)) hin74 (g := (mkF m 151 #[.val (.ref x0), .val (.int va0), .val (.int va5), .val (.double (FP.i2d vb5)), .second, .val (.int (0 : Int32)), .val (.int (2 : Int32))] [(.int va5), (.int (0 : Int32)), (.ref nd)])) rfl rfl (hb hby d5_151)
      refine Goes.step st75 ?_
      have V75 := Arv.set Ar74 q74 S74 P74 H74 G74 rfl W75 0 rfl (Nat.le_of_ble_eq_true rfl)
      have f76 := f5.other W75 (Or.inl ne1)
      have f77 := f6.other W75 (Or.inl ne1)
      have f78 := f7.other W75 (Or.inl ne1)
      have f79 := f8.wr W75
      have f80 := V75
      have f81 := f10.other W75 (Ne.symm ne3)
      have K82 : Keep h0 h75 [x0, nd, ky] := K11.wr W75 (Or.inl (List.mem_of_getElem? (i := 1) rfl))
      have Z82 : n0 ≤ h75.size := by rw [Wr.size W75]; exact Z11
      have N82 := Fr.snoc X75 N11 g_nd
      show Goes _ _ _ _ _ _ _ (T75.setTop (mkF m 152 _ []))
      refine Goes.step (fun _ k => XS.aloadN X75.here hx rfl (hb hby d5_152) rfl rfl k) ?_
      obtain ⟨T83, X83, e83, st83⟩ := getF X75 hx hZ hown (host := "") (Or.inl w_17) Via.refl e75 f78 (g := (mkF m 153 #[.val (.ref x0), .val (.int va0), .val (.int va5), .val (.double (FP.i2d vb5)), .second, .val (.int (0 : Int32)), .val (.int (2 : Int32))] [(.ref x0)])) rfl rfl (hb hby d5_153)
      refine Goes.step st83 ?_
      show Goes _ _ _ _ _ _ _ (T83.setTop (mkF m 156 _ [(.ref ky)]))
      refine Goes.step (fun _ k => XS.iload X83.here hx rfl (hb hby d5_156) rfl  k) ?_
      refine Goes.step (fun _ k => XS.dloadN X83.here hx rfl (hb hby d5_158) rfl k) ?_
      obtain ⟨cl84, Ar84, q84, S84, P84, H84, G84⟩ := id f81
      have hin84 : ¬ ((0 : Int32) < 0 ∨ cl84.slots.size ≤ ((0 : Int32)).toNatClampNeg) := inb_of S84 ⟨by decide, by decide⟩
      obtain ⟨T85, h85, X85, e85, W85, st85⟩ := stD X83 hx hZ e83 Ar84 (j := (0 : Int32)) hin84 (g := (mkF m 159 #[.val (.ref x0), .val (.int va0), .val (.int va5), .val (.double (FP.i2d vb5)), .second, .val (.int (0 : Int32)), .val (.int (2 : Int32))] [(.double (FP.i2d vb5)), (.int (0 : Int32)), (.ref ky)])) rfl rfl (hb hby d5_159)
      refine Goes.step st85 ?_
      have V85 := Arv.set Ar84 q84 S84 P84 H84 G84 rfl W85 0 rfl (Nat.le_of_ble_eq_true rfl)
      have f86 := f76.other W85 (Or.inl ne2)
      have f87 := f77.other W85 (Or.inl ne2)
      have f88 := f78.other W85 (Or.inl ne2)
      have f89 := f79.wr W85
      have f90 := f80.other W85 ne3
      have f91 := V85
      have K92 : Keep h0 h85 [x0, nd, ky] := K82.wr W85 (Or.inl (List.mem_of_getElem? (i := 2) rfl))
      have Z92 : n0 ≤ h85.size := by rw [Wr.size W85]; exact Z82
      have N92 := Fr.snoc X85 N82 g_ky
      show Goes _ _ _ _ _ _ _ (T85.setTop (mkF m 160 _ []))
      refine Goes.step (fun _ k => XS.iloadN X85.here hx rfl (hb hby d5_160) rfl  k) ?_
      have ph0 := own_l c80_24
      have ph1 := own_nl c95_27
      exact Goes.ret X85 hx (BodyLoose.notSynchronized Bd) Bd.returns rfl (Or.inl ⟨rfl, by simp, _, rfl⟩) (hb hby d5_161) (by show Q5_6 Z x0 nd ky kn kd va0 va1 va2 va3 va4 va5 vb0 vb1 vb2 vb3 vb4 vb5 h0 n0 (some (.int va0)) T85.heap _; rw [e85]; exact ⟨N92, K92, rfl, f86, f87, f88, va5, va1, va2, va3, va4, va5, vb5, vb1, vb2, vb3, vb4, vb5, f90, f91, (List.Perm.map (fun i => ([(va1, vb1), (va2, vb2), (va3, vb3), (va4, vb4), (va5, vb5)] : List (Int32 × Int32)).getD i (0, 0)) (by decide : ([4, 0, 1, 2, 3] : List Nat).Perm [0, 1, 2, 3, 4])), by omega, by omega, by omega, by omega, by omega⟩) (by decide) (by decide)
  · refine Goes.step (fun _ k => XS.ifYes X22.here hx rfl (pc0 := 80) (pc' := 86) rfl (hb hby d5_80) rfl ((if0 _ _).trans (flt (fun q => c80_24 ((own_dlt _ _ _).mp q))).2.1) (by decide) (by decide) k) ?_
    show Goes _ _ _ _ _ _ _ (T22.setTop (mkF m 86 #[.val (.ref x0), .val (.int va0), .val (.int va5), .val (.double (FP.i2d vb5)), .second, .val (.int (0 : Int32)), .val (.int (1 : Int32))] []))
    refine Goes.step (fun _ k => XS.aloadN X22.here hx rfl (hb hby d5_86) rfl rfl k) ?_
    obtain ⟨T93, X93, e93, st93⟩ := getF X22 hx hZ hown (host := "") (Or.inl w_17) Via.refl e22 f7 (g := (mkF m 87 #[.val (.ref x0), .val (.int va0), .val (.int va5), .val (.double (FP.i2d vb5)), .second, .val (.int (0 : Int32)), .val (.int (1 : Int32))] [(.ref x0)])) rfl rfl (hb hby d5_87)
    refine Goes.step st93 ?_
    show Goes _ _ _ _ _ _ _ (T93.setTop (mkF m 90 _ [(.ref ky)]))
    refine Goes.step (fun _ k => XS.iload X93.here hx rfl (hb hby d5_90) rfl  k) ?_
    obtain ⟨cl94, Ar94, q94, S94, P94, H94, G94⟩ := id f10
    have hin94 : ¬ ((1 : Int32) < 0 ∨ cl94.slots.size ≤ ((1 : Int32)).toNatClampNeg) := inb_of S94 ⟨by decide, by decide⟩
    have hat94 : cl94.slots[((1 : Int32)).toNatClampNeg]? = some (.double (FP.i2d vb1)) := H94 _ (by rw [S94]; decide)
    refine Goes.step (fun _ k => X93.daload hx (j := (1 : Int32)) (v := (.double (FP.i2d vb1))) (by rw [e93]; exact Ar94.1) (State.isArrayOf_alike hZ.alike Ar94.2.1) Ar94.2.2 hin94 hat94 (g := (mkF m 92 #[.val (.ref x0), .val (.int va0), .val (.int va5), .val (.double (FP.i2d vb5)), .second, .val (.int (0 : Int32)), .val (.int (1 : Int32))] [(.int (1 : Int32)), (.ref ky)])) rfl rfl (hb hby d5_92) _ k) ?_
    show Goes _ _ _ _ _ _ _ (T93.setTop (mkF m 93 _ [(.double (FP.i2d vb1))]))
    refine Goes.step (fun _ k => XS.dloadN X93.here hx rfl (hb hby d5_93) rfl k) ?_
    refine Goes.step (fun _ k => XS.dcmpS X93.here hx rfl (hb hby d5_94) rfl rfl k) ?_
    show Goes _ _ _ _ _ _ _ (T93.setTop (mkF m 95 _ [(.int (cmpValue (FP.dcmp (FP.i2d vb1) (FP.i2d vb5)) .l))]))
    by_cases c95_95 : vb1 < vb5
    · refine Goes.step (fun _ k => XS.ifYes X93.here hx rfl (pc0 := 95) (pc' := 101) rfl (hb hby d5_95) rfl ((if0 _ _).trans (tlt ((own_dlt _ _ _).mpr c95_95)).1) (by decide) (by decide) k) ?_
      show Goes _ _ _ _ _ _ _ (T93.setTop (mkF m 101 _ []))
      refine Goes.step (fun _ k => XS.aloadN X93.here hx rfl (hb hby d5_101) rfl rfl k) ?_
      obtain ⟨T96, X96, e96, st96⟩ := getF X93 hx hZ hown (host := "") (Or.inl w_14) Via.refl e93 f6 (g := (mkF m 102 #[.val (.ref x0), .val (.int va0), .val (.int va5), .val (.double (FP.i2d vb5)), .second, .val (.int (0 : Int32)), .val (.int (1 : Int32))] [(.ref x0)])) rfl rfl (hb hby d5_102)
      refine Goes.step st96 ?_
      show Goes _ _ _ _ _ _ _ (T96.setTop (mkF m 105 _ [(.ref nd)]))
      refine Goes.step (fun _ k => XS.iload X96.here hx rfl (hb hby d5_105) rfl  k) ?_
      refine Goes.step (fun _ k => XS.aloadN X96.here hx rfl (hb hby d5_107) rfl rfl k) ?_
      obtain ⟨T97, X97, e97, st97⟩ := getF X96 hx hZ hown (host := "") (Or.inl w_14) Via.refl e96 f6 (g := (mkF m 108 #[.val (.ref x0), .val (.int va0), .val (.int va5), .val (.double (FP.i2d vb5)), .second, .val (.int (0 : Int32)), .val (.int (1 : Int32))] [(.ref x0), (.int (0 : Int32)), (.ref nd)])) rfl rfl (hb hby d5_108)
      refine Goes.step st97 ?_
      show Goes _ _ _ _ _ _ _ (T97.setTop (mkF m 111 _ [(.ref nd), (.int (0 : Int32)), (.ref nd)]))
      refine Goes.step (fun _ k => XS.iload X97.here hx rfl (hb hby d5_111) rfl  k) ?_
      obtain ⟨cl98, Ar98, q98, S98, P98, H98, G98⟩ := id f9
      have hin98 : ¬ ((1 : Int32) < 0 ∨ cl98.slots.size ≤ ((1 : Int32)).toNatClampNeg) := inb_of S98 ⟨by decide, by decide⟩
      have hat98 : cl98.slots[((1 : Int32)).toNatClampNeg]? = some (.int va1) := H98 _ (by rw [S98]; decide)
      refine Goes.step (fun _ k => X97.iaload hx (j := (1 : Int32)) (v := (.int va1)) (by rw [e97]; exact Ar98.1) (State.isArrayOf_alike hZ.alike Ar98.2.1) Ar98.2.2 hin98 hat98 (g := (mkF m 113 #[.val (.ref x0), .val (.int va0), .val (.int va5), .val (.double (FP.i2d vb5)), .second, .val (.int (0 : Int32)), .val (.int (1 : Int32))] [(.int (1 : Int32)), (.ref nd), (.int (0 : Int32)), (.ref nd)])) rfl rfl (hb hby d5_113) _ k) ?_
      show Goes _ _ _ _ _ _ _ (T97.setTop (mkF m 114 #[.val (.ref x0), .val (.int va0), .val (.int va5), .val (.double (FP.i2d vb5)), .second, .val (.int (0 : Int32)), .val (.int (1 : Int32))] [(.int va1), (.int (0 : Int32)), (.ref nd)]))
      obtain ⟨cl99, Ar99, q99, S99, P99, H99, G99⟩ := id f9
      have hin99 : ¬ ((0 : Int32) < 0 ∨ cl99.slots.size ≤ ((0 : Int32)).toNatClampNeg) := inb_of S99 ⟨by decide, by decide⟩
      obtain ⟨T100, h100, X100, e100, W100, st100⟩ := stI X97 hx hZ e97 Ar99 (j := (0 : Int32)) hin99 (g := (mkF m 114 #[.val (.ref x0), .val (.int va0), .val (.int va5), .val (.double (FP.i2d vb5)), .second, .val (.int (0 : Int32)), .val (.int (1 : Int32))] [(.int va1), (.int (0 : Int32)), (.ref nd)])) rfl rfl (hb hby d5_114)
      refine Goes.step st100 ?_
      have V100 := Arv.set Ar99 q99 S99 P99 H99 G99 rfl W100 0 rfl (Nat.le_of_ble_eq_true rfl)
      have f101 := f5.other W100 (Or.inl ne1)
      have f102 := f6.other W100 (Or.inl ne1)
      have f103 := f7.other W100 (Or.inl ne1)
      have f104 := f8.wr W100
      have f105 := V100
      have f106 := f10.other W100 (Ne.symm ne3)
      have K107 : Keep h0 h100 [x0, nd, ky] := K11.wr W100 (Or.inl (List.mem_of_getElem? (i := 1) rfl))
      have Z107 : n0 ≤ h100.size := by rw [Wr.size W100]; exact Z11
      have N107 := Fr.snoc X100 N11 g_nd
      show Goes _ _ _ _ _ _ _ (T100.setTop (mkF m 115 _ []))
      refine Goes.step (fun _ k => XS.aloadN X100.here hx rfl (hb hby d5_115) rfl rfl k) ?_
      obtain ⟨T108, X108, e108, st108⟩ := getF X100 hx hZ hown (host := "") (Or.inl w_17) Via.refl e100 f103 (g := (mkF m 116 #[.val (.ref x0), .val (.int va0), .val (.int va5), .val (.double (FP.i2d vb5)), .second, .val (.int (0 : Int32)), .val (.int (1 : Int32))] [(.ref x0)])) rfl rfl (hb hby d5_116)
      refine Goes.step st108 ?_
      show Goes _ _ _ _ _ _ _ (T108.setTop (mkF m 119 _ [(.ref ky)]))
      refine Goes.step (fun _ k => XS.iload X108.here hx rfl (hb hby d5_119) rfl  k) ?_
      refine Goes.step (fun _ k => XS.aloadN X108.here hx rfl (hb hby d5_121) rfl rfl k) ?_
      obtain ⟨T109, X109, e109, st109⟩ := getF X108 hx hZ hown (host := "") (Or.inl w_17) Via.refl e108 f103 (g := (mkF m 122 #[.val (.ref x0), .val (.int va0), .val (.int va5), .val (.double (FP.i2d vb5)), .second, .val (.int (0 : Int32)), .val (.int (1 : Int32))] [(.ref x0), (.int (0 : Int32)), (.ref ky)])) rfl rfl (hb hby d5_122)
      refine Goes.step st109 ?_
      show Goes _ _ _ _ _ _ _ (T109.setTop (mkF m 125 _ [(.ref ky), (.int (0 : Int32)), (.ref ky)]))
      refine Goes.step (fun _ k => XS.iload X109.here hx rfl (hb hby d5_125) rfl  k) ?_
      obtain ⟨cl110, Ar110, q110, S110, P110, H110, G110⟩ := id f106
      have hin110 : ¬ ((1 : Int32) < 0 ∨ cl110.slots.size ≤ ((1 : Int32)).toNatClampNeg) := inb_of S110 ⟨by decide, by decide⟩
      have hat110 : cl110.slots[((1 : Int32)).toNatClampNeg]? = some (.double (FP.i2d vb1)) := H110 _ (by rw [S110]; decide)
      refine Goes.step (fun _ k => X109.daload hx (j := (1 : Int32)) (v := (.double (FP.i2d vb1))) (by rw [e109]; exact Ar110.1) (State.isArrayOf_alike hZ.alike Ar110.2.1) Ar110.2.2 hin110 hat110 (g := (mkF m 127 #[.val (.ref x0), .val (.int va0), .val (.int va5), .val (.double (FP.i2d vb5)), .second, .val (.int (0 : Int32)), .val (.int (1 : Int32))] [(.int (1 : Int32)), (.ref ky), (.int (0 : Int32)), (.ref ky)])) rfl rfl (hb hby d5_127) _ k) ?_
      show Goes _ _ _ _ _ _ _ (T109.setTop (mkF m 128 _ [(.double (FP.i2d vb1)), (.int (0 : Int32)), (.ref ky)]))
      obtain ⟨cl111, Ar111, q111, S111, P111, H111, G111⟩ := id f106
      have hin111 : ¬ ((0 : Int32) < 0 ∨ cl111.slots.size ≤ ((0 : Int32)).toNatClampNeg) := inb_of S111 ⟨by decide, by decide⟩
      obtain ⟨T112, h112, X112, e112, W112, st112⟩ := stD X109 hx hZ e109 Ar111 (j := (0 : Int32)) hin111 (g := (mkF m 128 #[.val (.ref x0), .val (.int va0), .val (.int va5), .val (.double (FP.i2d vb5)), .second, .val (.int (0 : Int32)), .val (.int (1 : Int32))] [(.double (FP.i2d vb1)), (.int (0 : Int32)), (.ref ky)])) rfl rfl (hb hby d5_128)
      refine Goes.step st112 ?_
      have V112 := Arv.set Ar111 q111 S111 P111 H111 G111 rfl W112 0 rfl (Nat.le_of_ble_eq_true rfl)
      have f113 := f101.other W112 (Or.inl ne2)
      have f114 := f102.other W112 (Or.inl ne2)
      have f115 := f103.other W112 (Or.inl ne2)
      have f116 := f104.wr W112
      have f117 := f105.other W112 ne3
      have f118 := V112
      have K119 : Keep h0 h112 [x0, nd, ky] := K107.wr W112 (Or.inl (List.mem_of_getElem? (i := 2) rfl))
      have Z119 : n0 ≤ h112.size := by rw [Wr.size W112]; exact Z107
      have N119 := Fr.snoc X112 N107 g_ky
      show Goes _ _ _ _ _ _ _ (T112.setTop (mkF m 129 _ []))
      refine Goes.step (fun _ k => XS.iload X112.here hx rfl (hb hby d5_129) rfl  k) ?_
      refine Goes.step (fun _ k => XS.istore X112.here hx rfl (hb hby d5_131) rfl (l' := #[.val (.ref x0), .val (.int va0), .val (.int va5), .val (.double (FP.i2d vb5)), .second, .val (.int (1 : Int32)), .val (.int (1 : Int32))]) rfl k) ?_
      show Goes _ _ _ _ _ _ _ (T112.setTop (mkF m 133 _ []))
      refine Goes.step (fun _ k => XS.iconst X112.here hx rfl (hb hby d5_133) k) ?_
      refine Goes.step (fun _ k => XS.iload X112.here hx rfl (hb hby d5_134) rfl  k) ?_
      refine Goes.step (fun _ k => XS.imul X112.here hx rfl (hb hby d5_136) rfl k) ?_
      show Goes _ _ _ _ _ _ _ (T112.setTop (mkF m 137 #[.val (.ref x0), .val (.int va0), .val (.int va5), .val (.double (FP.i2d vb5)), .second, .val (.int (1 : Int32)), .val (.int (1 : Int32))] [(.int (2 : Int32))]))
      refine Goes.step (fun _ k => XS.iconst X112.here hx rfl (hb hby d5_137) k) ?_
      refine Goes.step (fun _ k => XS.iadd X112.here hx rfl (hb hby d5_138) rfl k) ?_
      show Goes _ _ _ _ _ _ _ (T112.setTop (mkF m 139 _ [(.int (3 : Int32))]))
      refine Goes.step (fun _ k => XS.istore X112.here hx rfl (hb hby d5_139) rfl (l' := #[.val (.ref x0), .val (.int va0), .val (.int va5), .val (.double (FP.i2d vb5)), .second, .val (.int (1 : Int32)), .val (.int (3 : Int32))]) rfl k) ?_
      show Goes _ _ _ _ _ _ _ (T112.setTop (mkF m 141 _ []))
      refine Goes.step (fun _ k => XS.goto X112.here hx rfl (pc0 := 141) (pc' := 43) rfl (hb hby d5_141) (by decide) (by decide) k) ?_
      show Goes _ _ _ _ _ _ _ (T112.setTop (mkF m 43 _ []))
      refine Goes.step (fun _ k => XS.iload X112.here hx rfl (hb hby d5_43) rfl  k) ?_
      refine Goes.step (fun _ k => XS.aloadN X112.here hx rfl (hb hby d5_45) rfl rfl k) ?_
      obtain ⟨T120, X120, e120, st120⟩ := getF X112 hx hZ hown (host := "") (Or.inl w_24) Via.refl e112 f113 (g := (mkF m 46 #[.val (.ref x0), .val (.int va0), .val (.int va5), .val (.double (FP.i2d vb5)), .second, .val (.int (1 : Int32)), .val (.int (3 : Int32))] [(.ref x0), (.int (3 : Int32))])) rfl rfl (hb hby d5_46)
      refine Goes.step st120 ?_
      show Goes _ _ _ _ _ _ _ (T120.setTop (mkF m 49 _ [(.int (5 : Int32)), (.int (3 : Int32))]))
      refine Goes.step (fun _ k => XS.icmpNo X120.here hx rfl (hb hby d5_49) rfl (tlt (by decide : (3 : Int32) < (5 : Int32))).2.1 k) ?_
      show Goes _ _ _ _ _ _ _ (T120.setTop (mkF m 52 _ []))
      refine Goes.step (fun _ k => XS.iload X120.here hx rfl (hb hby d5_52) rfl  k) ?_
      refine Goes.step (fun _ k => XS.iconst X120.here hx rfl (hb hby d5_54) k) ?_
      refine Goes.step (fun _ k => XS.iadd X120.here hx rfl (hb hby d5_55) rfl k) ?_
      show Goes _ _ _ _ _ _ _ (T120.setTop (mkF m 56 _ [(.int (4 : Int32))]))
      refine Goes.step (fun _ k => XS.aloadN X120.here hx rfl (hb hby d5_56) rfl rfl k) ?_
      obtain ⟨T121, X121, e121, st121⟩ := getF X120 hx hZ hown (host := "") (Or.inl w_24) Via.refl e120 f113 (g := (mkF m 57 #[.val (.ref x0), .val (.int va0), .val (.int va5), .val (.double (FP.i2d vb5)), .second, .val (.int (1 : Int32)), .val (.int (3 : Int32))] [(.ref x0), (.int (4 : Int32))])) rfl rfl (hb hby d5_57)
      refine Goes.step st121 ?_
      show Goes _ _ _ _ _ _ _ (T121.setTop (mkF m 60 #[.val (.ref x0), .val (.int va0), .val (.int va5), .val (.double (FP.i2d vb5)), .second, .val (.int (1 : Int32)), .val (.int (3 : Int32))] [(.int (5 : Int32)), (.int (4 : Int32))]))
      refine Goes.step (fun _ k => XS.icmpNo X121.here hx rfl (hb hby d5_60) rfl (tlt (by decide : (4 : Int32) < (5 : Int32))).2.1 k) ?_
      show Goes _ _ _ _ _ _ _ (T121.setTop (mkF m 63 _ []))
      refine Goes.step (fun _ k => XS.aloadN X121.here hx rfl (hb hby d5_63) rfl rfl k) ?_
      obtain ⟨T122, X122, e122, st122⟩ := getF X121 hx hZ hown (host := "") (Or.inl w_17) Via.refl e121 f115 (g := (mkF m 64 #[.val (.ref x0), .val (.int va0), .val (.int va5), .val (.double (FP.i2d vb5)), .second, .val (.int (1 : Int32)), .val (.int (3 : Int32))] [(.ref x0)])) rfl rfl (hb hby d5_64)
      refine Goes.step st122 ?_
      show Goes _ _ _ _ _ _ _ (T122.setTop (mkF m 67 _ [(.ref ky)]))
      refine Goes.step (fun _ k => XS.iload X122.here hx rfl (hb hby d5_67) rfl  k) ?_
      refine Goes.step (fun _ k => XS.iconst X122.here hx rfl (hb hby d5_69) k) ?_
      refine Goes.step (fun _ k => XS.iadd X122.here hx rfl (hb hby d5_70) rfl k) ?_
      show Goes _ _ _ _ _ _ _ (T122.setTop (mkF m 71 _ [(.int (4 : Int32)), (.ref ky)]))
      obtain ⟨cl123, Ar123, q123, S123, P123, H123, G123⟩ := id f118
      have hin123 : ¬ ((4 : Int32) < 0 ∨ cl123.slots.size ≤ ((4 : Int32)).toNatClampNeg) := inb_of S123 ⟨by decide, by decide⟩
      have hat123 : cl123.slots[((4 : Int32)).toNatClampNeg]? = some (.double (FP.i2d vb4)) := H123 _ (by rw [S123]; decide)
      refine Goes.step (fun _ k => X122.daload hx (j := (4 : Int32)) (v := (.double (FP.i2d vb4))) (by rw [e122]; exact Ar123.1) (State.isArrayOf_alike hZ.alike Ar123.2.1) Ar123.2.2 hin123 hat123 (g := (mkF m 71 #[.val (.ref x0), .val (.int va0), .val (.int va5), .val (.double (FP.i2d vb5)), .second, .val (.int (1 : Int32)), .val (.int (3 : Int32))] [(.int (4 : Int32)), (.ref ky)])) rfl rfl (hb hby d5_71) _ k) ?_
      show Goes _ _ _ _ _ _ _ (T122.setTop (mkF m 72 _ [(.double (FP.i2d vb4))]))
      refine Goes.step (fun _ k => XS.aloadN X122.here hx rfl (hb hby d5_72) rfl rfl k) ?_
      obtain ⟨T124, X124, e124, st124⟩ := getF X122 hx hZ hown (host := "") (Or.inl w_17) Via.refl e122 f115 (g := (mkF m 73 #[.val (.ref x0), .val (.int va0), .val (.int va5), .val (.double (FP.i2d vb5)), .second, .val (.int (1 : Int32)), .val (.int (3 : Int32))] [(.ref x0), (.double (FP.i2d vb4))])) rfl rfl (hb hby d5_73)
      refine Goes.step st124 ?_
      show Goes _ _ _ _ _ _ _ (T124.setTop (mkF m 76 _ [(.ref ky), (.double (FP.i2d vb4))]))
      refine Goes.step (fun _ k => XS.iload X124.here hx rfl (hb hby d5_76) rfl  k) ?_
      obtain ⟨cl125, Ar125, q125, S125, P125, H125, G125⟩ := id f118
      have hin125 : ¬ ((3 : Int32) < 0 ∨ cl125.slots.size ≤ ((3 : Int32)).toNatClampNeg) := inb_of S125 ⟨by decide, by decide⟩
      have hat125 : cl125.slots[((3 : Int32)).toNatClampNeg]? = some (.double (FP.i2d vb3)) := H125 _ (by rw [S125]; decide)
      refine Goes.step (fun _ k => X124.daload hx (j := (3 : Int32)) (v := (.double (FP.i2d vb3))) (by rw [e124]; exact Ar125.1) (State.isArrayOf_alike hZ.alike Ar125.2.1) Ar125.2.2 hin125 hat125 (g := (mkF m 78 #[.val (.ref x0), .val (.int va0), .val (.int va5), .val (.double (FP.i2d vb5)), .second, .val (.int (1 : Int32)), .val (.int (3 : Int32))] [(.int (3 : Int32)), (.ref ky), (.double (FP.i2d vb4))])) rfl rfl (hb hby d5_78) _ k) ?_
      show Goes _ _ _ _ _ _ _ (T124.setTop (mkF m 79 _ [(.double (FP.i2d vb3)), (.double (FP.i2d vb4))]))
      refine Goes.step (fun _ k => XS.dcmpS X124.here hx rfl (hb hby d5_79) rfl rfl k) ?_
      show Goes _ _ _ _ _ _ _ (T124.setTop (mkF m 80 #[.val (.ref x0), .val (.int va0), .val (.int va5), .val (.double (FP.i2d vb5)), .second, .val (.int (1 : Int32)), .val (.int (3 : Int32))] [(.int (cmpValue (FP.dcmp (FP.i2d vb4) (FP.i2d vb3)) .g))]))
      by_cases c80_126 : vb4 < vb3
      · refine Goes.step (fun _ k => XS.ifNo X124.here hx rfl (hb hby d5_80) rfl ((if0 _ _).trans (tlt ((own_dlt _ _ _).mpr c80_126)).2.1) k) ?_
        show Goes _ _ _ _ _ _ _ (T124.setTop (mkF m 83 _ []))
        refine Goes.step (fun _ k => XS.iinc X124.here hx rfl (hb hby d5_83) rfl (l' := #[.val (.ref x0), .val (.int va0), .val (.int va5), .val (.double (FP.i2d vb5)), .second, .val (.int (1 : Int32)), .val (.int (4 : Int32))]) rfl k) ?_
        show Goes _ _ _ _ _ _ _ (T124.setTop (mkF m 86 _ []))
        refine Goes.step (fun _ k => XS.aloadN X124.here hx rfl (hb hby d5_86) rfl rfl k) ?_
        obtain ⟨T127, X127, e127, st127⟩ := getF X124 hx hZ hown (host := "") (Or.inl w_17) Via.refl e124 f115 (g := (mkF m 87 #[.val (.ref x0), .val (.int va0), .val (.int va5), .val (.double (FP.i2d vb5)), .second, .val (.int (1 : Int32)), .val (.int (4 : Int32))] [(.ref x0)])) rfl rfl (hb hby d5_87)
        refine Goes.step st127 ?_
        show Goes _ _ _ _ _ _ _ (T127.setTop (mkF m 90 _ [(.ref ky)]))
        refine Goes.step (fun _ k => XS.iload X127.here hx rfl (hb hby d5_90) rfl  k) ?_
        obtain ⟨cl128, Ar128, q128, S128, P128, H128, G128⟩ := id f118
        have hin128 : ¬ ((4 : Int32) < 0 ∨ cl128.slots.size ≤ ((4 : Int32)).toNatClampNeg) := inb_of S128 ⟨by decide, by decide⟩
        have hat128 : cl128.slots[((4 : Int32)).toNatClampNeg]? = some (.double (FP.i2d vb4)) := H128 _ (by rw [S128]; decide)
        refine Goes.step (fun _ k => X127.daload hx (j := (4 : Int32)) (v := (.double (FP.i2d vb4))) (by rw [e127]; exact Ar128.1) (State.isArrayOf_alike hZ.alike Ar128.2.1) Ar128.2.2 hin128 hat128 (g := (mkF m 92 #[.val (.ref x0), .val (.int va0), .val (.int va5), .val (.double (FP.i2d vb5)), .second, .val (.int (1 : Int32)), .val (.int (4 : Int32))] [(.int (4 : Int32)), (.ref ky)])) rfl rfl (hb hby d5_92) _ k) ?_
        show Goes _ _ _ _ _ _ _ (T127.setTop (mkF m 93 _ [(.double (FP.i2d vb4))]))
        refine Goes.step (fun _ k => XS.dloadN X127.here hx rfl (hb hby d5_93) rfl k) ?_
        refine Goes.step (fun _ k => XS.dcmpS X127.here hx rfl (hb hby d5_94) rfl rfl k) ?_
        show Goes _ _ _ _ _ _ _ (T127.setTop (mkF m 95 _ [(.int (cmpValue (FP.dcmp (FP.i2d vb4) (FP.i2d vb5)) .l))]))
        by_cases c95_129 : vb4 < vb5
        · refine Goes.step (fun _ k => XS.ifYes X127.here hx rfl (pc0 := 95) (pc' := 101) rfl (hb hby d5_95) rfl ((if0 _ _).trans (tlt ((own_dlt _ _ _).mpr c95_129)).1) (by decide) (by decide) k) ?_
          show Goes _ _ _ _ _ _ _ (T127.setTop (mkF m 101 _ []))
          refine Goes.step (fun _ k => XS.aloadN X127.here hx rfl (hb hby d5_101) rfl rfl k) ?_
          obtain ⟨T130, X130, e130, st130⟩ := getF X127 hx hZ hown (host := "") (Or.inl w_14) Via.refl e127 f114 (g := (mkF m 102 #[.val (.ref x0), .val (.int va0), .val (.int va5), .val (.double (FP.i2d vb5)), .second, .val (.int (1 : Int32)), .val (.int (4 : Int32))] [(.ref x0)])) rfl rfl (hb hby d5_102)
          refine Goes.step st130 ?_
          show Goes _ _ _ _ _ _ _ (T130.setTop (mkF m 105 #[.val (.ref x0), .val (.int va0), .val (.int va5), .val (.double (FP.i2d vb5)), .second, .val (.int (1 : Int32)), .val (.int (4 : Int32))] [(.ref nd)]))
          refine Goes.step (fun _ k => XS.iload X130.here hx rfl (hb hby d5_105) rfl  k) ?_
          refine Goes.step (fun _ k => XS.aloadN X130.here hx rfl (hb hby d5_107) rfl rfl k) ?_
          obtain ⟨T131, X131, e131, st131⟩ := getF X130 hx hZ hown (host := "") (Or.inl w_14) Via.refl e130 f114 (g := (mkF m 108 #[.val (.ref x0), .val (.int va0), .val (.int va5), .val (.double (FP.i2d vb5)), .second, .val (.int (1 : Int32)), .val (.int (4 : Int32))] [(.ref x0), (.int (1 : Int32)), (.ref nd)])) rfl rfl (hb hby d5_108)
          refine Goes.step st131 ?_
          show Goes _ _ _ _ _ _ _ (T131.setTop (mkF m 111 _ [(.ref nd), (.int (1 : Int32)), (.ref nd)]))
          refine Goes.step (fun _ k => XS.iload X131.here hx rfl (hb hby d5_111) rfl  k) ?_
          obtain ⟨cl132, Ar132, q132, S132, P132, H132, G132⟩ := id f117
          have hin132 : ¬ ((4 : Int32) < 0 ∨ cl132.slots.size ≤ ((4 : Int32)).toNatClampNeg) := inb_of S132 ⟨by decide, by decide⟩
          have hat132 : cl132.slots[((4 : Int32)).toNatClampNeg]? = some (.int va4) := H132 _ (by rw [S132]; decide)
          refine Goes.step (fun _ k => X131.iaload hx (j := (4 : Int32)) (v := (.int va4)) (by rw [e131]; exact Ar132.1) (State.isArrayOf_alike hZ.alike Ar132.2.1) Ar132.2.2 hin132 hat132 (g := (mkF m 113 #[.val (.ref x0), .val (.int va0), .val (.int va5), .val (.double (FP.i2d vb5)), .second, .val (.int (1 : Int32)), .val (.int (4 : Int32))] [(.int (4 : Int32)), (.ref nd), (.int (1 : Int32)), (.ref nd)])) rfl rfl (hb hby d5_113) _ k) ?_
          show Goes _ _ _ _ _ _ _ (T131.setTop (mkF m 114 _ [(.int va4), (.int (1 : Int32)), (.ref nd)]))
          obtain ⟨cl133, Ar133, q133, S133, P133, H133, G133⟩ := id f117
          have hin133 : ¬ ((1 : Int32) < 0 ∨ cl133.slots.size ≤ ((1 : Int32)).toNatClampNeg) := inb_of S133 ⟨by decide, by decide⟩
          obtain ⟨T134, h134, X134, e134, W134, st134⟩ := stI X131 hx hZ e131 Ar133 (j := (1 : Int32)) hin133 (g := (mkF m 114 #[.val (.ref x0), .val (.int va0), .val (.int va5), .val (.double (FP.i2d vb5)), .second, .val (.int (1 : Int32)), .val (.int (4 : Int32))] [(.int va4), (.int (1 : Int32)), (.ref nd)])) rfl rfl (hb hby d5_114)
          refine Goes.step st134 ?_
          have V134 := Arv.set Ar133 q133 S133 P133 H133 G133 rfl W134 1 rfl (Nat.le_of_ble_eq_true rfl)
          have f135 := f113.other W134 (Or.inl ne1)
          have f136 := f114.other W134 (Or.inl ne1)
          have f137 := f115.other W134 (Or.inl ne1)
          have f138 := f116.wr W134
          have f139 := V134
          have f140 := f118.other W134 (Ne.symm ne3)
          have K141 : Keep h0 h134 [x0, nd, ky] := K119.wr W134 (Or.inl (List.mem_of_getElem? (i := 1) rfl))
          have Z141 : n0 ≤ h134.size := by rw [Wr.size W134]; exact Z119
          have N141 := Fr.snoc X134 N119 g_nd
          show Goes _ _ _ _ _ _ _ (T134.setTop (mkF m 115 _ []))
          refine Goes.step (fun _ k => XS.aloadN X134.here hx rfl (hb hby d5_115) rfl rfl k) ?_
          obtain ⟨T142, X142, e142, st142⟩ := getF X134 hx hZ hown (host := "") (Or.inl w_17) Via.refl e134 f137 (g := (mkF m 116 #[.val (.ref x0), .val (.int va0), .val (.int va5), .val (.double (FP.i2d vb5)), .second, .val (.int (1 : Int32)), .val (.int (4 : Int32))] [(.ref x0)])) rfl rfl (hb hby d5_116)
          refine Goes.step st142 ?_
          show Goes _ _ _ _ _ _ _ (T142.setTop (mkF m 119 _ [(.ref ky)]))
          refine Goes.step (fun _ k => XS.iload X142.here hx rfl (hb hby d5_119) rfl  k) ?_
          refine Goes.step (fun _ k => XS.aloadN X142.here hx rfl (hb hby d5_121) rfl rfl k) ?_
          obtain ⟨T143, X143, e143, st143⟩ := getF X142 hx hZ hown (host := "") (Or.inl w_17) Via.refl e142 f137 (g := (mkF m 122 #[.val (.ref x0), .val (.int va0), .val (.int va5), .val (.double (FP.i2d vb5)), .second, .val (.int (1 : Int32)), .val (.int (4 : Int32))] [(.ref x0), (.int (1 : Int32)), (.ref ky)])) rfl rfl (hb hby d5_122)
          refine Goes.step st143 ?_
          show Goes _ _ _ _ _ _ _ (T143.setTop (mkF m 125 _ [(.ref ky), (.int (1 : Int32)), (.ref ky)]))
          refine Goes.step (fun _ k => XS.iload X143.here hx rfl (hb hby d5_125) rfl  k) ?_
          obtain ⟨cl144, Ar144, q144, S144, P144, H144, G144⟩ := id f140
          have hin144 : ¬ ((4 : Int32) < 0 ∨ cl144.slots.size ≤ ((4 : Int32)).toNatClampNeg) := inb_of S144 ⟨by decide, by decide⟩
          have hat144 : cl144.slots[((4 : Int32)).toNatClampNeg]? = some (.double (FP.i2d vb4)) := H144 _ (by rw [S144]; decide)
          refine Goes.step (fun _ k => X143.daload hx (j := (4 : Int32)) (v := (.double (FP.i2d vb4))) (by rw [e143]; exact Ar144.1) (State.isArrayOf_alike hZ.alike Ar144.2.1) Ar144.2.2 hin144 hat144 (g := (mkF m 127 #[.val (.ref x0), .val (.int va0), .val (.int va5), .val (.double (FP.i2d vb5)), .second, .val (.int (1 : Int32)), .val (.int (4 : Int32))] [(.int (4 : Int32)), (.ref ky), (.int (1 : Int32)), (.ref ky)])) rfl rfl (hb hby d5_127) _ k) ?_
          show Goes _ _ _ _ _ _ _ (T143.setTop (mkF m 128 _ [(.double (FP.i2d vb4)), (.int (1 : Int32)), (.ref ky)]))
          obtain ⟨cl145, Ar145, q145, S145, P145, H145, G145⟩ := id f140
          have hin145 : ¬ ((1 : Int32) < 0 ∨ cl145.slots.size ≤ ((1 : Int32)).toNatClampNeg) := inb_of S145 ⟨by decide, by decide⟩
          obtain ⟨T146, h146, X146, e146, W146, st146⟩ := stD X143 hx hZ e143 Ar145 (j := (1 : Int32)) hin145 (g := (mkF m 128 #[.val (.ref x0), .val (.int va0), .val (.int va5), .val (.double (FP.i2d vb5)), .second, .val (.int (1 : Int32)), .val (.int (4 : Int32))] [(.double (FP.i2d vb4)), (.int (1 : Int32)), (.ref ky)])) rfl rfl (hb hby d5_128)
          refine Goes.step st146 ?_
          have V146 := Arv.set Ar145 q145 S145 P145 H145 G145 rfl W146 1 rfl (Nat.le_of_ble_eq_true rfl)
          have f147 := f135.other W146 (Or.inl ne2)
          have f148 := f136.other W146 (Or.inl ne2)
          have f149 := f137.other W146 (Or.inl ne2)
          have f150 := f138.wr W146
          have f151 := f139.other W146 ne3
          have f152 := V146
          have K153 : Keep h0 h146 [x0, nd, ky] := K141.wr W146 (Or.inl (List.mem_of_getElem? (i := 2) rfl))
          have Z153 : n0 ≤ h146.size := by rw [Wr.size W146]; exact Z141
          have N153 := Fr.snoc X146 N141 g_ky
          show Goes _ _ _ _ _ _ _ (T146.setTop (mkF m 129 #[.val (.ref x0), .val (.int va0), .val (.int va5), .val (.double (FP.i2d vb5)), .second, .val (.int (1 : Int32)), .val (.int (4 : Int32))] []))
          refine Goes.step (fun _ k => XS.iload X146.here hx rfl (hb hby d5_129) rfl  k) ?_
          refine Goes.step (fun _ k => XS.istore X146.here hx rfl (hb hby d5_131) rfl (l' := #[.val (.ref x0), .val (.int va0), .val (.int va5), .val (.double (FP.i2d vb5)), .second, .val (.int (4 : Int32)), .val (.int (4 : Int32))]) rfl k) ?_
          show Goes _ _ _ _ _ _ _ (T146.setTop (mkF m 133 _ []))
          refine Goes.step (fun _ k => XS.iconst X146.here hx rfl (hb hby d5_133) k) ?_
          refine Goes.step (fun _ k => XS.iload X146.here hx rfl (hb hby d5_134) rfl  k) ?_
          refine Goes.step (fun _ k => XS.imul X146.here hx rfl (hb hby d5_136) rfl k) ?_
          show Goes _ _ _ _ _ _ _ (T146.setTop (mkF m 137 _ [(.int (8 : Int32))]))
          refine Goes.step (fun _ k => XS.iconst X146.here hx rfl (hb hby d5_137) k) ?_
          refine Goes.step (fun _ k => XS.iadd X146.here hx rfl (hb hby d5_138) rfl k) ?_
          show Goes _ _ _ _ _ _ _ (T146.setTop (mkF m 139 _ [(.int (9 : Int32))]))
          refine Goes.step (fun _ k => XS.istore X146.here hx rfl (hb hby d5_139) rfl (l' := #[.val (.ref x0), .val (.int va0), .val (.int va5), .val (.double (FP.i2d vb5)), .second, .val (.int (4 : Int32)), .val (.int (9 : Int32))]) rfl k) ?_
          show Goes _ _ _ _ _ _ _ (T146.setTop (mkF m 141 _ []))
          refine Goes.step (fun _ k => XS.goto X146.here hx rfl (pc0 := 141) (pc' := 43) rfl (hb hby d5_141) (by decide) (by decide) k) ?_
          show Goes _ _ _ _ _ _ _ (T146.setTop (mkF m 43 _ []))
          refine Goes.step (fun _ k => XS.iload X146.here hx rfl (hb hby d5_43) rfl  k) ?_
          refine Goes.step (fun _ k => XS.aloadN X146.here hx rfl (hb hby d5_45) rfl rfl k) ?_
          obtain ⟨T154, X154, e154, st154⟩ := getF X146 hx hZ hown (host := "") (Or.inl w_24) Via.refl e146 f147 (g := (mkF m 46 #[.val (.ref x0), .val (.int va0), .val (.int va5), .val (.double (FP.i2d vb5)), .second, .val (.int (4 : Int32)), .val (.int (9 : Int32))] [(.ref x0), (.int (9 : Int32))])) rfl rfl (hb hby d5_46)
          refine Goes.step st154 ?_
          show Goes _ _ _ _ _ _ _ (T154.setTop (mkF m 49 _ [(.int (5 : Int32)), (.int (9 : Int32))]))
          refine Goes.step (fun _ k => XS.icmpYes X154.here hx rfl (pc0 := 49) (pc' := 144) rfl (hb hby d5_49) rfl (flt (by decide : ¬ ((9 : Int32) < (5 : Int32)))).2.1 (by decide) (by decide) k) ?_
          show Goes _ _ _ _ _ _ _ (T154.setTop (mkF m 144 #[.val (.ref x0), .val (.int va0), .val (.int va5), .val (.double (FP.i2d vb5)), .second, .val (.int (4 : Int32)), .val (.int (9 : Int32))] []))
          refine Goes.step (fun _ k => XS.aloadN X154.here hx rfl (hb hby d5_144) rfl rfl k) ?_
          obtain ⟨T155, X155, e155, st155⟩ := getF X154 hx hZ hown (host := "") (Or.inl w_14) Via.refl e154 f148 (g := (mkF m 145 #[.val (.ref x0), .val (.int va0), .val (.int va5), .val (.double (FP.i2d vb5)), .second, .val (.int (4 : Int32)), .val (.int (9 : Int32))] [(.ref x0)])) rfl rfl (hb hby d5_145)
          refine Goes.step st155 ?_
          show Goes _ _ _ _ _ _ _ (T155.setTop (mkF m 148 _ [(.ref nd)]))
          refine Goes.step (fun _ k => XS.iload X155.here hx rfl (hb hby d5_148) rfl  k) ?_
          refine Goes.step (fun _ k => XS.iloadN X155.here hx rfl (hb hby d5_150) rfl  k) ?_
          obtain ⟨cl156, Ar156, q156, S156, P156, H156, G156⟩ := id f151
          have hin156 : ¬ ((4 : Int32) < 0 ∨ cl156.slots.size ≤ ((4 : Int32)).toNatClampNeg) := inb_of S156 ⟨by decide, by decide⟩
          obtain ⟨T157, h157, X157, e157, W157, st157⟩ := stI X155 hx hZ e155 Ar156 (j := (4 : Int32)) hin156 (g := (mkF m 151 #[.val (.ref x0), .val (.int va0), .val (.int va5), .val (.double (FP.i2d vb5)), .second, .val (.int (4 : Int32)), .val (.int (9 : Int32))] [(.int va5), (.int (4 : Int32)), (.ref nd)])) rfl rfl (hb hby d5_151)
          refine Goes.step st157 ?_
          have V157 := Arv.set Ar156 q156 S156 P156 H156 G156 rfl W157 4 rfl (Nat.le_of_ble_eq_true rfl)
          have f158 := f147.other W157 (Or.inl ne1)
          have f159 := f148.other W157 (Or.inl ne1)
          have f160 := f149.other W157 (Or.inl ne1)
          have f161 := f150.wr W157
          have f162 := V157
          have f163 := f152.other W157 (Ne.symm ne3)
          have K164 : Keep h0 h157 [x0, nd, ky] := K153.wr W157 (Or.inl (List.mem_of_getElem? (i := 1) rfl))
          have Z164 : n0 ≤ h157.size := by rw [Wr.size W157]; exact Z153
          have N164 := Fr.snoc X157 N153 g_nd
          show Goes _ _ _ _ _ _ _ (T157.setTop (mkF m 152 _ []))
          refine Goes.step (fun _ k => XS.aloadN X157.here hx rfl (hb hby d5_152) rfl rfl k) ?_
          obtain ⟨T165, X165, e165, st165⟩ := getF X157 hx hZ hown (host := "") (Or.inl w_17) Via.refl e157 f160 (g := (mkF m 153 #[.val (.ref x0), .val (.int va0), .val (.int va5), .val (.double (FP.i2d vb5)), .second, .val (.int (4 : Int32)), .val (.int (9 : Int32))] [(.ref x0)])) rfl rfl (hb hby d5_153)
          refine Goes.step st165 ?_
          show Goes _ _ _ _ _ _ _ (T165.setTop (mkF m 156 _ [(.ref ky)]))
          refine Goes.step (fun _ k => XS.iload X165.here hx rfl (hb hby d5_156) rfl  k) ?_
          refine Goes.step (fun _ k => XS.dloadN X165.here hx rfl (hb hby d5_158) rfl k) ?_
          obtain ⟨cl166, Ar166, q166, S166, P166, H166, G166⟩ := id f163
          have hin166 : ¬ ((4 : Int32) < 0 ∨ cl166.slots.size ≤ ((4 : Int32)).toNatClampNeg) := inb_of S166 ⟨by decide, by decide⟩
          obtain ⟨T167, h167, X167, e167, W167, st167⟩ := stD X165 hx hZ e165 Ar166 (j := (4 : Int32)) hin166 (g := (mkF m 159 #[.val (.ref x0), .val (.int va0), .val (.int va5), .val (.double (FP.i2d vb5)), .second, .val (.int (4 : Int32)), .val (.int (9 : Int32))] [(.double (FP.i2d vb5)), (.int (4 : Int32)), (.ref ky)])) rfl rfl (hb hby d5_159)
          refine Goes.step st167 ?_
          have V167 := Arv.set Ar166 q166 S166 P166 H166 G166 rfl W167 4 rfl (Nat.le_of_ble_eq_true rfl)
          have f168 := f158.other W167 (Or.inl ne2)
          have f169 := f159.other W167 (Or.inl ne2)
          have f170 := f160.other W167 (Or.inl ne2)
          have f171 := f161.wr W167
          have f172 := f162.other W167 ne3
          have f173 := V167
          have K174 : Keep h0 h167 [x0, nd, ky] := K164.wr W167 (Or.inl (List.mem_of_getElem? (i := 2) rfl))
          have Z174 : n0 ≤ h167.size := by rw [Wr.size W167]; exact Z164
          have N174 := Fr.snoc X167 N164 g_ky
          show Goes _ _ _ _ _ _ _ (T167.setTop (mkF m 160 _ []))
          refine Goes.step (fun _ k => XS.iloadN X167.here hx rfl (hb hby d5_160) rfl  k) ?_
          have ph0 := own_nl c80_24
          have ph1 := own_l c95_95
          have ph2 := own_l c80_126
          have ph3 := own_l c95_129
          exact Goes.ret X167 hx (BodyLoose.notSynchronized Bd) Bd.returns rfl (Or.inl ⟨rfl, by simp, _, rfl⟩) (hb hby d5_161) (by show Q5_6 Z x0 nd ky kn kd va0 va1 va2 va3 va4 va5 vb0 vb1 vb2 vb3 vb4 vb5 h0 n0 (some (.int va0)) T167.heap _; rw [e167]; exact ⟨N174, K174, rfl, f168, f169, f170, va1, va4, va2, va3, va5, va5, vb1, vb4, vb2, vb3, vb5, vb5, f172, f173, (List.Perm.map (fun i => ([(va1, vb1), (va2, vb2), (va3, vb3), (va4, vb4), (va5, vb5)] : List (Int32 × Int32)).getD i (0, 0)) (by decide : ([0, 3, 1, 2, 4] : List Nat).Perm [0, 1, 2, 3, 4])), by omega, by omega, by omega, by omega, by omega⟩) (by decide) (by decide)
        · refine Goes.step (fun _ k => XS.ifNo X127.here hx rfl (hb hby d5_95) rfl ((if0 _ _).trans (flt (fun q => c95_129 ((own_dlt _ _ _).mp q))).1) k) ?_
          show Goes _ _ _ _ _ _ _ (T127.setTop (mkF m 98 _ []))
          refine Goes.step (fun _ k => XS.goto X127.here hx rfl (pc0 := 98) (pc' := 144) rfl (hb hby d5_98) (by decide) (by decide) k) ?_
          show Goes _ _ _ _ _ _ _ (T127.setTop (mkF m 144 #[.val (.ref x0), .val (.int va0), .val (.int va5), .val (.double (FP.i2d vb5)), .second, .val (.int (1 : Int32)), .val (.int (4 : Int32))] []))
          refine Goes.step (fun _ k => XS.aloadN X127.here hx rfl (hb hby d5_144) rfl rfl k) ?_
          obtain ⟨T175, X175, e175, st175⟩ := getF X127 hx hZ hown (host := "") (Or.inl w_14) Via.refl e127 f114 (g := (mkF m 145 #[.val (.ref x0), .val (.int va0), .val (.int va5), .val (.double (FP.i2d vb5)), .second, .val (.int (1 : Int32)), .val (.int (4 : Int32))] [(.ref x0)])) rfl rfl (hb hby d5_145)
          refine Goes.step st175 ?_
          show Goes _ _ _ _ _ _ _ (T175.setTop (mkF m 148 _ [(.ref nd)]))
          refine Goes.step (fun _ k => XS.iload X175.here hx rfl (hb hby d5_148) rfl  k) ?_
          refine Goes.step (fun _ k => XS.iloadN X175.here hx rfl (hb hby d5_150) rfl  k) ?_
          obtain ⟨cl176, Ar176, q176, S176, P176, H176, G176⟩ := id f117
          have hin176 : ¬ ((1 : Int32) < 0 ∨ cl176.slots.size ≤ ((1 : Int32)).toNatClampNeg) := inb_of S176 ⟨by decide, by decide⟩
          obtain ⟨T177, h177, X177, e177, W177, st177⟩ := stI X175 hx hZ e175 Ar176 (j := (1 : Int32)) hin176 (g := (mkF m 151 #[.val (.ref x0), .val (.int va0), .val (.int va5), .val (.double (FP.i2d vb5)), .second, .val (.int (1 : Int32)), .val (.int (4 : Int32))] [(.int va5), (.int (1 : Int32)), (.ref nd)])) rfl rfl (hb hby d5_151)
          refine Goes.step st177 ?_
          have V177 := Arv.set Ar176 q176 S176 P176 H176 G176 rfl W177 1 rfl (Nat.le_of_ble_eq_true rfl)
          have f178 := f113.other W177 (Or.inl ne1)
          have f179 := f114.other W177 (Or.inl ne1)
          have f180 := f115.other W177 (Or.inl ne1)
          have f181 := f116.wr W177
          have f182 := V177
          have f183 := f118.other W177 (Ne.symm ne3)
          have K184 : Keep h0 h177 [x0, nd, ky] := K119.wr W177 (Or.inl (List.mem_of_getElem? (i := 1) rfl))
          have Z184 : n0 ≤ h177.size := by rw [Wr.size W177]; exact Z119
          have N184 := Fr.snoc X177 N119 g_nd
          show Goes _ _ _ _ _ _ _ (T177.setTop (mkF m 152 _ []))
          refine Goes.step (fun _ k => XS.aloadN X177.here hx rfl (hb hby d5_152) rfl rfl k) ?_
          obtain ⟨T185, X185, e185, st185⟩ := getF X177 hx hZ hown (host := "") (Or.inl w_17) Via.refl e177 f180 (g := (mkF m 153 #[.val (.ref x0), .val (.int va0), .val (.int va5), .val (.double (FP.i2d vb5)), .second, .val (.int (1 : Int32)), .val (.int (4 : Int32))] [(.ref x0)])) rfl rfl (hb hby d5_153)
          refine Goes.step st185 ?_
          show Goes _ _ _ _ _ _ _ (T185.setTop (mkF m 156 _ [(.ref ky)]))
          refine Goes.step (fun _ k => XS.iload X185.here hx rfl (hb hby d5_156) rfl  k) ?_
          refine Goes.step (fun _ k => XS.dloadN X185.here hx rfl (hb hby d5_158) rfl k) ?_
          obtain ⟨cl186, Ar186, q186, S186, P186, H186, G186⟩ := id f183
          have hin186 : ¬ ((1 : Int32) < 0 ∨ cl186.slots.size ≤ ((1 : Int32)).toNatClampNeg) := inb_of S186 ⟨by decide, by decide⟩
          obtain ⟨T187, h187, X187, e187, W187, st187⟩ := stD X185 hx hZ e185 Ar186 (j := (1 : Int32)) hin186 (g := (mkF m 159 #[.val (.ref x0), .val (.int va0), .val (.int va5), .val (.double (FP.i2d vb5)), .second, .val (.int (1 : Int32)), .val (.int (4 : Int32))] [(.double (FP.i2d vb5)), (.int (1 : Int32)), (.ref ky)])) rfl rfl (hb hby d5_159)
          refine Goes.step st187 ?_
          have V187 := Arv.set Ar186 q186 S186 P186 H186 G186 rfl W187 1 rfl (Nat.le_of_ble_eq_true rfl)
          have f188 := f178.other W187 (Or.inl ne2)
          have f189 := f179.other W187 (Or.inl ne2)
          have f190 := f180.other W187 (Or.inl ne2)
          have f191 := f181.wr W187
          have f192 := f182.other W187 ne3
          have f193 := V187
          have K194 : Keep h0 h187 [x0, nd, ky] := K184.wr W187 (Or.inl (List.mem_of_getElem? (i := 2) rfl))
          have Z194 : n0 ≤ h187.size := by rw [Wr.size W187]; exact Z184
          have N194 := Fr.snoc X187 N184 g_ky
          show Goes _ _ _ _ _ _ _ (T187.setTop (mkF m 160 _ []))
          refine Goes.step (fun _ k => XS.iloadN X187.here hx rfl (hb hby d5_160) rfl  k) ?_
          have ph0 := own_nl c80_24
          have ph1 := own_l c95_95
          have ph2 := own_l c80_126
          have ph3 := own_nl c95_129
          exact Goes.ret X187 hx (BodyLoose.notSynchronized Bd) Bd.returns rfl (Or.inl ⟨rfl, by simp, _, rfl⟩) (hb hby d5_161) (by show Q5_6 Z x0 nd ky kn kd va0 va1 va2 va3 va4 va5 vb0 vb1 vb2 vb3 vb4 vb5 h0 n0 (some (.int va0)) T187.heap _; rw [e187]; exact ⟨N194, K194, rfl, f188, f189, f190, va1, va5, va2, va3, va4, va5, vb1, vb5, vb2, vb3, vb4, vb5, f192, f193, (List.Perm.map (fun i => ([(va1, vb1), (va2, vb2), (va3, vb3), (va4, vb4), (va5, vb5)] : List (Int32 × Int32)).getD i (0, 0)) (by decide : ([0, 4, 1, 2, 3] : List Nat).Perm [0, 1, 2, 3, 4])), by omega, by omega, by omega, by omega, by omega⟩) (by decide) (by decide)
      · refine Goes.step (fun _ k => XS.ifYes X124.here hx rfl (pc0 := 80) (pc' := 86) rfl (hb hby d5_80) rfl ((if0 _ _).trans (flt (fun q => c80_126 ((own_dlt _ _ _).mp q))).2.1) (by decide) (by decide) k) ?_
        show Goes _ _ _ _ _ _ _ (T124.setTop (mkF m 86 _ []))
        refine Goes.step (fun _ k => XS.aloadN X124.here hx rfl (hb hby d5_86) rfl rfl k) ?_
        obtain ⟨T195, X195, e195, st195⟩ := getF X124 hx hZ hown (host := "") (Or.inl w_17) Via.refl e124 f115 (g := (mkF m 87 #[.val (.ref x0), .val (.int va0), .val (.int va5), .val (.double (FP.i2d vb5)), .second, .val (.int (1 : Int32)), .val (.int (3 : Int32))] [(.ref x0)])) rfl rfl (hb hby d5_87)
        refine Goes.step st195 ?_
        show Goes _ _ _ _ _ _ _ (T195.setTop (mkF m 90 _ [(.ref ky)]))
        refine Goes.step (fun _ k => XS.iload X195.here hx rfl (hb hby d5_90) rfl  k) ?_
        obtain ⟨cl196, Ar196, q196, S196, P196, H196, G196⟩ := id f118
        have hin196 : ¬ ((3 : Int32) < 0 ∨ cl196.slots.size ≤ ((3 : Int32)).toNatClampNeg) := inb_of S196 ⟨by decide, by decide⟩
        have hat196 : cl196.slots[((3 : Int32)).toNatClampNeg]? = some (.double (FP.i2d vb3)) := H196 _ (by rw [S196]; decide)
        refine Goes.step (fun _ k => X195.daload hx (j := (3 : Int32)) (v := (.double (FP.i2d vb3))) (by rw [e195]; exact Ar196.1) (State.isArrayOf_alike hZ.alike Ar196.2.1) Ar196.2.2 hin196 hat196 (g := (mkF m 92 #[.val (.ref x0), .val (.int va0), .val (.int va5), .val (.double (FP.i2d vb5)), .second, .val (.int (1 : Int32)), .val (.int (3 : Int32))] [(.int (3 : Int32)), (.ref ky)])) rfl rfl (hb hby d5_92) _ k) ?_
        show Goes _ _ _ _ _ _ _ (T195.setTop (mkF m 93 _ [(.double (FP.i2d vb3))]))
        refine Goes.step (fun _ k => XS.dloadN X195.here hx rfl (hb hby d5_93) rfl k) ?_
        refine Goes.step (fun _ k => XS.dcmpS X195.here hx rfl (hb hby d5_94) rfl rfl k) ?_
        show Goes _ _ _ _ _ _ _ (T195.setTop (mkF m 95 _ [(.int (cmpValue (FP.dcmp (FP.i2d vb3) (FP.i2d vb5)) .l))]))
        by_cases c95_197 : vb3 < vb5
        · refine Goes.step (fun _ k => XS.ifYes X195.here hx rfl (pc0 := 95) (pc' := 101) rfl (hb hby d5_95) rfl ((if0 _ _).trans (tlt ((own_dlt _ _ _).mpr c95_197)).1) (by decide) (by decide) k) ?_
          show Goes _ _ _ _ _ _ _ (T195.setTop (mkF m 101 _ []))
          refine Goes.step (fun _ k => XS.aloadN X195.here hx rfl (hb hby d5_101) rfl rfl k) ?_
          obtain ⟨T198, X198, e198, st198⟩ := getF X195 hx hZ hown (host := "") (Or.inl w_14) Via.refl e195 f114 (g := (mkF m 102 #[.val (.ref x0), .val (.int va0), .val (.int va5), .val (.double (FP.i2d vb5)), .second, .val (.int (1 : Int32)), .val (.int (3 : Int32))] [(.ref x0)])) rfl rfl (hb hby d5_102)
          refine Goes.step st198 ?_
          show Goes _ _ _ _ _ _ _ (T198.setTop (mkF m 105 _ [(.ref nd)]))
          refine Goes.step (fun _ k => XS.iload X198.here hx rfl (hb hby d5_105) rfl  k) ?_
          refine Goes.step (fun _ k => XS.aloadN X198.here hx rfl (hb hby d5_107) rfl rfl k) ?_
          obtain ⟨T199, X199, e199, st199⟩ := getF X198 hx hZ hown (host := "") (Or.inl w_14) Via.refl e198 f114 (g := (mkF m 108 #[.val (.ref x0), .val (.int va0), .val (.int va5), .val (.double (FP.i2d vb5)), .second, .val (.int (1 : Int32)), .val (.int (3 : Int32))] [(.ref x0), (.int (1 : Int32)), (.ref nd)])) rfl rfl (hb hby d5_108)
          refine Goes.step st199 ?_
          show Goes _ _ _ _ _ _ _ (T199.setTop (mkF m 111 #[.val (.ref x0), .val (.int va0), .val (.int va5), .val (.double (FP.i2d vb5)), .second, .val (.int (1 : Int32)), .val (.int (3 : Int32))] [(.ref nd), (.int (1 : Int32)), (.ref nd)]))
          refine Goes.step (fun _ k => XS.iload X199.here hx rfl (hb hby d5_111) rfl  k) ?_
          obtain ⟨cl200, Ar200, q200, S200, P200, H200, G200⟩ := id f117
          have hin200 : ¬ ((3 : Int32) < 0 ∨ cl200.slots.size ≤ ((3 : Int32)).toNatClampNeg) := inb_of S200 ⟨by decide, by decide⟩
          have hat200 : cl200.slots[((3 : Int32)).toNatClampNeg]? = some (.int va3) := H200 _ (by rw [S200]; decide)
          refine Goes.step (fun _ k => X199.iaload hx (j := (3 : Int32)) (v := (.int va3)) (by rw [e199]; exact Ar200.1) (State.isArrayOf_alike hZ.alike Ar200.2.1) Ar200.2.2 hin200 hat200 (g := (mkF m 113 #[.val (.ref x0), .val (.int va0), .val (.int va5), .val (.double (FP.i2d vb5)), .second, .val (.int (1 : Int32)), .val (.int (3 : Int32))] [(.int (3 : Int32)), (.ref nd), (.int (1 : Int32)), (.ref nd)])) rfl rfl (hb hby d5_113) _ k) ?_
          show Goes _ _ _ _ _ _ _ (T199.setTop (mkF m 114 _ [(.int va3), (.int (1 : Int32)), (.ref nd)]))
          obtain ⟨cl201, Ar201, q201, S201, P201, H201, G201⟩ := id f117
          have hin201 : ¬ ((1 : Int32) < 0 ∨ cl201.slots.size ≤ ((1 : Int32)).toNatClampNeg) := inb_of S201 ⟨by decide, by decide⟩
          obtain ⟨T202, h202, X202, e202, W202, st202⟩ := stI X199 hx hZ e199 Ar201 (j := (1 : Int32)) hin201 (g := (mkF m 114 #[.val (.ref x0), .val (.int va0), .val (.int va5), .val (.double (FP.i2d vb5)), .second, .val (.int (1 : Int32)), .val (.int (3 : Int32))] [(.int va3), (.int (1 : Int32)), (.ref nd)])) rfl rfl (hb hby d5_114)
          refine Goes.step st202 ?_
          have V202 := Arv.set Ar201 q201 S201 P201 H201 G201 rfl W202 1 rfl (Nat.le_of_ble_eq_true rfl)
          have f203 := f113.other W202 (Or.inl ne1)
          have f204 := f114.other W202 (Or.inl ne1)
          have f205 := f115.other W202 (Or.inl ne1)
          have f206 := f116.wr W202
          have f207 := V202
          have f208 := f118.other W202 (Ne.symm ne3)
          have K209 : Keep h0 h202 [x0, nd, ky] := K119.wr W202 (Or.inl (List.mem_of_getElem? (i := 1) rfl))
          have Z209 : n0 ≤ h202.size := by rw [Wr.size W202]; exact Z119
          have N209 := Fr.snoc X202 N119 g_nd
          show Goes _ _ _ _ _ _ _ (T202.setTop (mkF m 115 _ []))
          refine Goes.step (fun _ k => XS.aloadN X202.here hx rfl (hb hby d5_115) rfl rfl k) ?_
          obtain ⟨T210, X210, e210, st210⟩ := getF X202 hx hZ hown (host := "") (Or.inl w_17) Via.refl e202 f205 (g := (mkF m 116 #[.val (.ref x0), .val (.int va0), .val (.int va5), .val (.double (FP.i2d vb5)), .second, .val (.int (1 : Int32)), .val (.int (3 : Int32))] [(.ref x0)])) rfl rfl (hb hby d5_116)
          refine Goes.step st210 ?_
          show Goes _ _ _ _ _ _ _ (T210.setTop (mkF m 119 _ [(.ref ky)]))
          refine Goes.step (fun _ k => XS.iload X210.here hx rfl (hb hby d5_119) rfl  k) ?_
          refine Goes.step (fun _ k => XS.aloadN X210.here hx rfl (hb hby d5_121) rfl rfl k) ?_
          obtain ⟨T211, X211, e211, st211⟩ := getF X210 hx hZ hown (host := "") (Or.inl w_17) Via.refl e210 f205 (g := (mkF m 122 #[.val (.ref x0), .val (.int va0), .val (.int va5), .val (.double (FP.i2d vb5)), .second, .val (.int (1 : Int32)), .val (.int (3 : Int32))] [(.ref x0), (.int (1 : Int32)), (.ref ky)])) rfl rfl (hb hby d5_122)
          refine Goes.step st211 ?_
          show Goes _ _ _ _ _ _ _ (T211.setTop (mkF m 125 _ [(.ref ky), (.int (1 : Int32)), (.ref ky)]))
          refine Goes.step (fun _ k => XS.iload X211.here hx rfl (hb hby d5_125) rfl  k) ?_
          obtain ⟨cl212, Ar212, q212, S212, P212, H212, G212⟩ := id f208
          have hin212 : ¬ ((3 : Int32) < 0 ∨ cl212.slots.size ≤ ((3 : Int32)).toNatClampNeg) := inb_of S212 ⟨by decide, by decide⟩
          have hat212 : cl212.slots[((3 : Int32)).toNatClampNeg]? = some (.double (FP.i2d vb3)) := H212 _ (by rw [S212]; decide)
          refine Goes.step (fun _ k => X211.daload hx (j := (3 : Int32)) (v := (.double (FP.i2d vb3))) (by rw [e211]; exact Ar212.1) (State.isArrayOf_alike hZ.alike Ar212.2.1) Ar212.2.2 hin212 hat212 (g := (mkF m 127 #[.val (.ref x0), .val (.int va0), .val (.int va5), .val (.double (FP.i2d vb5)), .second, .val (.int (1 : Int32)), .val (.int (3 : Int32))] [(.int (3 : Int32)), (.ref ky), (.int (1 : Int32)), (.ref ky)])) rfl rfl (hb hby d5_127) _ k) ?_
          show Goes _ _ _ _ _ _ _ (T211.setTop (mkF m 128 _ [(.double (FP.i2d vb3)), (.int (1 : Int32)), (.ref ky)]))
          obtain ⟨cl213, Ar213, q213, S213, P213, H213, G213⟩ := id f208
          have hin213 : ¬ ((1 : Int32) < 0 ∨ cl213.slots.size ≤ ((1 : Int32)).toNatClampNeg) := inb_of S213 ⟨by decide, by decide⟩
          obtain ⟨T214, h214, X214, e214, W214, st214⟩ := stD X211 hx hZ e211 Ar213 (j := (1 : Int32)) hin213 (g := (mkF m 128 #[.val (.ref x0), .val (.int va0), .val (.int va5), .val (.double (FP.i2d vb5)), .second, .val (.int (1 : Int32)), .val (.int (3 : Int32))] [(.double (FP.i2d vb3)), (.int (1 : Int32)), (.ref ky)])) rfl rfl (hb hby d5_128)
          refine Goes.step st214 ?_
          have V214 := Arv.set Ar213 q213 S213 P213 H213 G213 rfl W214 1 rfl (Nat.le_of_ble_eq_true rfl)
          have f215 := f203.other W214 (Or.inl ne2)
          have f216 := f204.other W214 (Or.inl ne2)
          have f217 := f205.other W214 (Or.inl ne2)
          have f218 := f206.wr W214
          have f219 := f207.other W214 ne3
          have f220 := V214
          have K221 : Keep h0 h214 [x0, nd, ky] := K209.wr W214 (Or.inl (List.mem_of_getElem? (i := 2) rfl))
          have Z221 : n0 ≤ h214.size := by rw [Wr.size W214]; exact Z209
          have N221 := Fr.snoc X214 N209 g_ky
          show Goes _ _ _ _ _ _ _ (T214.setTop (mkF m 129 _ []))
          refine Goes.step (fun _ k => XS.iload X214.here hx rfl (hb hby d5_129) rfl  k) ?_
          refine Goes.step (fun _ k => XS.istore X214.here hx rfl (hb hby d5_131) rfl (l' := #[.val (.ref x0), .val (.int va0), .val (.int va5), .val (.double (FP.i2d vb5)), .second, .val (.int (3 : Int32)), .val (.int (3 : Int32))]) rfl k) ?_
          show Goes _ _ _ _ _ _ _ (T214.setTop (mkF m 133 #[.val (.ref x0), .val (.int va0), .val (.int va5), .val (.double (FP.i2d vb5)), .second, .val (.int (3 : Int32)), .val (.int (3 : Int32))] []))
          refine Goes.step (fun _ k => XS.iconst X214.here hx rfl (hb hby d5_133) k) ?_
          refine Goes.step (fun _ k => XS.iload X214.here hx rfl (hb hby d5_134) rfl  k) ?_
          refine Goes.step (fun _ k => XS.imul X214.here hx rfl (hb hby d5_136) rfl k) ?_
          show Goes _ _ _ _ _ _ _ (T214.setTop (mkF m 137 _ [(.int (6 : Int32))]))
          refine Goes.step (fun _ k => XS.iconst X214.here hx rfl (hb hby d5_137) k) ?_
          refine Goes.step (fun _ k => XS.iadd X214.here hx rfl (hb hby d5_138) rfl k) ?_
          show Goes _ _ _ _ _ _ _ (T214.setTop (mkF m 139 _ [(.int (7 : Int32))]))
          refine Goes.step (fun _ k => XS.istore X214.here hx rfl (hb hby d5_139) rfl (l' := #[.val (.ref x0), .val (.int va0), .val (.int va5), .val (.double (FP.i2d vb5)), .second, .val (.int (3 : Int32)), .val (.int (7 : Int32))]) rfl k) ?_
          show Goes _ _ _ _ _ _ _ (T214.setTop (mkF m 141 _ []))
          refine Goes.step (fun _ k => XS.goto X214.here hx rfl (pc0 := 141) (pc' := 43) rfl (hb hby d5_141) (by decide) (by decide) k) ?_
          show Goes _ _ _ _ _ _ _ (T214.setTop (mkF m 43 _ []))
          refine Goes.step (fun _ k => XS.iload X214.here hx rfl (hb hby d5_43) rfl  k) ?_
          refine Goes.step (fun _ k => XS.aloadN X214.here hx rfl (hb hby d5_45) rfl rfl k) ?_
          obtain ⟨T222, X222, e222, st222⟩ := getF X214 hx hZ hown (host := "") (Or.inl w_24) Via.refl e214 f215 (g := (mkF m 46 #[.val (.ref x0), .val (.int va0), .val (.int va5), .val (.double (FP.i2d vb5)), .second, .val (.int (3 : Int32)), .val (.int (7 : Int32))] [(.ref x0), (.int (7 : Int32))])) rfl rfl (hb hby d5_46)
          refine Goes.step st222 ?_
          show Goes _ _ _ _ _ _ _ (T222.setTop (mkF m 49 _ [(.int (5 : Int32)), (.int (7 : Int32))]))
          refine Goes.step (fun _ k => XS.icmpYes X222.here hx rfl (pc0 := 49) (pc' := 144) rfl (hb hby d5_49) rfl (flt (by decide : ¬ ((7 : Int32) < (5 : Int32)))).2.1 (by decide) (by decide) k) ?_
          show Goes _ _ _ _ _ _ _ (T222.setTop (mkF m 144 _ []))
          refine Goes.step (fun _ k => XS.aloadN X222.here hx rfl (hb hby d5_144) rfl rfl k) ?_
          obtain ⟨T223, X223, e223, st223⟩ := getF X222 hx hZ hown (host := "") (Or.inl w_14) Via.refl e222 f216 (g := (mkF m 145 #[.val (.ref x0), .val (.int va0), .val (.int va5), .val (.double (FP.i2d vb5)), .second, .val (.int (3 : Int32)), .val (.int (7 : Int32))] [(.ref x0)])) rfl rfl (hb hby d5_145)
          refine Goes.step st223 ?_
          show Goes _ _ _ _ _ _ _ (T223.setTop (mkF m 148 #[.val (.ref x0), .val (.int va0), .val (.int va5), .val (.double (FP.i2d vb5)), .second, .val (.int (3 : Int32)), .val (.int (7 : Int32))] [(.ref nd)]))
          refine Goes.step (fun _ k => XS.iload X223.here hx rfl (hb hby d5_148) rfl  k) ?_
          refine Goes.step (fun _ k => XS.iloadN X223.here hx rfl (hb hby d5_150) rfl  k) ?_
          obtain ⟨cl224, Ar224, q224, S224, P224, H224, G224⟩ := id f219
          have hin224 : ¬ ((3 : Int32) < 0 ∨ cl224.slots.size ≤ ((3 : Int32)).toNatClampNeg) := inb_of S224 ⟨by decide, by decide⟩
          obtain ⟨T225, h225, X225, e225, W225, st225⟩ := stI X223 hx hZ e223 Ar224 (j := (3 : Int32)) hin224 (g := (mkF m 151 #[.val (.ref x0), .val (.int va0), .val (.int va5), .val (.double (FP.i2d vb5)), .second, .val (.int (3 : Int32)), .val (.int (7 : Int32))] [(.int va5), (.int (3 : Int32)), (.ref nd)])) rfl rfl (hb hby d5_151)
          refine Goes.step st225 ?_
          have V225 := Arv.set Ar224 q224 S224 P224 H224 G224 rfl W225 3 rfl (Nat.le_of_ble_eq_true rfl)
          have f226 := f215.other W225 (Or.inl ne1)
          have f227 := f216.other W225 (Or.inl ne1)
          have f228 := f217.other W225 (Or.inl ne1)
          have f229 := f218.wr W225
          have f230 := V225
          have f231 := f220.other W225 (Ne.symm ne3)
          have K232 : Keep h0 h225 [x0, nd, ky] := K221.wr W225 (Or.inl (List.mem_of_getElem? (i := 1) rfl))
          have Z232 : n0 ≤ h225.size := by rw [Wr.size W225]; exact Z221
          have N232 := Fr.snoc X225 N221 g_nd
          show Goes _ _ _ _ _ _ _ (T225.setTop (mkF m 152 _ []))
          refine Goes.step (fun _ k => XS.aloadN X225.here hx rfl (hb hby d5_152) rfl rfl k) ?_
          obtain ⟨T233, X233, e233, st233⟩ := getF X225 hx hZ hown (host := "") (Or.inl w_17) Via.refl e225 f228 (g := (mkF m 153 #[.val (.ref x0), .val (.int va0), .val (.int va5), .val (.double (FP.i2d vb5)), .second, .val (.int (3 : Int32)), .val (.int (7 : Int32))] [(.ref x0)])) rfl rfl (hb hby d5_153)
          refine Goes.step st233 ?_
          show Goes _ _ _ _ _ _ _ (T233.setTop (mkF m 156 _ [(.ref ky)]))
          refine Goes.step (fun _ k => XS.iload X233.here hx rfl (hb hby d5_156) rfl  k) ?_
          refine Goes.step (fun _ k => XS.dloadN X233.here hx rfl (hb hby d5_158) rfl k) ?_
          obtain ⟨cl234, Ar234, q234, S234, P234, H234, G234⟩ := id f231
          have hin234 : ¬ ((3 : Int32) < 0 ∨ cl234.slots.size ≤ ((3 : Int32)).toNatClampNeg) := inb_of S234 ⟨by decide, by decide⟩
          obtain ⟨T235, h235, X235, e235, W235, st235⟩ := stD X233 hx hZ e233 Ar234 (j := (3 : Int32)) hin234 (g := (mkF m 159 #[.val (.ref x0), .val (.int va0), .val (.int va5), .val (.double (FP.i2d vb5)), .second, .val (.int (3 : Int32)), .val (.int (7 : Int32))] [(.double (FP.i2d vb5)), (.int (3 : Int32)), (.ref ky)])) rfl rfl (hb hby d5_159)
          refine Goes.step st235 ?_
          have V235 := Arv.set Ar234 q234 S234 P234 H234 G234 rfl W235 3 rfl (Nat.le_of_ble_eq_true rfl)
          have f236 := f226.other W235 (Or.inl ne2)
          have f237 := f227.other W235 (Or.inl ne2)
          have f238 := f228.other W235 (Or.inl ne2)
          have f239 := f229.wr W235
          have f240 := f230.other W235 ne3
          have f241 := V235
          have K242 : Keep h0 h235 [x0, nd, ky] := K232.wr W235 (Or.inl (List.mem_of_getElem? (i := 2) rfl))
          have Z242 : n0 ≤ h235.size := by rw [Wr.size W235]; exact Z232
          have N242 := Fr.snoc X235 N232 g_ky
          show Goes _ _ _ _ _ _ _ (T235.setTop (mkF m 160 _ []))
          refine Goes.step (fun _ k => XS.iloadN X235.here hx rfl (hb hby d5_160) rfl  k) ?_
          have ph0 := own_nl c80_24
          have ph1 := own_l c95_95
          have ph2 := own_nl c80_126
          have ph3 := own_l c95_197
          exact Goes.ret X235 hx (BodyLoose.notSynchronized Bd) Bd.returns rfl (Or.inl ⟨rfl, by simp, _, rfl⟩) (hb hby d5_161) (by show Q5_6 Z x0 nd ky kn kd va0 va1 va2 va3 va4 va5 vb0 vb1 vb2 vb3 vb4 vb5 h0 n0 (some (.int va0)) T235.heap _; rw [e235]; exact ⟨N242, K242, rfl, f236, f237, f238, va1, va3, va2, va5, va4, va5, vb1, vb3, vb2, vb5, vb4, vb5, f240, f241, (List.Perm.map (fun i => ([(va1, vb1), (va2, vb2), (va3, vb3), (va4, vb4), (va5, vb5)] : List (Int32 × Int32)).getD i (0, 0)) (by decide : ([0, 2, 1, 4, 3] : List Nat).Perm [0, 1, 2, 3, 4])), by omega, by omega, by omega, by omega, by omega⟩) (by decide) (by decide)
        · refine Goes.step (fun _ k => XS.ifNo X195.here hx rfl (hb hby d5_95) rfl ((if0 _ _).trans (flt (fun q => c95_197 ((own_dlt _ _ _).mp q))).1) k) ?_
          show Goes _ _ _ _ _ _ _ (T195.setTop (mkF m 98 _ []))
          refine Goes.step (fun _ k => XS.goto X195.here hx rfl (pc0 := 98) (pc' := 144) rfl (hb hby d5_98) (by decide) (by decide) k) ?_
          show Goes _ _ _ _ _ _ _ (T195.setTop (mkF m 144 _ []))
          refine Goes.step (fun _ k => XS.aloadN X195.here hx rfl (hb hby d5_144) rfl rfl k) ?_
          obtain ⟨T243, X243, e243, st243⟩ := getF X195 hx hZ hown (host := "") (Or.inl w_14) Via.refl e195 f114 (g := (mkF m 145 #[.val (.ref x0), .val (.int va0), .val (.int va5), .val (.double (FP.i2d vb5)), .second, .val (.int (1 : Int32)), .val (.int (3 : Int32))] [(.ref x0)])) rfl rfl (hb hby d5_145)
          refine Goes.step st243 ?_
          show Goes _ _ _ _ _ _ _ (T243.setTop (mkF m 148 #[.val (.ref x0), .val (.int va0), .val (.int va5), .val (.double (FP.i2d vb5)), .second, .val (.int (1 : Int32)), .val (.int (3 : Int32))] [(.ref nd)]))
          refine Goes.step (fun _ k => XS.iload X243.here hx rfl (hb hby d5_148) rfl  k) ?_
          refine Goes.step (fun _ k => XS.iloadN X243.here hx rfl (hb hby d5_150) rfl  k) ?_
          obtain ⟨cl244, Ar244, q244, S244, P244, H244, G244⟩ := id f117
          have hin244 : ¬ ((1 : Int32) < 0 ∨ cl244.slots.size ≤ ((1 : Int32)).toNatClampNeg) := inb_of S244 ⟨by decide, by decide⟩
          obtain ⟨T245, h245, X245, e245, W245, st245⟩ := stI X243 hx hZ e243 Ar244 (j := (1 : Int32)) hin244 (g := (mkF m 151 #[.val (.ref x0), .val (.int va0), .val (.int va5), .val (.double (FP.i2d vb5)), .second, .val (.int (1 : Int32)), .val (.int (3 : Int32))] [(.int va5), (.int (1 : Int32)), (.ref nd)])) rfl rfl (hb hby d5_151)
          refine Goes.step st245 ?_
          have V245 := Arv.set Ar244 q244 S244 P244 H244 G244 rfl W245 1 rfl (Nat.le_of_ble_eq_true rfl)
          have f246 := f113.other W245 (Or.inl ne1)
          have f247 := f114.other W245 (Or.inl ne1)
          have f248 := f115.other W245 (Or.inl ne1)
          have f249 := f116.wr W245
          have f250 := V245
          have f251 := f118.other W245 (Ne.symm ne3)
          have K252 : Keep h0 h245 [x0, nd, ky] := K119.wr W245 (Or.inl (List.mem_of_getElem? (i := 1) rfl))
          have Z252 : n0 ≤ h245.size := by rw [Wr.size W245]; exact Z119
          have N252 := Fr.snoc X245 N119 g_nd
          show Goes _ _ _ _ _ _ _ (T245.setTop (mkF m 152 _ []))
          refine Goes.step (fun _ k => XS.aloadN X245.here hx rfl (hb hby d5_152) rfl rfl k) ?_
          obtain ⟨T253, X253, e253, st253⟩ := getF X245 hx hZ hown (host := "") (Or.inl w_17) Via.refl e245 f248 (g := (mkF m 153 #[.val (.ref x0), .val (.int va0), .val (.int va5), .val (.double (FP.i2d vb5)), .second, .val (.int (1 : Int32)), .val (.int (3 : Int32))] [(.ref x0)])) rfl rfl (hb hby d5_153)
          refine Goes.step st253 ?_
          show Goes _ _ _ _ _ _ _ (T253.setTop (mkF m 156 _ [(.ref ky)]))
          refine Goes.step (fun _ k => XS.iload X253.here hx rfl (hb hby d5_156) rfl  k) ?_
          refine Goes.step (fun _ k => XS.dloadN X253.here hx rfl (hb hby d5_158) rfl k) ?_
          obtain ⟨cl254, Ar254, q254, S254, P254, H254, G254⟩ := id f251
          have hin254 : ¬ ((1 : Int32) < 0 ∨ cl254.slots.size ≤ ((1 : Int32)).toNatClampNeg) := inb_of S254 ⟨by decide, by decide⟩
          obtain ⟨T255, h255, X255, e255, W255, st255⟩ := stD X253 hx hZ e253 Ar254 (j := (1 : Int32)) hin254 (g := (mkF m 159 #[.val (.ref x0), .val (.int va0), .val (.int va5), .val (.double (FP.i2d vb5)), .second, .val (.int (1 : Int32)), .val (.int (3 : Int32))] [(.double (FP.i2d vb5)), (.int (1 : Int32)), (.ref ky)])) rfl rfl (hb hby d5_159)
          refine Goes.step st255 ?_
          have V255 := Arv.set Ar254 q254 S254 P254 H254 G254 rfl W255 1 rfl (Nat.le_of_ble_eq_true rfl)
          have f256 := f246.other W255 (Or.inl ne2)
          have f257 := f247.other W255 (Or.inl ne2)
          have f258 := f248.other W255 (Or.inl ne2)
          have f259 := f249.wr W255
          have f260 := f250.other W255 ne3
          have f261 := V255
          have K262 : Keep h0 h255 [x0, nd, ky] := K252.wr W255 (Or.inl (List.mem_of_getElem? (i := 2) rfl))
          have Z262 : n0 ≤ h255.size := by rw [Wr.size W255]; exact Z252
          have N262 := Fr.snoc X255 N252 g_ky
          show Goes _ _ _ _ _ _ _ (T255.setTop (mkF m 160 _ []))
          refine Goes.step (fun _ k => XS.iloadN X255.here hx rfl (hb hby d5_160) rfl  k) ?_
          have ph0 := own_nl c80_24
          have ph1 := own_l c95_95
          have ph2 := own_nl c80_126
          have ph3 := own_nl c95_197
          exact Goes.ret X255 hx (BodyLoose.notSynchronized Bd) Bd.returns rfl (Or.inl ⟨rfl, by simp, _, rfl⟩) (hb hby d5_161) (by show Q5_6 Z x0 nd ky kn kd va0 va1 va2 va3 va4 va5 vb0 vb1 vb2 vb3 vb4 vb5 h0 n0 (some (.int va0)) T255.heap _; rw [e255]; exact ⟨N262, K262, rfl, f256, f257, f258, va1, va5, va2, va3, va4, va5, vb1, vb5, vb2, vb3, vb4, vb5, f260, f261, (List.Perm.map (fun i => ([(va1, vb1), (va2, vb2), (va3, vb3), (va4, vb4), (va5, vb5)] : List (Int32 × Int32)).getD i (0, 0)) (by decide : ([0, 4, 1, 2, 3] : List Nat).Perm [0, 1, 2, 3, 4])), by omega, by omega, by omega, by omega, by omega⟩) (by decide) (by decide)
    · refine Goes.step (fun _ k => XS.ifNo X93.here hx rfl (hb hby d5_95) rfl ((if0 _ _).trans (flt (fun q => c95_95 ((own_dlt _ _ _).mp q))).1) k) ?_
      show Goes _ _ _ _ _ _ _ (T93.setTop (mkF m 98 _ []))
      refine Goes.step (fun _ k => XS.goto X93.here hx rfl (pc0 := 98) (pc' := 144) rfl (hb hby d5_98) (by decide) (by decide) k) ?_
      show Goes _ _ _ _ _ _ _ (T93.setTop (mkF m 144 _ []))
      refine Goes.step (fun _ k => XS.aloadN X93.here hx rfl (hb hby d5_144) rfl rfl k) ?_
      obtain ⟨T263, X263, e263, st263⟩ := getF X93 hx hZ hown (host := "") (Or.inl w_14) Via.refl e93 f6 (g := (mkF m 145 #[.val (.ref x0), .val (.int va0), .val (.int va5), .val (.double (FP.i2d vb5)), .second, .val (.int (0 : Int32)), .val (.int (1 : Int32))] [(.ref x0)])) rfl rfl (hb hby d5_145)
      refine Goes.step st263 ?_
      show Goes _ _ _ _ _ _ _ (T263.setTop (mkF m 148 _ [(.ref nd)]))
      refine Goes.step (fun _ k => XS.iload X263.here hx rfl (hb hby d5_148) rfl  k) ?_
      refine Goes.step (fun _ k => XS.iloadN X263.here hx rfl (hb hby d5_150) rfl  k) ?_
      obtain ⟨cl264, Ar264, q264, S264, P264, H264, G264⟩ := id f9
      have hin264 : ¬ ((0 : Int32) < 0 ∨ cl264.slots.size ≤ ((0 : Int32)).toNatClampNeg) := inb_of S264 ⟨by decide, by decide⟩
      obtain ⟨T265, h265, X265, e265, W265, st265⟩ := stI X263 hx hZ e263 Ar264 (j := (0 : Int32)) hin264 (g := (mkF m 151 #[.val (.ref x0), .val (.int va0), .val (.int va5), .val (.double (FP.i2d vb5)), .second, .val (.int (0 : Int32)), .val (.int (1 : Int32))] [(.int va5), (.int (0 : Int32)), (.ref nd)])) rfl rfl (hb hby d5_151)
      refine Goes.step st265 ?_
      have V265 := Arv.set Ar264 q264 S264 P264 H264 G264 rfl W265 0 rfl (Nat.le_of_ble_eq_true rfl)
      have f266 := f5.other W265 (Or.inl ne1)
      have f267 := f6.other W265 (Or.inl ne1)
      have f268 := f7.other W265 (Or.inl ne1)
      have f269 := f8.wr W265
      have f270 := V265
      have f271 := f10.other W265 (Ne.symm ne3)
      have K272 : Keep h0 h265 [x0, nd, ky] := K11.wr W265 (Or.inl (List.mem_of_getElem? (i := 1) rfl))
      have Z272 : n0 ≤ h265.size := by rw [Wr.size W265]; exact Z11
      have N272 := Fr.snoc X265 N11 g_nd
      show Goes _ _ _ _ _ _ _ (T265.setTop (mkF m 152 #[.val (.ref x0), .val (.int va0), .val (.int va5), .val (.double (FP.i2d vb5)), .second, .val (.int (0 : Int32)), .val (.int (1 : Int32))] []))
      refine Goes.step (fun _ k => XS.aloadN X265.here hx rfl (hb hby d5_152) rfl rfl k) ?_
      obtain ⟨T273, X273, e273, st273⟩ := getF X265 hx hZ hown (host := "") (Or.inl w_17) Via.refl e265 f268 (g := (mkF m 153 #[.val (.ref x0), .val (.int va0), .val (.int va5), .val (.double (FP.i2d vb5)), .second, .val (.int (0 : Int32)), .val (.int (1 : Int32))] [(.ref x0)])) rfl rfl (hb hby d5_153)
      refine Goes.step st273 ?_
      show Goes _ _ _ _ _ _ _ (T273.setTop (mkF m 156 _ [(.ref ky)]))
      refine Goes.step (fun _ k => XS.iload X273.here hx rfl (hb hby d5_156) rfl  k) ?_
      refine Goes.step (fun _ k => XS.dloadN X273.here hx rfl (hb hby d5_158) rfl k) ?_
      obtain ⟨cl274, Ar274, q274, S274, P274, H274, G274⟩ := id f271
      have hin274 : ¬ ((0 : Int32) < 0 ∨ cl274.slots.size ≤ ((0 : Int32)).toNatClampNeg) := inb_of S274 ⟨by decide, by decide⟩
      obtain ⟨T275, h275, X275, e275, W275, st275⟩ := stD X273 hx hZ e273 Ar274 (j := (0 : Int32)) hin274 (g := (mkF m 159 #[.val (.ref x0), .val (.int va0), .val (.int va5), .val (.double (FP.i2d vb5)), .second, .val (.int (0 : Int32)), .val (.int (1 : Int32))] [(.double (FP.i2d vb5)), (.int (0 : Int32)), (.ref ky)])) rfl rfl (hb hby d5_159)
      refine Goes.step st275 ?_
      have V275 := Arv.set Ar274 q274 S274 P274 H274 G274 rfl W275 0 rfl (Nat.le_of_ble_eq_true rfl)
      have f276 := f266.other W275 (Or.inl ne2)
      have f277 := f267.other W275 (Or.inl ne2)
      have f278 := f268.other W275 (Or.inl ne2)
      have f279 := f269.wr W275
      have f280 := f270.other W275 ne3
      have f281 := V275
      have K282 : Keep h0 h275 [x0, nd, ky] := K272.wr W275 (Or.inl (List.mem_of_getElem? (i := 2) rfl))
      have Z282 : n0 ≤ h275.size := by rw [Wr.size W275]; exact Z272
      have N282 := Fr.snoc X275 N272 g_ky
      show Goes _ _ _ _ _ _ _ (T275.setTop (mkF m 160 _ []))
      refine Goes.step (fun _ k => XS.iloadN X275.here hx rfl (hb hby d5_160) rfl  k) ?_
      have ph0 := own_nl c80_24
      have ph1 := own_nl c95_95
      exact Goes.ret X275 hx (BodyLoose.notSynchronized Bd) Bd.returns rfl (Or.inl ⟨rfl, by simp, _, rfl⟩) (hb hby d5_161) (by show Q5_6 Z x0 nd ky kn kd va0 va1 va2 va3 va4 va5 vb0 vb1 vb2 vb3 vb4 vb5 h0 n0 (some (.int va0)) T275.heap _; rw [e275]; exact ⟨N282, K282, rfl, f276, f277, f278, va5, va1, va2, va3, va4, va5, vb5, vb1, vb2, vb3, vb4, vb5, f280, f281, (List.Perm.map (fun i => ([(va1, vb1), (va2, vb2), (va3, vb3), (va4, vb4), (va5, vb5)] : List (Int32 × Int32)).getD i (0, 0)) (by decide : ([4, 0, 1, 2, 3] : List Nat).Perm [0, 1, 2, 3, 4])), by omega, by omega, by omega, by omega, by omega⟩) (by decide) (by decide)
theorem ef_5_5 (m : MethodId) (x0 : Addr) (nd : Addr) (ky : Addr) (kn : ClassId) (kd : ClassId) (va0 : Int32) (va1 : Int32) (va2 : Int32) (va3 : Int32) (va4 : Int32) (va5 : Int32) (vb0 : Int32) (vb1 : Int32) (vb2 : Int32) (vb3 : Int32) (vb4 : Int32) (vb5 : Int32)  : entryFrame m #[(.ref x0)] 7 = mkF m 0 #[.val (.ref x0), .unset, .unset, .unset, .unset, .unset, .unset] [] := by first | (simp [entryFrame, mkF, argsToLocals, Value.category]; done) | rfl
def Q5_5 (Z : State) (x0 : Addr) (nd : Addr) (ky : Addr) (kn : ClassId) (kd : ClassId) (va0 : Int32) (va1 : Int32) (va2 : Int32) (va3 : Int32) (va4 : Int32) (va5 : Int32) (vb0 : Int32) (vb1 : Int32) (vb2 : Int32) (vb3 : Int32) (vb4 : Int32) (vb5 : Int32) (h0 : Heap) (n0 : Nat) (v : Option Value) (h : Heap) (L : List Loc) : Prop := Fr n0 L ∧ Keep h0 h [x0, nd, ky] ∧ v = some (.int va0) ∧ Fld Z h x0 "com/example/hailwise/hailwise/NodeQueue" "size" "I" (.int (4 : Int32)) ∧ Fld Z h x0 "com/example/hailwise/hailwise/NodeQueue" "nodes" "[I" (.ref nd) ∧ Fld Z h x0 "com/example/hailwise/hailwise/NodeQueue" "keys" "[D" (.ref ky) ∧ ∃ p0 p1 p2 p3 p4 p5 q0 q1 q2 q3 q4 q5 : Int32, Arv Z h nd kn .int (64 : Int32) [(.int p0), (.int p1), (.int p2), (.int p3), (.int p4), (.int p5)] (.int (0 : Int32)) ∧ Arv Z h ky kd .double (64 : Int32) [(.double (FP.i2d q0)), (.double (FP.i2d q1)), (.double (FP.i2d q2)), (.double (FP.i2d q3)), (.double (FP.i2d q4)), (.double (FP.i2d q5))] (.double (0 : UInt64)) ∧ ([(p0, q0), (p1, q1), (p2, q2), (p3, q3)] : List (Int32 × Int32)).Perm ([(va1, vb1), (va2, vb2), (va3, vb3), (va4, vb4)] : List (Int32 × Int32)) ∧ q0.toInt ≤ q1.toInt ∧ q0.toInt ≤ q2.toInt ∧ q1.toInt ≤ q3.toInt ∧ vb0.toInt ≤ q0.toInt
set_option maxRecDepth 65536 in
set_option maxHeartbeats 40000000 in
theorem rm5_5 (l : Launch) (Z : State) (a0 : Array Value) (hw : ∀ d ∈ tables_1, d.before a0 Z = true) (ws : List Jvm.Cond) (x0 : Addr) (nd : Addr) (ky : Addr) (kn : ClassId) (kd : ClassId) (va0 : Int32) (va1 : Int32) (va2 : Int32) (va3 : Int32) (va4 : Int32) (va5 : Int32) (vb0 : Int32) (vb1 : Int32) (vb2 : Int32) (vb3 : Int32) (vb4 : Int32) (vb5 : Int32) (h0 : Heap) (n0 : Nat) (Z0 : n0 ≤ h0.size) (F_size : Fld Z h0 x0 "com/example/hailwise/hailwise/NodeQueue" "size" "I" (.int (5 : Int32))) (F_nd : Fld Z h0 x0 "com/example/hailwise/hailwise/NodeQueue" "nodes" "[I" (.ref nd)) (F_ky : Fld Z h0 x0 "com/example/hailwise/hailwise/NodeQueue" "keys" "[D" (.ref ky)) (E_x0 : Exa Z h0 x0 "com/example/hailwise/hailwise/NodeQueue") (V_nd : Arv Z h0 nd kn .int (64 : Int32) [(.int va0), (.int va1), (.int va2), (.int va3), (.int va4), (.int va5)] (.int (0 : Int32))) (V_ky : Arv Z h0 ky kd .double (64 : Int32) [(.double (FP.i2d vb0)), (.double (FP.i2d vb1)), (.double (FP.i2d vb2)), (.double (FP.i2d vb3)), (.double (FP.i2d vb4)), (.double (FP.i2d vb5))] (.double (0 : UInt64))) (g_x0 : n0 ≤ x0) (g_nd : n0 ≤ nd) (g_ky : n0 ≤ ky) (ne1 : x0 ≠ nd) (ne2 : x0 ≠ ky) (ne3 : nd ≠ ky) (ho01 : vb0.toInt ≤ vb1.toInt) (ho02 : vb0.toInt ≤ vb2.toInt) (ho13 : vb1.toInt ≤ vb3.toInt) (ho14 : vb1.toInt ≤ vb4.toInt) :
    MetFree l (⟨"com/example/hailwise/hailwise/NodeQueue", "poll", "()I"⟩ : MethodName) (head1 (Jvm.Cond.code (⟨"com/example/hailwise/hailwise/NodeQueue", "poll", "()I"⟩ : MethodName) prog_21_method_6_code 7 (some .int) :: ws) ({ frames := 0, cells := 0, slots := 0, locals := 0 } : Room)) (fun a U => a = #[(.ref x0)] ∧ Z.Warmed39 U.vm ∧ U.heap = h0) (fun _ _ _ _ _ => True) (fun _ U o U' => ∃ v L, o = .returned v ∧ Q5_5 Z x0 nd ky kn kd va0 va1 va2 va3 va4 va5 vb0 vb1 vb2 vb3 vb4 vb5 h0 n0 v U'.heap L ∧ FrameEnd U o U' L ({ frames := 0, cells := 0, slots := 0, locals := 0 } : Room).cells ({ frames := 0, cells := 0, slots := 0, locals := 0 } : Room).slots) := by
  refine MetFree.of_bodySF (plainFor_of_name pn_5) hisR ?_
  intro p e s m args below meth c s₁ Bd hml0 hP hK
  obtain ⟨rfl, hZ, hh⟩ := hP
  have w_6 := hw _ (List.mem_of_getElem? (i := 6) rfl)
  have w_14 := hw _ (List.mem_of_getElem? (i := 14) rfl)
  have w_15 := hw _ (List.mem_of_getElem? (i := 15) rfl)
  have w_17 := hw _ (List.mem_of_getElem? (i := 17) rfl)
  have w_18 := hw _ (List.mem_of_getElem? (i := 18) rfl)
  have w_24 := hw _ (List.mem_of_getElem? (i := 24) rfl)
  have w_25 := hw _ (List.mem_of_getElem? (i := 25) rfl)
  have hx := Bd.exec
  have hby := Bd.bytes
  have hml : c.maxLocals = 7 := hml0
  have hown : s.vm.findClass "com/example/hailwise/hailwise/NodeQueue" = some m.cls := findClass_of_methodNamed Bd.named
  have hnm := (name_of_methodNamed Bd.named Bd.method).1
  have X0 : Stand p l e ({ frames := 0, cells := 0, slots := 0, locals := 0 } : Room) s m #[(.ref x0)] below meth c s₁ [] 0 0 := Stand.of_body Bd
  have e0 : s₁.heap = h0 := by rw [← hh, Bd.state]; rfl
  have N0 := Fr.nil n0
  have K0 : Keep h0 h0 [x0, nd, ky] := Keep.refl h0 _
  refine (?_ : Goes p e below s ({ frames := 0, cells := 0, slots := 0, locals := 0 } : Room).cells ({ frames := 0, cells := 0, slots := 0, locals := 0 } : Room).slots (fun v h L => Q5_5 Z x0 nd ky kn kd va0 va1 va2 va3 va4 va5 vb0 vb1 vb2 vb3 vb4 vb5 h0 n0 v h L) (s₁.setTop (entryFrame m #[(.ref x0)] 7)))
  rw [ef_5_5 m x0 nd ky kn kd va0 va1 va2 va3 va4 va5 vb0 vb1 vb2 vb3 vb4 vb5 ]
  show Goes _ _ _ _ _ _ _ (s₁.setTop (mkF m 0 #[.val (.ref x0), .unset, .unset, .unset, .unset, .unset, .unset] []))
  refine Goes.step (fun _ k => XS.aloadN X0.here hx rfl (hb hby d5_0) rfl rfl k) ?_
  obtain ⟨T1, X1, e1, st1⟩ := getF X0 hx hZ hown (host := "") (Or.inl w_14) Via.refl e0 F_nd (g := (mkF m 1 #[.val (.ref x0), .unset, .unset, .unset, .unset, .unset, .unset] [(.ref x0)])) rfl rfl (hb hby d5_1)
  refine Goes.step st1 ?_
  show Goes _ _ _ _ _ _ _ (T1.setTop (mkF m 4 _ [(.ref nd)]))
  refine Goes.step (fun _ k => XS.iconst X1.here hx rfl (hb hby d5_4) k) ?_
  obtain ⟨cl2, Ar2, q2, S2, P2, H2, G2⟩ := id V_nd
  have hin2 : ¬ ((0 : Int32) < 0 ∨ cl2.slots.size ≤ ((0 : Int32)).toNatClampNeg) := inb_of S2 ⟨by decide, by decide⟩
  have hat2 : cl2.slots[((0 : Int32)).toNatClampNeg]? = some (.int va0) := H2 _ (by rw [S2]; decide)
  refine Goes.step (fun _ k => X1.iaload hx (j := (0 : Int32)) (v := (.int va0)) (by rw [e1]; exact Ar2.1) (State.isArrayOf_alike hZ.alike Ar2.2.1) Ar2.2.2 hin2 hat2 (g := (mkF m 5 #[.val (.ref x0), .unset, .unset, .unset, .unset, .unset, .unset] [(.int (0 : Int32)), (.ref nd)])) rfl rfl (hb hby d5_5) _ k) ?_
  show Goes _ _ _ _ _ _ _ (T1.setTop (mkF m 6 _ [(.int va0)]))
  refine Goes.step (fun _ k => XS.istoreN X1.here hx rfl (hb hby d5_6) rfl (l' := #[.val (.ref x0), .val (.int va0), .unset, .unset, .unset, .unset, .unset]) rfl k) ?_
  show Goes _ _ _ _ _ _ _ (T1.setTop (mkF m 7 _ []))
  refine Goes.step (fun _ k => XS.aloadN X1.here hx rfl (hb hby d5_7) rfl rfl k) ?_
  refine Goes.step (fun _ k => XS.dup X1.here hx rfl (hb hby d5_8) rfl rfl k) ?_
  obtain ⟨T3, X3, e3, st3⟩ := getF X1 hx hZ hown (host := "") (Or.inl w_24) Via.refl e1 F_size (g := (mkF m 9 #[.val (.ref x0), .val (.int va0), .unset, .unset, .unset, .unset, .unset] [(.ref x0), (.ref x0)])) rfl rfl (hb hby d5_9)
  refine Goes.step st3 ?_
  show Goes _ _ _ _ _ _ _ (T3.setTop (mkF m 12 _ [(.int (5 : Int32)), (.ref x0)]))
  refine Goes.step (fun _ k => XS.iconst X3.here hx rfl (hb hby d5_12) k) ?_
  refine Goes.step (fun _ k => XS.isub X3.here hx rfl (hb hby d5_13) rfl k) ?_
  show Goes _ _ _ _ _ _ _ (T3.setTop (mkF m 14 _ [(.int (4 : Int32)), (.ref x0)]))
  obtain ⟨T4, h4, X4, e4, W4, st4⟩ := putF X3 hx hZ hown (host := "") (Or.inl w_24) Via.refl e3 F_size E_x0 (Or.inl w_25) w_6 (ty := .int) (by decide) rfl rfl (g := (mkF m 14 #[.val (.ref x0), .val (.int va0), .unset, .unset, .unset, .unset, .unset] [(.int (4 : Int32)), (.ref x0)])) rfl rfl (hb hby d5_14)
  refine Goes.step st4 ?_
  have f5 := F_size.same W4
  have f6 := F_nd.other W4 (Or.inr (slot_ne (Or.inl w_15) (Or.inl w_25) (by decide) (t := (.array .int)) (t' := .int) (by decide) (by decide)))
  have f7 := F_ky.other W4 (Or.inr (slot_ne (Or.inl w_18) (Or.inl w_25) (by decide) (t := (.array .double)) (t' := .int) (by decide) (by decide)))
  have f8 := E_x0.wr W4
  have f9 := V_nd.other W4 (Ne.symm ne1)
  have f10 := V_ky.other W4 (Ne.symm ne2)
  have K11 : Keep h0 h4 [x0, nd, ky] := K0.wr W4 (Or.inl (List.mem_of_getElem? (i := 0) rfl))
  have Z11 : n0 ≤ h4.size := by rw [Wr.size W4]; exact Z0
  have N11 := Fr.snoc X4 N0 g_x0
  show Goes _ _ _ _ _ _ _ (T4.setTop (mkF m 17 _ []))
  refine Goes.step (fun _ k => XS.aloadN X4.here hx rfl (hb hby d5_17) rfl rfl k) ?_
  obtain ⟨T12, X12, e12, st12⟩ := getF X4 hx hZ hown (host := "") (Or.inl w_14) Via.refl e4 f6 (g := (mkF m 18 #[.val (.ref x0), .val (.int va0), .unset, .unset, .unset, .unset, .unset] [(.ref x0)])) rfl rfl (hb hby d5_18)
  refine Goes.step st12 ?_
  show Goes _ _ _ _ _ _ _ (T12.setTop (mkF m 21 #[.val (.ref x0), .val (.int va0), .unset, .unset, .unset, .unset, .unset] [(.ref nd)]))
  refine Goes.step (fun _ k => XS.aloadN X12.here hx rfl (hb hby d5_21) rfl rfl k) ?_
  obtain ⟨T13, X13, e13, st13⟩ := getF X12 hx hZ hown (host := "") (Or.inl w_24) Via.refl e12 f5 (g := (mkF m 22 #[.val (.ref x0), .val (.int va0), .unset, .unset, .unset, .unset, .unset] [(.ref x0), (.ref nd)])) rfl rfl (hb hby d5_22)
  refine Goes.step st13 ?_
  show Goes _ _ _ _ _ _ _ (T13.setTop (mkF m 25 _ [(.int (4 : Int32)), (.ref nd)]))
  obtain ⟨cl14, Ar14, q14, S14, P14, H14, G14⟩ := id f9
  have hin14 : ¬ ((4 : Int32) < 0 ∨ cl14.slots.size ≤ ((4 : Int32)).toNatClampNeg) := inb_of S14 ⟨by decide, by decide⟩
  have hat14 : cl14.slots[((4 : Int32)).toNatClampNeg]? = some (.int va4) := H14 _ (by rw [S14]; decide)
  refine Goes.step (fun _ k => X13.iaload hx (j := (4 : Int32)) (v := (.int va4)) (by rw [e13]; exact Ar14.1) (State.isArrayOf_alike hZ.alike Ar14.2.1) Ar14.2.2 hin14 hat14 (g := (mkF m 25 #[.val (.ref x0), .val (.int va0), .unset, .unset, .unset, .unset, .unset] [(.int (4 : Int32)), (.ref nd)])) rfl rfl (hb hby d5_25) _ k) ?_
  show Goes _ _ _ _ _ _ _ (T13.setTop (mkF m 26 _ [(.int va4)]))
  refine Goes.step (fun _ k => XS.istoreN X13.here hx rfl (hb hby d5_26) rfl (l' := #[.val (.ref x0), .val (.int va0), .val (.int va4), .unset, .unset, .unset, .unset]) rfl k) ?_
  show Goes _ _ _ _ _ _ _ (T13.setTop (mkF m 27 _ []))
  refine Goes.step (fun _ k => XS.aloadN X13.here hx rfl (hb hby d5_27) rfl rfl k) ?_
  obtain ⟨T15, X15, e15, st15⟩ := getF X13 hx hZ hown (host := "") (Or.inl w_17) Via.refl e13 f7 (g := (mkF m 28 #[.val (.ref x0), .val (.int va0), .val (.int va4), .unset, .unset, .unset, .unset] [(.ref x0)])) rfl rfl (hb hby d5_28)
  refine Goes.step st15 ?_
  show Goes _ _ _ _ _ _ _ (T15.setTop (mkF m 31 _ [(.ref ky)]))
  refine Goes.step (fun _ k => XS.aloadN X15.here hx rfl (hb hby d5_31) rfl rfl k) ?_
  obtain ⟨T16, X16, e16, st16⟩ := getF X15 hx hZ hown (host := "") (Or.inl w_24) Via.refl e15 f5 (g := (mkF m 32 #[.val (.ref x0), .val (.int va0), .val (.int va4), .unset, .unset, .unset, .unset] [(.ref x0), (.ref ky)])) rfl rfl (hb hby d5_32)
  refine Goes.step st16 ?_
  show Goes _ _ _ _ _ _ _ (T16.setTop (mkF m 35 _ [(.int (4 : Int32)), (.ref ky)]))
  obtain ⟨cl17, Ar17, q17, S17, P17, H17, G17⟩ := id f10
  have hin17 : ¬ ((4 : Int32) < 0 ∨ cl17.slots.size ≤ ((4 : Int32)).toNatClampNeg) := inb_of S17 ⟨by decide, by decide⟩
  have hat17 : cl17.slots[((4 : Int32)).toNatClampNeg]? = some (.double (FP.i2d vb4)) := H17 _ (by rw [S17]; decide)
  refine Goes.step (fun _ k => X16.daload hx (j := (4 : Int32)) (v := (.double (FP.i2d vb4))) (by rw [e16]; exact Ar17.1) (State.isArrayOf_alike hZ.alike Ar17.2.1) Ar17.2.2 hin17 hat17 (g := (mkF m 35 #[.val (.ref x0), .val (.int va0), .val (.int va4), .unset, .unset, .unset, .unset] [(.int (4 : Int32)), (.ref ky)])) rfl rfl (hb hby d5_35) _ k) ?_
  show Goes _ _ _ _ _ _ _ (T16.setTop (mkF m 36 _ [(.double (FP.i2d vb4))]))
  refine Goes.step (fun _ k => XS.dstoreN X16.here hx rfl (hb hby d5_36) rfl (l' := #[.val (.ref x0), .val (.int va0), .val (.int va4), .val (.double (FP.i2d vb4)), .second, .unset, .unset]) rfl k) ?_
  show Goes _ _ _ _ _ _ _ (T16.setTop (mkF m 37 #[.val (.ref x0), .val (.int va0), .val (.int va4), .val (.double (FP.i2d vb4)), .second, .unset, .unset] []))
  refine Goes.step (fun _ k => XS.iconst X16.here hx rfl (hb hby d5_37) k) ?_
  refine Goes.step (fun _ k => XS.istore X16.here hx rfl (hb hby d5_38) rfl (l' := #[.val (.ref x0), .val (.int va0), .val (.int va4), .val (.double (FP.i2d vb4)), .second, .val (.int (0 : Int32)), .unset]) rfl k) ?_
  show Goes _ _ _ _ _ _ _ (T16.setTop (mkF m 40 _ []))
  refine Goes.step (fun _ k => XS.iconst X16.here hx rfl (hb hby d5_40) k) ?_
  refine Goes.step (fun _ k => XS.istore X16.here hx rfl (hb hby d5_41) rfl (l' := #[.val (.ref x0), .val (.int va0), .val (.int va4), .val (.double (FP.i2d vb4)), .second, .val (.int (0 : Int32)), .val (.int (1 : Int32))]) rfl k) ?_
  show Goes _ _ _ _ _ _ _ (T16.setTop (mkF m 43 _ []))
  refine Goes.step (fun _ k => XS.iload X16.here hx rfl (hb hby d5_43) rfl  k) ?_
  refine Goes.step (fun _ k => XS.aloadN X16.here hx rfl (hb hby d5_45) rfl rfl k) ?_
  obtain ⟨T18, X18, e18, st18⟩ := getF X16 hx hZ hown (host := "") (Or.inl w_24) Via.refl e16 f5 (g := (mkF m 46 #[.val (.ref x0), .val (.int va0), .val (.int va4), .val (.double (FP.i2d vb4)), .second, .val (.int (0 : Int32)), .val (.int (1 : Int32))] [(.ref x0), (.int (1 : Int32))])) rfl rfl (hb hby d5_46)
  refine Goes.step st18 ?_
  show Goes _ _ _ _ _ _ _ (T18.setTop (mkF m 49 _ [(.int (4 : Int32)), (.int (1 : Int32))]))
  refine Goes.step (fun _ k => XS.icmpNo X18.here hx rfl (hb hby d5_49) rfl (tlt (by decide : (1 : Int32) < (4 : Int32))).2.1 k) ?_
  show Goes _ _ _ _ _ _ _ (T18.setTop (mkF m 52 _ []))
  refine Goes.step (fun _ k => XS.iload X18.here hx rfl (hb hby d5_52) rfl  k) ?_
  refine Goes.step (fun _ k => XS.iconst X18.here hx rfl (hb hby d5_54) k) ?_
  refine Goes.step (fun _ k => XS.iadd X18.here hx rfl (hb hby d5_55) rfl k) ?_
  show Goes _ _ _ _ _ _ _ (T18.setTop (mkF m 56 _ [(.int (2 : Int32))]))
  refine Goes.step (fun _ k => XS.aloadN X18.here hx rfl (hb hby d5_56) rfl rfl k) ?_
  obtain ⟨T19, X19, e19, st19⟩ := getF X18 hx hZ hown (host := "") (Or.inl w_24) Via.refl e18 f5 (g := (mkF m 57 #[.val (.ref x0), .val (.int va0), .val (.int va4), .val (.double (FP.i2d vb4)), .second, .val (.int (0 : Int32)), .val (.int (1 : Int32))] [(.ref x0), (.int (2 : Int32))])) rfl rfl (hb hby d5_57)
  refine Goes.step st19 ?_
  show Goes _ _ _ _ _ _ _ (T19.setTop (mkF m 60 _ [(.int (4 : Int32)), (.int (2 : Int32))]))
  refine Goes.step (fun _ k => XS.icmpNo X19.here hx rfl (hb hby d5_60) rfl (tlt (by decide : (2 : Int32) < (4 : Int32))).2.1 k) ?_
  show Goes _ _ _ _ _ _ _ (T19.setTop (mkF m 63 #[.val (.ref x0), .val (.int va0), .val (.int va4), .val (.double (FP.i2d vb4)), .second, .val (.int (0 : Int32)), .val (.int (1 : Int32))] []))
  refine Goes.step (fun _ k => XS.aloadN X19.here hx rfl (hb hby d5_63) rfl rfl k) ?_
  obtain ⟨T20, X20, e20, st20⟩ := getF X19 hx hZ hown (host := "") (Or.inl w_17) Via.refl e19 f7 (g := (mkF m 64 #[.val (.ref x0), .val (.int va0), .val (.int va4), .val (.double (FP.i2d vb4)), .second, .val (.int (0 : Int32)), .val (.int (1 : Int32))] [(.ref x0)])) rfl rfl (hb hby d5_64)
  refine Goes.step st20 ?_
  show Goes _ _ _ _ _ _ _ (T20.setTop (mkF m 67 _ [(.ref ky)]))
  refine Goes.step (fun _ k => XS.iload X20.here hx rfl (hb hby d5_67) rfl  k) ?_
  refine Goes.step (fun _ k => XS.iconst X20.here hx rfl (hb hby d5_69) k) ?_
  refine Goes.step (fun _ k => XS.iadd X20.here hx rfl (hb hby d5_70) rfl k) ?_
  show Goes _ _ _ _ _ _ _ (T20.setTop (mkF m 71 _ [(.int (2 : Int32)), (.ref ky)]))
  obtain ⟨cl21, Ar21, q21, S21, P21, H21, G21⟩ := id f10
  have hin21 : ¬ ((2 : Int32) < 0 ∨ cl21.slots.size ≤ ((2 : Int32)).toNatClampNeg) := inb_of S21 ⟨by decide, by decide⟩
  have hat21 : cl21.slots[((2 : Int32)).toNatClampNeg]? = some (.double (FP.i2d vb2)) := H21 _ (by rw [S21]; decide)
  refine Goes.step (fun _ k => X20.daload hx (j := (2 : Int32)) (v := (.double (FP.i2d vb2))) (by rw [e20]; exact Ar21.1) (State.isArrayOf_alike hZ.alike Ar21.2.1) Ar21.2.2 hin21 hat21 (g := (mkF m 71 #[.val (.ref x0), .val (.int va0), .val (.int va4), .val (.double (FP.i2d vb4)), .second, .val (.int (0 : Int32)), .val (.int (1 : Int32))] [(.int (2 : Int32)), (.ref ky)])) rfl rfl (hb hby d5_71) _ k) ?_
  show Goes _ _ _ _ _ _ _ (T20.setTop (mkF m 72 _ [(.double (FP.i2d vb2))]))
  refine Goes.step (fun _ k => XS.aloadN X20.here hx rfl (hb hby d5_72) rfl rfl k) ?_
  obtain ⟨T22, X22, e22, st22⟩ := getF X20 hx hZ hown (host := "") (Or.inl w_17) Via.refl e20 f7 (g := (mkF m 73 #[.val (.ref x0), .val (.int va0), .val (.int va4), .val (.double (FP.i2d vb4)), .second, .val (.int (0 : Int32)), .val (.int (1 : Int32))] [(.ref x0), (.double (FP.i2d vb2))])) rfl rfl (hb hby d5_73)
  refine Goes.step st22 ?_
  show Goes _ _ _ _ _ _ _ (T22.setTop (mkF m 76 _ [(.ref ky), (.double (FP.i2d vb2))]))
  refine Goes.step (fun _ k => XS.iload X22.here hx rfl (hb hby d5_76) rfl  k) ?_
  obtain ⟨cl23, Ar23, q23, S23, P23, H23, G23⟩ := id f10
  have hin23 : ¬ ((1 : Int32) < 0 ∨ cl23.slots.size ≤ ((1 : Int32)).toNatClampNeg) := inb_of S23 ⟨by decide, by decide⟩
  have hat23 : cl23.slots[((1 : Int32)).toNatClampNeg]? = some (.double (FP.i2d vb1)) := H23 _ (by rw [S23]; decide)
  refine Goes.step (fun _ k => X22.daload hx (j := (1 : Int32)) (v := (.double (FP.i2d vb1))) (by rw [e22]; exact Ar23.1) (State.isArrayOf_alike hZ.alike Ar23.2.1) Ar23.2.2 hin23 hat23 (g := (mkF m 78 #[.val (.ref x0), .val (.int va0), .val (.int va4), .val (.double (FP.i2d vb4)), .second, .val (.int (0 : Int32)), .val (.int (1 : Int32))] [(.int (1 : Int32)), (.ref ky), (.double (FP.i2d vb2))])) rfl rfl (hb hby d5_78) _ k) ?_
  show Goes _ _ _ _ _ _ _ (T22.setTop (mkF m 79 _ [(.double (FP.i2d vb1)), (.double (FP.i2d vb2))]))
  refine Goes.step (fun _ k => XS.dcmpS X22.here hx rfl (hb hby d5_79) rfl rfl k) ?_
  show Goes _ _ _ _ _ _ _ (T22.setTop (mkF m 80 _ [(.int (cmpValue (FP.dcmp (FP.i2d vb2) (FP.i2d vb1)) .g))]))
  by_cases c80_24 : vb2 < vb1
  · refine Goes.step (fun _ k => XS.ifNo X22.here hx rfl (hb hby d5_80) rfl ((if0 _ _).trans (tlt ((own_dlt _ _ _).mpr c80_24)).2.1) k) ?_
    show Goes _ _ _ _ _ _ _ (T22.setTop (mkF m 83 #[.val (.ref x0), .val (.int va0), .val (.int va4), .val (.double (FP.i2d vb4)), .second, .val (.int (0 : Int32)), .val (.int (1 : Int32))] []))
    refine Goes.step (fun _ k => XS.iinc X22.here hx rfl (hb hby d5_83) rfl (l' := #[.val (.ref x0), .val (.int va0), .val (.int va4), .val (.double (FP.i2d vb4)), .second, .val (.int (0 : Int32)), .val (.int (2 : Int32))]) rfl k) ?_
    show Goes _ _ _ _ _ _ _ (T22.setTop (mkF m 86 _ []))
    refine Goes.step (fun _ k => XS.aloadN X22.here hx rfl (hb hby d5_86) rfl rfl k) ?_
    obtain ⟨T25, X25, e25, st25⟩ := getF X22 hx hZ hown (host := "") (Or.inl w_17) Via.refl e22 f7 (g := (mkF m 87 #[.val (.ref x0), .val (.int va0), .val (.int va4), .val (.double (FP.i2d vb4)), .second, .val (.int (0 : Int32)), .val (.int (2 : Int32))] [(.ref x0)])) rfl rfl (hb hby d5_87)
    refine Goes.step st25 ?_
    show Goes _ _ _ _ _ _ _ (T25.setTop (mkF m 90 _ [(.ref ky)]))
    refine Goes.step (fun _ k => XS.iload X25.here hx rfl (hb hby d5_90) rfl  k) ?_
    obtain ⟨cl26, Ar26, q26, S26, P26, H26, G26⟩ := id f10
    have hin26 : ¬ ((2 : Int32) < 0 ∨ cl26.slots.size ≤ ((2 : Int32)).toNatClampNeg) := inb_of S26 ⟨by decide, by decide⟩
    have hat26 : cl26.slots[((2 : Int32)).toNatClampNeg]? = some (.double (FP.i2d vb2)) := H26 _ (by rw [S26]; decide)
    refine Goes.step (fun _ k => X25.daload hx (j := (2 : Int32)) (v := (.double (FP.i2d vb2))) (by rw [e25]; exact Ar26.1) (State.isArrayOf_alike hZ.alike Ar26.2.1) Ar26.2.2 hin26 hat26 (g := (mkF m 92 #[.val (.ref x0), .val (.int va0), .val (.int va4), .val (.double (FP.i2d vb4)), .second, .val (.int (0 : Int32)), .val (.int (2 : Int32))] [(.int (2 : Int32)), (.ref ky)])) rfl rfl (hb hby d5_92) _ k) ?_
    show Goes _ _ _ _ _ _ _ (T25.setTop (mkF m 93 _ [(.double (FP.i2d vb2))]))
    refine Goes.step (fun _ k => XS.dloadN X25.here hx rfl (hb hby d5_93) rfl k) ?_
    refine Goes.step (fun _ k => XS.dcmpS X25.here hx rfl (hb hby d5_94) rfl rfl k) ?_
    show Goes _ _ _ _ _ _ _ (T25.setTop (mkF m 95 _ [(.int (cmpValue (FP.dcmp (FP.i2d vb2) (FP.i2d vb4)) .l))]))
    by_cases c95_27 : vb2 < vb4
    · refine Goes.step (fun _ k => XS.ifYes X25.here hx rfl (pc0 := 95) (pc' := 101) rfl (hb hby d5_95) rfl ((if0 _ _).trans (tlt ((own_dlt _ _ _).mpr c95_27)).1) (by decide) (by decide) k) ?_
      show Goes _ _ _ _ _ _ _ (T25.setTop (mkF m 101 _ []))
      refine Goes.step (fun _ k => XS.aloadN X25.here hx rfl (hb hby d5_101) rfl rfl k) ?_
      obtain ⟨T28, X28, e28, st28⟩ := getF X25 hx hZ hown (host := "") (Or.inl w_14) Via.refl e25 f6 (g := (mkF m 102 #[.val (.ref x0), .val (.int va0), .val (.int va4), .val (.double (FP.i2d vb4)), .second, .val (.int (0 : Int32)), .val (.int (2 : Int32))] [(.ref x0)])) rfl rfl (hb hby d5_102)
      refine Goes.step st28 ?_
      show Goes _ _ _ _ _ _ _ (T28.setTop (mkF m 105 _ [(.ref nd)]))
      refine Goes.step (fun _ k => XS.iload X28.here hx rfl (hb hby d5_105) rfl  k) ?_
      refine Goes.step (fun _ k => XS.aloadN X28.here hx rfl (hb hby d5_107) rfl rfl k) ?_
      obtain ⟨T29, X29, e29, st29⟩ := getF X28 hx hZ hown (host := "") (Or.inl w_14) Via.refl e28 f6 (g := (mkF m 108 #[.val (.ref x0), .val (.int va0), .val (.int va4), .val (.double (FP.i2d vb4)), .second, .val (.int (0 : Int32)), .val (.int (2 : Int32))] [(.ref x0), (.int (0 : Int32)), (.ref nd)])) rfl rfl (hb hby d5_108)
      refine Goes.step st29 ?_
      show Goes _ _ _ _ _ _ _ (T29.setTop (mkF m 111 #[.val (.ref x0), .val (.int va0), .val (.int va4), .val (.double (FP.i2d vb4)), .second, .val (.int (0 : Int32)), .val (.int (2 : Int32))] [(.ref nd), (.int (0 : Int32)), (.ref nd)]))
      refine Goes.step (fun _ k => XS.iload X29.here hx rfl (hb hby d5_111) rfl  k) ?_
      obtain ⟨cl30, Ar30, q30, S30, P30, H30, G30⟩ := id f9
      have hin30 : ¬ ((2 : Int32) < 0 ∨ cl30.slots.size ≤ ((2 : Int32)).toNatClampNeg) := inb_of S30 ⟨by decide, by decide⟩
      have hat30 : cl30.slots[((2 : Int32)).toNatClampNeg]? = some (.int va2) := H30 _ (by rw [S30]; decide)
      refine Goes.step (fun _ k => X29.iaload hx (j := (2 : Int32)) (v := (.int va2)) (by rw [e29]; exact Ar30.1) (State.isArrayOf_alike hZ.alike Ar30.2.1) Ar30.2.2 hin30 hat30 (g := (mkF m 113 #[.val (.ref x0), .val (.int va0), .val (.int va4), .val (.double (FP.i2d vb4)), .second, .val (.int (0 : Int32)), .val (.int (2 : Int32))] [(.int (2 : Int32)), (.ref nd), (.int (0 : Int32)), (.ref nd)])) rfl rfl (hb hby d5_113) _ k) ?_
      show Goes _ _ _ _ _ _ _ (T29.setTop (mkF m 114 _ [(.int va2), (.int (0 : Int32)), (.ref nd)]))
      obtain ⟨cl31, Ar31, q31, S31, P31, H31, G31⟩ := id f9
      have hin31 : ¬ ((0 : Int32) < 0 ∨ cl31.slots.size ≤ ((0 : Int32)).toNatClampNeg) := inb_of S31 ⟨by decide, by decide⟩
      obtain ⟨T32, h32, X32, e32, W32, st32⟩ := stI X29 hx hZ e29 Ar31 (j := (0 : Int32)) hin31 (g := (mkF m 114 #[.val (.ref x0), .val (.int va0), .val (.int va4), .val (.double (FP.i2d vb4)), .second, .val (.int (0 : Int32)), .val (.int (2 : Int32))] [(.int va2), (.int (0 : Int32)), (.ref nd)])) rfl rfl (hb hby d5_114)
      refine Goes.step st32 ?_
      have V32 := Arv.set Ar31 q31 S31 P31 H31 G31 rfl W32 0 rfl (Nat.le_of_ble_eq_true rfl)
      have f33 := f5.other W32 (Or.inl ne1)
      have f34 := f6.other W32 (Or.inl ne1)
      have f35 := f7.other W32 (Or.inl ne1)
      have f36 := f8.wr W32
      have f37 := V32
      have f38 := f10.other W32 (Ne.symm ne3)
      have K39 : Keep h0 h32 [x0, nd, ky] := K11.wr W32 (Or.inl (List.mem_of_getElem? (i := 1) rfl))
      have Z39 : n0 ≤ h32.size := by rw [Wr.size W32]; exact Z11
      have N39 := Fr.snoc X32 N11 g_nd
      show Goes _ _ _ _ _ _ _ (T32.setTop (mkF m 115 _ []))
      refine Goes.step (fun _ k => XS.aloadN X32.here hx rfl (hb hby d5_115) rfl rfl k) ?_
      obtain ⟨T40, X40, e40, st40⟩ := getF X32 hx hZ hown (host := "") (Or.inl w_17) Via.refl e32 f35 (g := (mkF m 116 #[.val (.ref x0), .val (.int va0), .val (.int va4), .val (.double (FP.i2d vb4)), .second, .val (.int (0 : Int32)), .val (.int (2 : Int32))] [(.ref x0)])) rfl rfl (hb hby d5_116)
      refine Goes.step st40 ?_
      show Goes _ _ _ _ _ _ _ (T40.setTop (mkF m 119 _ [(.ref ky)]))
      refine Goes.step (fun _ k => XS.iload X40.here hx rfl (hb hby d5_119) rfl  k) ?_
      refine Goes.step (fun _ k => XS.aloadN X40.here hx rfl (hb hby d5_121) rfl rfl k) ?_
      obtain ⟨T41, X41, e41, st41⟩ := getF X40 hx hZ hown (host := "") (Or.inl w_17) Via.refl e40 f35 (g := (mkF m 122 #[.val (.ref x0), .val (.int va0), .val (.int va4), .val (.double (FP.i2d vb4)), .second, .val (.int (0 : Int32)), .val (.int (2 : Int32))] [(.ref x0), (.int (0 : Int32)), (.ref ky)])) rfl rfl (hb hby d5_122)
      refine Goes.step st41 ?_
      show Goes _ _ _ _ _ _ _ (T41.setTop (mkF m 125 _ [(.ref ky), (.int (0 : Int32)), (.ref ky)]))
      refine Goes.step (fun _ k => XS.iload X41.here hx rfl (hb hby d5_125) rfl  k) ?_
      obtain ⟨cl42, Ar42, q42, S42, P42, H42, G42⟩ := id f38
      have hin42 : ¬ ((2 : Int32) < 0 ∨ cl42.slots.size ≤ ((2 : Int32)).toNatClampNeg) := inb_of S42 ⟨by decide, by decide⟩
      have hat42 : cl42.slots[((2 : Int32)).toNatClampNeg]? = some (.double (FP.i2d vb2)) := H42 _ (by rw [S42]; decide)
      refine Goes.step (fun _ k => X41.daload hx (j := (2 : Int32)) (v := (.double (FP.i2d vb2))) (by rw [e41]; exact Ar42.1) (State.isArrayOf_alike hZ.alike Ar42.2.1) Ar42.2.2 hin42 hat42 (g := (mkF m 127 #[.val (.ref x0), .val (.int va0), .val (.int va4), .val (.double (FP.i2d vb4)), .second, .val (.int (0 : Int32)), .val (.int (2 : Int32))] [(.int (2 : Int32)), (.ref ky), (.int (0 : Int32)), (.ref ky)])) rfl rfl (hb hby d5_127) _ k) ?_
      show Goes _ _ _ _ _ _ _ (T41.setTop (mkF m 128 _ [(.double (FP.i2d vb2)), (.int (0 : Int32)), (.ref ky)]))
      obtain ⟨cl43, Ar43, q43, S43, P43, H43, G43⟩ := id f38
      have hin43 : ¬ ((0 : Int32) < 0 ∨ cl43.slots.size ≤ ((0 : Int32)).toNatClampNeg) := inb_of S43 ⟨by decide, by decide⟩
      obtain ⟨T44, h44, X44, e44, W44, st44⟩ := stD X41 hx hZ e41 Ar43 (j := (0 : Int32)) hin43 (g := (mkF m 128 #[.val (.ref x0), .val (.int va0), .val (.int va4), .val (.double (FP.i2d vb4)), .second, .val (.int (0 : Int32)), .val (.int (2 : Int32))] [(.double (FP.i2d vb2)), (.int (0 : Int32)), (.ref ky)])) rfl rfl (hb hby d5_128)
      refine Goes.step st44 ?_
      have V44 := Arv.set Ar43 q43 S43 P43 H43 G43 rfl W44 0 rfl (Nat.le_of_ble_eq_true rfl)
      have f45 := f33.other W44 (Or.inl ne2)
      have f46 := f34.other W44 (Or.inl ne2)
      have f47 := f35.other W44 (Or.inl ne2)
      have f48 := f36.wr W44
      have f49 := f37.other W44 ne3
      have f50 := V44
      have K51 : Keep h0 h44 [x0, nd, ky] := K39.wr W44 (Or.inl (List.mem_of_getElem? (i := 2) rfl))
      have Z51 : n0 ≤ h44.size := by rw [Wr.size W44]; exact Z39
      have N51 := Fr.snoc X44 N39 g_ky
      show Goes _ _ _ _ _ _ _ (T44.setTop (mkF m 129 _ []))
      refine Goes.step (fun _ k => XS.iload X44.here hx rfl (hb hby d5_129) rfl  k) ?_
      refine Goes.step (fun _ k => XS.istore X44.here hx rfl (hb hby d5_131) rfl (l' := #[.val (.ref x0), .val (.int va0), .val (.int va4), .val (.double (FP.i2d vb4)), .second, .val (.int (2 : Int32)), .val (.int (2 : Int32))]) rfl k) ?_
      show Goes _ _ _ _ _ _ _ (T44.setTop (mkF m 133 #[.val (.ref x0), .val (.int va0), .val (.int va4), .val (.double (FP.i2d vb4)), .second, .val (.int (2 : Int32)), .val (.int (2 : Int32))] []))
      refine Goes.step (fun _ k => XS.iconst X44.here hx rfl (hb hby d5_133) k) ?_
      refine Goes.step (fun _ k => XS.iload X44.here hx rfl (hb hby d5_134) rfl  k) ?_
      refine Goes.step (fun _ k => XS.imul X44.here hx rfl (hb hby d5_136) rfl k) ?_
      show Goes _ _ _ _ _ _ _ (T44.setTop (mkF m 137 _ [(.int (4 : Int32))]))
      refine Goes.step (fun _ k => XS.iconst X44.here hx rfl (hb hby d5_137) k) ?_
      refine Goes.step (fun _ k => XS.iadd X44.here hx rfl (hb hby d5_138) rfl k) ?_
      show Goes _ _ _ _ _ _ _ (T44.setTop (mkF m 139 _ [(.int (5 : Int32))]))
      refine Goes.step (fun _ k => XS.istore X44.here hx rfl (hb hby d5_139) rfl (l' := #[.val (.ref x0), .val (.int va0), .val (.int va4), .val (.double (FP.i2d vb4)), .second, .val (.int (2 : Int32)), .val (.int (5 : Int32))]) rfl k) ?_
      show Goes _ _ _ _ _ _ _ (T44.setTop (mkF m 141 _ []))
      refine Goes.step (fun _ k => XS.goto X44.here hx rfl (pc0 := 141) (pc' := 43) rfl (hb hby d5_141) (by decide) (by decide) k) ?_
      show Goes _ _ _ _ _ _ _ (T44.setTop (mkF m 43 _ []))
      refine Goes.step (fun _ k => XS.iload X44.here hx rfl (hb hby d5_43) rfl  k) ?_
      refine Goes.step (fun _ k => XS.aloadN X44.here hx rfl (hb hby d5_45) rfl rfl k) ?_
      obtain ⟨T52, X52, e52, st52⟩ := getF X44 hx hZ hown (host := "") (Or.inl w_24) Via.refl e44 f45 (g := (mkF m 46 #[.val (.ref x0), .val (.int va0), .val (.int va4), .val (.double (FP.i2d vb4)), .second, .val (.int (2 : Int32)), .val (.int (5 : Int32))] [(.ref x0), (.int (5 : Int32))])) rfl rfl (hb hby d5_46)
      refine Goes.step st52 ?_
      show Goes _ _ _ _ _ _ _ (T52.setTop (mkF m 49 _ [(.int (4 : Int32)), (.int (5 : Int32))]))
      refine Goes.step (fun _ k => XS.icmpYes X52.here hx rfl (pc0 := 49) (pc' := 144) rfl (hb hby d5_49) rfl (flt (by decide : ¬ ((5 : Int32) < (4 : Int32)))).2.1 (by decide) (by decide) k) ?_
      show Goes _ _ _ _ _ _ _ (T52.setTop (mkF m 144 _ []))
      refine Goes.step (fun _ k => XS.aloadN X52.here hx rfl (hb hby d5_144) rfl rfl k) ?_
      obtain ⟨T53, X53, e53, st53⟩ := getF X52 hx hZ hown (host := "") (Or.inl w_14) Via.refl e52 f46 (g := (mkF m 145 #[.val (.ref x0), .val (.int va0), .val (.int va4), .val (.double (FP.i2d vb4)), .second, .val (.int (2 : Int32)), .val (.int (5 : Int32))] [(.ref x0)])) rfl rfl (hb hby d5_145)
      refine Goes.step st53 ?_
      show Goes _ _ _ _ _ _ _ (T53.setTop (mkF m 148 #[.val (.ref x0), .val (.int va0), .val (.int va4), .val (.double (FP.i2d vb4)), .second, .val (.int (2 : Int32)), .val (.int (5 : Int32))] [(.ref nd)]))
      refine Goes.step (fun _ k => XS.iload X53.here hx rfl (hb hby d5_148) rfl  k) ?_
      refine Goes.step (fun _ k => XS.iloadN X53.here hx rfl (hb hby d5_150) rfl  k) ?_
      obtain ⟨cl54, Ar54, q54, S54, P54, H54, G54⟩ := id f49
      have hin54 : ¬ ((2 : Int32) < 0 ∨ cl54.slots.size ≤ ((2 : Int32)).toNatClampNeg) := inb_of S54 ⟨by decide, by decide⟩
      obtain ⟨T55, h55, X55, e55, W55, st55⟩ := stI X53 hx hZ e53 Ar54 (j := (2 : Int32)) hin54 (g := (mkF m 151 #[.val (.ref x0), .val (.int va0), .val (.int va4), .val (.double (FP.i2d vb4)), .second, .val (.int (2 : Int32)), .val (.int (5 : Int32))] [(.int va4), (.int (2 : Int32)), (.ref nd)])) rfl rfl (hb hby d5_151)
      refine Goes.step st55 ?_
      have V55 := Arv.set Ar54 q54 S54 P54 H54 G54 rfl W55 2 rfl (Nat.le_of_ble_eq_true rfl)
      have f56 := f45.other W55 (Or.inl ne1)
      have f57 := f46.other W55 (Or.inl ne1)
      have f58 := f47.other W55 (Or.inl ne1)
      have f59 := f48.wr W55
      have f60 := V55
      have f61 := f50.other W55 (Ne.symm ne3)
      have K62 : Keep h0 h55 [x0, nd, ky] := K51.wr W55 (Or.inl (List.mem_of_getElem? (i := 1) rfl))
      have Z62 : n0 ≤ h55.size := by rw [Wr.size W55]; exact Z51
      have N62 := Fr.snoc X55 N51 g_nd
      show Goes _ _ _ _ _ _ _ (T55.setTop (mkF m 152 _ []))
      refine Goes.step (fun _ k => XS.aloadN X55.here hx rfl (hb hby d5_152) rfl rfl k) ?_
      obtain ⟨T63, X63, e63, st63⟩ := getF X55 hx hZ hown (host := "") (Or.inl w_17) Via.refl e55 f58 (g := (mkF m 153 #[.val (.ref x0), .val (.int va0), .val (.int va4), .val (.double (FP.i2d vb4)), .second, .val (.int (2 : Int32)), .val (.int (5 : Int32))] [(.ref x0)])) rfl rfl (hb hby d5_153)
      refine Goes.step st63 ?_
      show Goes _ _ _ _ _ _ _ (T63.setTop (mkF m 156 _ [(.ref ky)]))
      refine Goes.step (fun _ k => XS.iload X63.here hx rfl (hb hby d5_156) rfl  k) ?_
      refine Goes.step (fun _ k => XS.dloadN X63.here hx rfl (hb hby d5_158) rfl k) ?_
      obtain ⟨cl64, Ar64, q64, S64, P64, H64, G64⟩ := id f61
      have hin64 : ¬ ((2 : Int32) < 0 ∨ cl64.slots.size ≤ ((2 : Int32)).toNatClampNeg) := inb_of S64 ⟨by decide, by decide⟩
      obtain ⟨T65, h65, X65, e65, W65, st65⟩ := stD X63 hx hZ e63 Ar64 (j := (2 : Int32)) hin64 (g := (mkF m 159 #[.val (.ref x0), .val (.int va0), .val (.int va4), .val (.double (FP.i2d vb4)), .second, .val (.int (2 : Int32)), .val (.int (5 : Int32))] [(.double (FP.i2d vb4)), (.int (2 : Int32)), (.ref ky)])) rfl rfl (hb hby d5_159)
      refine Goes.step st65 ?_
      have V65 := Arv.set Ar64 q64 S64 P64 H64 G64 rfl W65 2 rfl (Nat.le_of_ble_eq_true rfl)
      have f66 := f56.other W65 (Or.inl ne2)
      have f67 := f57.other W65 (Or.inl ne2)
      have f68 := f58.other W65 (Or.inl ne2)
      have f69 := f59.wr W65
      have f70 := f60.other W65 ne3
      have f71 := V65
      have K72 : Keep h0 h65 [x0, nd, ky] := K62.wr W65 (Or.inl (List.mem_of_getElem? (i := 2) rfl))
      have Z72 : n0 ≤ h65.size := by rw [Wr.size W65]; exact Z62
      have N72 := Fr.snoc X65 N62 g_ky
      show Goes _ _ _ _ _ _ _ (T65.setTop (mkF m 160 _ []))
      refine Goes.step (fun _ k => XS.iloadN X65.here hx rfl (hb hby d5_160) rfl  k) ?_
      have ph0 := own_l c80_24
      have ph1 := own_l c95_27
      exact Goes.ret X65 hx (BodyLoose.notSynchronized Bd) Bd.returns rfl (Or.inl ⟨rfl, by simp, _, rfl⟩) (hb hby d5_161) (by show Q5_5 Z x0 nd ky kn kd va0 va1 va2 va3 va4 va5 vb0 vb1 vb2 vb3 vb4 vb5 h0 n0 (some (.int va0)) T65.heap _; rw [e65]; exact ⟨N72, K72, rfl, f66, f67, f68, va2, va1, va4, va3, va4, va5, vb2, vb1, vb4, vb3, vb4, vb5, f70, f71, (List.Perm.map (fun i => ([(va1, vb1), (va2, vb2), (va3, vb3), (va4, vb4)] : List (Int32 × Int32)).getD i (0, 0)) (by decide : ([1, 0, 3, 2] : List Nat).Perm [0, 1, 2, 3])), by omega, by omega, by omega, by omega⟩) (by decide) (by decide)
    · refine Goes.step (fun _ k => XS.ifNo X25.here hx rfl (hb hby d5_95) rfl ((if0 _ _).trans (flt (fun q => c95_27 ((own_dlt _ _ _).mp q))).1) k) ?_
      show Goes _ _ _ _ _ _ _ (T25.setTop (mkF m 98 _ []))
      refine Goes.step (fun _ k => XS.goto X25.here hx rfl (pc0 := 98) (pc' := 144) rfl (hb hby d5_98) (by decide) (by decide) k) ?_
      show Goes _ _ _ _ _ _ _ (T25.setTop (mkF m 144 _ []))
      refine Goes.step (fun _ k => XS.aloadN X25.here hx rfl (hb hby d5_144) rfl rfl k) ?_
      obtain ⟨T73, X73, e73, st73⟩ := getF X25 hx hZ hown (host := "") (Or.inl w_14) Via.refl e25 f6 (g := (mkF m 145 #[.val (.ref x0), .val (.int va0), .val (.int va4), .val (.double (FP.i2d vb4)), .second, .val (.int (0 : Int32)), .val (.int (2 : Int32))] [(.ref x0)])) rfl rfl (hb hby d5_145)
      refine Goes.step st73 ?_
      show Goes _ _ _ _ _ _ _ (T73.setTop (mkF m 148 #[.val (.ref x0), .val (.int va0), .val (.int va4), .val (.double (FP.i2d vb4)), .second, .val (.int (0 : Int32)), .val (.int (2 : Int32))] [(.ref nd)]))
      refine Goes.step (fun _ k => XS.iload X73.here hx rfl (hb hby d5_148) rfl  k) ?_
      refine Goes.step (fun _ k => XS.iloadN X73.here hx rfl (hb hby d5_150) rfl  k) ?_
      obtain ⟨cl74, Ar74, q74, S74, P74, H74, G74⟩ := id f9
      have hin74 : ¬ ((0 : Int32) < 0 ∨ cl74.slots.size ≤ ((0 : Int32)).toNatClampNeg) := inb_of S74 ⟨by decide, by decide⟩
      obtain ⟨T75, h75, X75, e75, W75, st75⟩ := stI X73 hx hZ e73 Ar74 (j := (0 : Int32)) hin74 (g := (mkF m 151 #[.val (.ref x0), .val (.int va0), .val (.int va4), .val (.double (FP.i2d vb4)), .second, .val (.int (0 : Int32)), .val (.int (2 : Int32))] [(.int va4), (.int (0 : Int32)), (.ref nd)])) rfl rfl (hb hby d5_151)
      refine Goes.step st75 ?_
      have V75 := Arv.set Ar74 q74 S74 P74 H74 G74 rfl W75 0 rfl (Nat.le_of_ble_eq_true rfl)
      have f76 := f5.other W75 (Or.inl ne1)
      have f77 := f6.other W75 (Or.inl ne1)
      have f78 := f7.other W75 (Or.inl ne1)
      have f79 := f8.wr W75
      have f80 := V75
      have f81 := f10.other W75 (Ne.symm ne3)
      have K82 : Keep h0 h75 [x0, nd, ky] := K11.wr W75 (Or.inl (List.mem_of_getElem? (i := 1) rfl))
      have Z82 : n0 ≤ h75.size := by rw [Wr.size W75]; exact Z11
      have N82 := Fr.snoc X75 N11 g_nd
      show Goes _ _ _ _ _ _ _ (T75.setTop (mkF m 152 _ []))
      refine Goes.step (fun _ k => XS.aloadN X75.here hx rfl (hb hby d5_152) rfl rfl k) ?_
      obtain ⟨T83, X83, e83, st83⟩ := getF X75 hx hZ hown (host := "") (Or.inl w_17) Via.refl e75 f78 (g := (mkF m 153 #[.val (.ref x0), .val (.int va0), .val (.int va4), .val (.double (FP.i2d vb4)), .second, .val (.int (0 : Int32)), .val (.int (2 : Int32))] [(.ref x0)])) rfl rfl (hb hby d5_153)
      refine Goes.step st83 ?_
      show Goes _ _ _ _ _ _ _ (T83.setTop (mkF m 156 _ [(.ref ky)]))
      refine Goes.step (fun _ k => XS.iload X83.here hx rfl (hb hby d5_156) rfl  k) ?_
      refine Goes.step (fun _ k => XS.dloadN X83.here hx rfl (hb hby d5_158) rfl k) ?_
      obtain ⟨cl84, Ar84, q84, S84, P84, H84, G84⟩ := id f81
      have hin84 : ¬ ((0 : Int32) < 0 ∨ cl84.slots.size ≤ ((0 : Int32)).toNatClampNeg) := inb_of S84 ⟨by decide, by decide⟩
      obtain ⟨T85, h85, X85, e85, W85, st85⟩ := stD X83 hx hZ e83 Ar84 (j := (0 : Int32)) hin84 (g := (mkF m 159 #[.val (.ref x0), .val (.int va0), .val (.int va4), .val (.double (FP.i2d vb4)), .second, .val (.int (0 : Int32)), .val (.int (2 : Int32))] [(.double (FP.i2d vb4)), (.int (0 : Int32)), (.ref ky)])) rfl rfl (hb hby d5_159)
      refine Goes.step st85 ?_
      have V85 := Arv.set Ar84 q84 S84 P84 H84 G84 rfl W85 0 rfl (Nat.le_of_ble_eq_true rfl)
      have f86 := f76.other W85 (Or.inl ne2)
      have f87 := f77.other W85 (Or.inl ne2)
      have f88 := f78.other W85 (Or.inl ne2)
      have f89 := f79.wr W85
      have f90 := f80.other W85 ne3
      have f91 := V85
      have K92 : Keep h0 h85 [x0, nd, ky] := K82.wr W85 (Or.inl (List.mem_of_getElem? (i := 2) rfl))
      have Z92 : n0 ≤ h85.size := by rw [Wr.size W85]; exact Z82
      have N92 := Fr.snoc X85 N82 g_ky
      show Goes _ _ _ _ _ _ _ (T85.setTop (mkF m 160 _ []))
      refine Goes.step (fun _ k => XS.iloadN X85.here hx rfl (hb hby d5_160) rfl  k) ?_
      have ph0 := own_l c80_24
      have ph1 := own_nl c95_27
      exact Goes.ret X85 hx (BodyLoose.notSynchronized Bd) Bd.returns rfl (Or.inl ⟨rfl, by simp, _, rfl⟩) (hb hby d5_161) (by show Q5_5 Z x0 nd ky kn kd va0 va1 va2 va3 va4 va5 vb0 vb1 vb2 vb3 vb4 vb5 h0 n0 (some (.int va0)) T85.heap _; rw [e85]; exact ⟨N92, K92, rfl, f86, f87, f88, va4, va1, va2, va3, va4, va5, vb4, vb1, vb2, vb3, vb4, vb5, f90, f91, (List.Perm.map (fun i => ([(va1, vb1), (va2, vb2), (va3, vb3), (va4, vb4)] : List (Int32 × Int32)).getD i (0, 0)) (by decide : ([3, 0, 1, 2] : List Nat).Perm [0, 1, 2, 3])), by omega, by omega, by omega, by omega⟩) (by decide) (by decide)
  · refine Goes.step (fun _ k => XS.ifYes X22.here hx rfl (pc0 := 80) (pc' := 86) rfl (hb hby d5_80) rfl ((if0 _ _).trans (flt (fun q => c80_24 ((own_dlt _ _ _).mp q))).2.1) (by decide) (by decide) k) ?_
    show Goes _ _ _ _ _ _ _ (T22.setTop (mkF m 86 #[.val (.ref x0), .val (.int va0), .val (.int va4), .val (.double (FP.i2d vb4)), .second, .val (.int (0 : Int32)), .val (.int (1 : Int32))] []))
    refine Goes.step (fun _ k => XS.aloadN X22.here hx rfl (hb hby d5_86) rfl rfl k) ?_
    obtain ⟨T93, X93, e93, st93⟩ := getF X22 hx hZ hown (host := "") (Or.inl w_17) Via.refl e22 f7 (g := (mkF m 87 #[.val (.ref x0), .val (.int va0), .val (.int va4), .val (.double (FP.i2d vb4)), .second, .val (.int (0 : Int32)), .val (.int (1 : Int32))] [(.ref x0)])) rfl rfl (hb hby d5_87)
    refine Goes.step st93 ?_
    show Goes _ _ _ _ _ _ _ (T93.setTop (mkF m 90 _ [(.ref ky)]))
    refine Goes.step (fun _ k => XS.iload X93.here hx rfl (hb hby d5_90) rfl  k) ?_
    obtain ⟨cl94, Ar94, q94, S94, P94, H94, G94⟩ := id f10
    have hin94 : ¬ ((1 : Int32) < 0 ∨ cl94.slots.size ≤ ((1 : Int32)).toNatClampNeg) := inb_of S94 ⟨by decide, by decide⟩
    have hat94 : cl94.slots[((1 : Int32)).toNatClampNeg]? = some (.double (FP.i2d vb1)) := H94 _ (by rw [S94]; decide)
    refine Goes.step (fun _ k => X93.daload hx (j := (1 : Int32)) (v := (.double (FP.i2d vb1))) (by rw [e93]; exact Ar94.1) (State.isArrayOf_alike hZ.alike Ar94.2.1) Ar94.2.2 hin94 hat94 (g := (mkF m 92 #[.val (.ref x0), .val (.int va0), .val (.int va4), .val (.double (FP.i2d vb4)), .second, .val (.int (0 : Int32)), .val (.int (1 : Int32))] [(.int (1 : Int32)), (.ref ky)])) rfl rfl (hb hby d5_92) _ k) ?_
    show Goes _ _ _ _ _ _ _ (T93.setTop (mkF m 93 _ [(.double (FP.i2d vb1))]))
    refine Goes.step (fun _ k => XS.dloadN X93.here hx rfl (hb hby d5_93) rfl k) ?_
    refine Goes.step (fun _ k => XS.dcmpS X93.here hx rfl (hb hby d5_94) rfl rfl k) ?_
    show Goes _ _ _ _ _ _ _ (T93.setTop (mkF m 95 _ [(.int (cmpValue (FP.dcmp (FP.i2d vb1) (FP.i2d vb4)) .l))]))
    by_cases c95_95 : vb1 < vb4
    · refine Goes.step (fun _ k => XS.ifYes X93.here hx rfl (pc0 := 95) (pc' := 101) rfl (hb hby d5_95) rfl ((if0 _ _).trans (tlt ((own_dlt _ _ _).mpr c95_95)).1) (by decide) (by decide) k) ?_
      show Goes _ _ _ _ _ _ _ (T93.setTop (mkF m 101 _ []))
      refine Goes.step (fun _ k => XS.aloadN X93.here hx rfl (hb hby d5_101) rfl rfl k) ?_
      obtain ⟨T96, X96, e96, st96⟩ := getF X93 hx hZ hown (host := "") (Or.inl w_14) Via.refl e93 f6 (g := (mkF m 102 #[.val (.ref x0), .val (.int va0), .val (.int va4), .val (.double (FP.i2d vb4)), .second, .val (.int (0 : Int32)), .val (.int (1 : Int32))] [(.ref x0)])) rfl rfl (hb hby d5_102)
      refine Goes.step st96 ?_
      show Goes _ _ _ _ _ _ _ (T96.setTop (mkF m 105 _ [(.ref nd)]))
      refine Goes.step (fun _ k => XS.iload X96.here hx rfl (hb hby d5_105) rfl  k) ?_
      refine Goes.step (fun _ k => XS.aloadN X96.here hx rfl (hb hby d5_107) rfl rfl k) ?_
      obtain ⟨T97, X97, e97, st97⟩ := getF X96 hx hZ hown (host := "") (Or.inl w_14) Via.refl e96 f6 (g := (mkF m 108 #[.val (.ref x0), .val (.int va0), .val (.int va4), .val (.double (FP.i2d vb4)), .second, .val (.int (0 : Int32)), .val (.int (1 : Int32))] [(.ref x0), (.int (0 : Int32)), (.ref nd)])) rfl rfl (hb hby d5_108)
      refine Goes.step st97 ?_
      show Goes _ _ _ _ _ _ _ (T97.setTop (mkF m 111 _ [(.ref nd), (.int (0 : Int32)), (.ref nd)]))
      refine Goes.step (fun _ k => XS.iload X97.here hx rfl (hb hby d5_111) rfl  k) ?_
      obtain ⟨cl98, Ar98, q98, S98, P98, H98, G98⟩ := id f9
      have hin98 : ¬ ((1 : Int32) < 0 ∨ cl98.slots.size ≤ ((1 : Int32)).toNatClampNeg) := inb_of S98 ⟨by decide, by decide⟩
      have hat98 : cl98.slots[((1 : Int32)).toNatClampNeg]? = some (.int va1) := H98 _ (by rw [S98]; decide)
      refine Goes.step (fun _ k => X97.iaload hx (j := (1 : Int32)) (v := (.int va1)) (by rw [e97]; exact Ar98.1) (State.isArrayOf_alike hZ.alike Ar98.2.1) Ar98.2.2 hin98 hat98 (g := (mkF m 113 #[.val (.ref x0), .val (.int va0), .val (.int va4), .val (.double (FP.i2d vb4)), .second, .val (.int (0 : Int32)), .val (.int (1 : Int32))] [(.int (1 : Int32)), (.ref nd), (.int (0 : Int32)), (.ref nd)])) rfl rfl (hb hby d5_113) _ k) ?_
      show Goes _ _ _ _ _ _ _ (T97.setTop (mkF m 114 #[.val (.ref x0), .val (.int va0), .val (.int va4), .val (.double (FP.i2d vb4)), .second, .val (.int (0 : Int32)), .val (.int (1 : Int32))] [(.int va1), (.int (0 : Int32)), (.ref nd)]))
      obtain ⟨cl99, Ar99, q99, S99, P99, H99, G99⟩ := id f9
      have hin99 : ¬ ((0 : Int32) < 0 ∨ cl99.slots.size ≤ ((0 : Int32)).toNatClampNeg) := inb_of S99 ⟨by decide, by decide⟩
      obtain ⟨T100, h100, X100, e100, W100, st100⟩ := stI X97 hx hZ e97 Ar99 (j := (0 : Int32)) hin99 (g := (mkF m 114 #[.val (.ref x0), .val (.int va0), .val (.int va4), .val (.double (FP.i2d vb4)), .second, .val (.int (0 : Int32)), .val (.int (1 : Int32))] [(.int va1), (.int (0 : Int32)), (.ref nd)])) rfl rfl (hb hby d5_114)
      refine Goes.step st100 ?_
      have V100 := Arv.set Ar99 q99 S99 P99 H99 G99 rfl W100 0 rfl (Nat.le_of_ble_eq_true rfl)
      have f101 := f5.other W100 (Or.inl ne1)
      have f102 := f6.other W100 (Or.inl ne1)
      have f103 := f7.other W100 (Or.inl ne1)
      have f104 := f8.wr W100
      have f105 := V100
      have f106 := f10.other W100 (Ne.symm ne3)
      have K107 : Keep h0 h100 [x0, nd, ky] := K11.wr W100 (Or.inl (List.mem_of_getElem? (i := 1) rfl))
      have Z107 : n0 ≤ h100.size := by rw [Wr.size W100]; exact Z11
      have N107 := Fr.snoc X100 N11 g_nd
      show Goes _ _ _ _ _ _ _ (T100.setTop (mkF m 115 _ []))
      refine Goes.step (fun _ k => XS.aloadN X100.here hx rfl (hb hby d5_115) rfl rfl k) ?_
      obtain ⟨T108, X108, e108, st108⟩ := getF X100 hx hZ hown (host := "") (Or.inl w_17) Via.refl e100 f103 (g := (mkF m 116 #[.val (.ref x0), .val (.int va0), .val (.int va4), .val (.double (FP.i2d vb4)), .second, .val (.int (0 : Int32)), .val (.int (1 : Int32))] [(.ref x0)])) rfl rfl (hb hby d5_116)
      refine Goes.step st108 ?_
      show Goes _ _ _ _ _ _ _ (T108.setTop (mkF m 119 _ [(.ref ky)]))
      refine Goes.step (fun _ k => XS.iload X108.here hx rfl (hb hby d5_119) rfl  k) ?_
      refine Goes.step (fun _ k => XS.aloadN X108.here hx rfl (hb hby d5_121) rfl rfl k) ?_
      obtain ⟨T109, X109, e109, st109⟩ := getF X108 hx hZ hown (host := "") (Or.inl w_17) Via.refl e108 f103 (g := (mkF m 122 #[.val (.ref x0), .val (.int va0), .val (.int va4), .val (.double (FP.i2d vb4)), .second, .val (.int (0 : Int32)), .val (.int (1 : Int32))] [(.ref x0), (.int (0 : Int32)), (.ref ky)])) rfl rfl (hb hby d5_122)
      refine Goes.step st109 ?_
      show Goes _ _ _ _ _ _ _ (T109.setTop (mkF m 125 _ [(.ref ky), (.int (0 : Int32)), (.ref ky)]))
      refine Goes.step (fun _ k => XS.iload X109.here hx rfl (hb hby d5_125) rfl  k) ?_
      obtain ⟨cl110, Ar110, q110, S110, P110, H110, G110⟩ := id f106
      have hin110 : ¬ ((1 : Int32) < 0 ∨ cl110.slots.size ≤ ((1 : Int32)).toNatClampNeg) := inb_of S110 ⟨by decide, by decide⟩
      have hat110 : cl110.slots[((1 : Int32)).toNatClampNeg]? = some (.double (FP.i2d vb1)) := H110 _ (by rw [S110]; decide)
      refine Goes.step (fun _ k => X109.daload hx (j := (1 : Int32)) (v := (.double (FP.i2d vb1))) (by rw [e109]; exact Ar110.1) (State.isArrayOf_alike hZ.alike Ar110.2.1) Ar110.2.2 hin110 hat110 (g := (mkF m 127 #[.val (.ref x0), .val (.int va0), .val (.int va4), .val (.double (FP.i2d vb4)), .second, .val (.int (0 : Int32)), .val (.int (1 : Int32))] [(.int (1 : Int32)), (.ref ky), (.int (0 : Int32)), (.ref ky)])) rfl rfl (hb hby d5_127) _ k) ?_
      show Goes _ _ _ _ _ _ _ (T109.setTop (mkF m 128 _ [(.double (FP.i2d vb1)), (.int (0 : Int32)), (.ref ky)]))
      obtain ⟨cl111, Ar111, q111, S111, P111, H111, G111⟩ := id f106
      have hin111 : ¬ ((0 : Int32) < 0 ∨ cl111.slots.size ≤ ((0 : Int32)).toNatClampNeg) := inb_of S111 ⟨by decide, by decide⟩
      obtain ⟨T112, h112, X112, e112, W112, st112⟩ := stD X109 hx hZ e109 Ar111 (j := (0 : Int32)) hin111 (g := (mkF m 128 #[.val (.ref x0), .val (.int va0), .val (.int va4), .val (.double (FP.i2d vb4)), .second, .val (.int (0 : Int32)), .val (.int (1 : Int32))] [(.double (FP.i2d vb1)), (.int (0 : Int32)), (.ref ky)])) rfl rfl (hb hby d5_128)
      refine Goes.step st112 ?_
      have V112 := Arv.set Ar111 q111 S111 P111 H111 G111 rfl W112 0 rfl (Nat.le_of_ble_eq_true rfl)
      have f113 := f101.other W112 (Or.inl ne2)
      have f114 := f102.other W112 (Or.inl ne2)
      have f115 := f103.other W112 (Or.inl ne2)
      have f116 := f104.wr W112
      have f117 := f105.other W112 ne3
      have f118 := V112
      have K119 : Keep h0 h112 [x0, nd, ky] := K107.wr W112 (Or.inl (List.mem_of_getElem? (i := 2) rfl))
      have Z119 : n0 ≤ h112.size := by rw [Wr.size W112]; exact Z107
      have N119 := Fr.snoc X112 N107 g_ky
      show Goes _ _ _ _ _ _ _ (T112.setTop (mkF m 129 _ []))
      refine Goes.step (fun _ k => XS.iload X112.here hx rfl (hb hby d5_129) rfl  k) ?_
      refine Goes.step (fun _ k => XS.istore X112.here hx rfl (hb hby d5_131) rfl (l' := #[.val (.ref x0), .val (.int va0), .val (.int va4), .val (.double (FP.i2d vb4)), .second, .val (.int (1 : Int32)), .val (.int (1 : Int32))]) rfl k) ?_
      show Goes _ _ _ _ _ _ _ (T112.setTop (mkF m 133 _ []))
      refine Goes.step (fun _ k => XS.iconst X112.here hx rfl (hb hby d5_133) k) ?_
      refine Goes.step (fun _ k => XS.iload X112.here hx rfl (hb hby d5_134) rfl  k) ?_
      refine Goes.step (fun _ k => XS.imul X112.here hx rfl (hb hby d5_136) rfl k) ?_
      show Goes _ _ _ _ _ _ _ (T112.setTop (mkF m 137 #[.val (.ref x0), .val (.int va0), .val (.int va4), .val (.double (FP.i2d vb4)), .second, .val (.int (1 : Int32)), .val (.int (1 : Int32))] [(.int (2 : Int32))]))
      refine Goes.step (fun _ k => XS.iconst X112.here hx rfl (hb hby d5_137) k) ?_
      refine Goes.step (fun _ k => XS.iadd X112.here hx rfl (hb hby d5_138) rfl k) ?_
      show Goes _ _ _ _ _ _ _ (T112.setTop (mkF m 139 _ [(.int (3 : Int32))]))
      refine Goes.step (fun _ k => XS.istore X112.here hx rfl (hb hby d5_139) rfl (l' := #[.val (.ref x0), .val (.int va0), .val (.int va4), .val (.double (FP.i2d vb4)), .second, .val (.int (1 : Int32)), .val (.int (3 : Int32))]) rfl k) ?_
      show Goes _ _ _ _ _ _ _ (T112.setTop (mkF m 141 _ []))
      refine Goes.step (fun _ k => XS.goto X112.here hx rfl (pc0 := 141) (pc' := 43) rfl (hb hby d5_141) (by decide) (by decide) k) ?_
      show Goes _ _ _ _ _ _ _ (T112.setTop (mkF m 43 _ []))
      refine Goes.step (fun _ k => XS.iload X112.here hx rfl (hb hby d5_43) rfl  k) ?_
      refine Goes.step (fun _ k => XS.aloadN X112.here hx rfl (hb hby d5_45) rfl rfl k) ?_
      obtain ⟨T120, X120, e120, st120⟩ := getF X112 hx hZ hown (host := "") (Or.inl w_24) Via.refl e112 f113 (g := (mkF m 46 #[.val (.ref x0), .val (.int va0), .val (.int va4), .val (.double (FP.i2d vb4)), .second, .val (.int (1 : Int32)), .val (.int (3 : Int32))] [(.ref x0), (.int (3 : Int32))])) rfl rfl (hb hby d5_46)
      refine Goes.step st120 ?_
      show Goes _ _ _ _ _ _ _ (T120.setTop (mkF m 49 _ [(.int (4 : Int32)), (.int (3 : Int32))]))
      refine Goes.step (fun _ k => XS.icmpNo X120.here hx rfl (hb hby d5_49) rfl (tlt (by decide : (3 : Int32) < (4 : Int32))).2.1 k) ?_
      show Goes _ _ _ _ _ _ _ (T120.setTop (mkF m 52 _ []))
      refine Goes.step (fun _ k => XS.iload X120.here hx rfl (hb hby d5_52) rfl  k) ?_
      refine Goes.step (fun _ k => XS.iconst X120.here hx rfl (hb hby d5_54) k) ?_
      refine Goes.step (fun _ k => XS.iadd X120.here hx rfl (hb hby d5_55) rfl k) ?_
      show Goes _ _ _ _ _ _ _ (T120.setTop (mkF m 56 _ [(.int (4 : Int32))]))
      refine Goes.step (fun _ k => XS.aloadN X120.here hx rfl (hb hby d5_56) rfl rfl k) ?_
      obtain ⟨T121, X121, e121, st121⟩ := getF X120 hx hZ hown (host := "") (Or.inl w_24) Via.refl e120 f113 (g := (mkF m 57 #[.val (.ref x0), .val (.int va0), .val (.int va4), .val (.double (FP.i2d vb4)), .second, .val (.int (1 : Int32)), .val (.int (3 : Int32))] [(.ref x0), (.int (4 : Int32))])) rfl rfl (hb hby d5_57)
      refine Goes.step st121 ?_
      show Goes _ _ _ _ _ _ _ (T121.setTop (mkF m 60 #[.val (.ref x0), .val (.int va0), .val (.int va4), .val (.double (FP.i2d vb4)), .second, .val (.int (1 : Int32)), .val (.int (3 : Int32))] [(.int (4 : Int32)), (.int (4 : Int32))]))
      refine Goes.step (fun _ k => XS.icmpYes X121.here hx rfl (pc0 := 60) (pc' := 86) rfl (hb hby d5_60) rfl (flt (by decide : ¬ ((4 : Int32) < (4 : Int32)))).2.1 (by decide) (by decide) k) ?_
      show Goes _ _ _ _ _ _ _ (T121.setTop (mkF m 86 _ []))
      refine Goes.step (fun _ k => XS.aloadN X121.here hx rfl (hb hby d5_86) rfl rfl k) ?_
      obtain ⟨T122, X122, e122, st122⟩ := getF X121 hx hZ hown (host := "") (Or.inl w_17) Via.refl e121 f115 (g := (mkF m 87 #[.val (.ref x0), .val (.int va0), .val (.int va4), .val (.double (FP.i2d vb4)), .second, .val (.int (1 : Int32)), .val (.int (3 : Int32))] [(.ref x0)])) rfl rfl (hb hby d5_87)
      refine Goes.step st122 ?_
      show Goes _ _ _ _ _ _ _ (T122.setTop (mkF m 90 _ [(.ref ky)]))
      refine Goes.step (fun _ k => XS.iload X122.here hx rfl (hb hby d5_90) rfl  k) ?_
      obtain ⟨cl123, Ar123, q123, S123, P123, H123, G123⟩ := id f118
      have hin123 : ¬ ((3 : Int32) < 0 ∨ cl123.slots.size ≤ ((3 : Int32)).toNatClampNeg) := inb_of S123 ⟨by decide, by decide⟩
      have hat123 : cl123.slots[((3 : Int32)).toNatClampNeg]? = some (.double (FP.i2d vb3)) := H123 _ (by rw [S123]; decide)
      refine Goes.step (fun _ k => X122.daload hx (j := (3 : Int32)) (v := (.double (FP.i2d vb3))) (by rw [e122]; exact Ar123.1) (State.isArrayOf_alike hZ.alike Ar123.2.1) Ar123.2.2 hin123 hat123 (g := (mkF m 92 #[.val (.ref x0), .val (.int va0), .val (.int va4), .val (.double (FP.i2d vb4)), .second, .val (.int (1 : Int32)), .val (.int (3 : Int32))] [(.int (3 : Int32)), (.ref ky)])) rfl rfl (hb hby d5_92) _ k) ?_
      show Goes _ _ _ _ _ _ _ (T122.setTop (mkF m 93 _ [(.double (FP.i2d vb3))]))
      refine Goes.step (fun _ k => XS.dloadN X122.here hx rfl (hb hby d5_93) rfl k) ?_
      refine Goes.step (fun _ k => XS.dcmpS X122.here hx rfl (hb hby d5_94) rfl rfl k) ?_
      show Goes _ _ _ _ _ _ _ (T122.setTop (mkF m 95 _ [(.int (cmpValue (FP.dcmp (FP.i2d vb3) (FP.i2d vb4)) .l))]))
      by_cases c95_124 : vb3 < vb4
      · refine Goes.step (fun _ k => XS.ifYes X122.here hx rfl (pc0 := 95) (pc' := 101) rfl (hb hby d5_95) rfl ((if0 _ _).trans (tlt ((own_dlt _ _ _).mpr c95_124)).1) (by decide) (by decide) k) ?_
        show Goes _ _ _ _ _ _ _ (T122.setTop (mkF m 101 _ []))
        refine Goes.step (fun _ k => XS.aloadN X122.here hx rfl (hb hby d5_101) rfl rfl k) ?_
        obtain ⟨T125, X125, e125, st125⟩ := getF X122 hx hZ hown (host := "") (Or.inl w_14) Via.refl e122 f114 (g := (mkF m 102 #[.val (.ref x0), .val (.int va0), .val (.int va4), .val (.double (FP.i2d vb4)), .second, .val (.int (1 : Int32)), .val (.int (3 : Int32))] [(.ref x0)])) rfl rfl (hb hby d5_102)
        refine Goes.step st125 ?_
        show Goes _ _ _ _ _ _ _ (T125.setTop (mkF m 105 _ [(.ref nd)]))
        refine Goes.step (fun _ k => XS.iload X125.here hx rfl (hb hby d5_105) rfl  k) ?_
        refine Goes.step (fun _ k => XS.aloadN X125.here hx rfl (hb hby d5_107) rfl rfl k) ?_
        obtain ⟨T126, X126, e126, st126⟩ := getF X125 hx hZ hown (host := "") (Or.inl w_14) Via.refl e125 f114 (g := (mkF m 108 #[.val (.ref x0), .val (.int va0), .val (.int va4), .val (.double (FP.i2d vb4)), .second, .val (.int (1 : Int32)), .val (.int (3 : Int32))] [(.ref x0), (.int (1 : Int32)), (.ref nd)])) rfl rfl (hb hby d5_108)
        refine Goes.step st126 ?_
        show Goes _ _ _ _ _ _ _ (T126.setTop (mkF m 111 #[.val (.ref x0), .val (.int va0), .val (.int va4), .val (.double (FP.i2d vb4)), .second, .val (.int (1 : Int32)), .val (.int (3 : Int32))] [(.ref nd), (.int (1 : Int32)), (.ref nd)]))
        refine Goes.step (fun _ k => XS.iload X126.here hx rfl (hb hby d5_111) rfl  k) ?_
        obtain ⟨cl127, Ar127, q127, S127, P127, H127, G127⟩ := id f117
        have hin127 : ¬ ((3 : Int32) < 0 ∨ cl127.slots.size ≤ ((3 : Int32)).toNatClampNeg) := inb_of S127 ⟨by decide, by decide⟩
        have hat127 : cl127.slots[((3 : Int32)).toNatClampNeg]? = some (.int va3) := H127 _ (by rw [S127]; decide)
        refine Goes.step (fun _ k => X126.iaload hx (j := (3 : Int32)) (v := (.int va3)) (by rw [e126]; exact Ar127.1) (State.isArrayOf_alike hZ.alike Ar127.2.1) Ar127.2.2 hin127 hat127 (g := (mkF m 113 #[.val (.ref x0), .val (.int va0), .val (.int va4), .val (.double (FP.i2d vb4)), .second, .val (.int (1 : Int32)), .val (.int (3 : Int32))] [(.int (3 : Int32)), (.ref nd), (.int (1 : Int32)), (.ref nd)])) rfl rfl (hb hby d5_113) _ k) ?_
        show Goes _ _ _ _ _ _ _ (T126.setTop (mkF m 114 _ [(.int va3), (.int (1 : Int32)), (.ref nd)]))
        obtain ⟨cl128, Ar128, q128, S128, P128, H128, G128⟩ := id f117
        have hin128 : ¬ ((1 : Int32) < 0 ∨ cl128.slots.size ≤ ((1 : Int32)).toNatClampNeg) := inb_of S128 ⟨by decide, by decide⟩
        obtain ⟨T129, h129, X129, e129, W129, st129⟩ := stI X126 hx hZ e126 Ar128 (j := (1 : Int32)) hin128 (g := (mkF m 114 #[.val (.ref x0), .val (.int va0), .val (.int va4), .val (.double (FP.i2d vb4)), .second, .val (.int (1 : Int32)), .val (.int (3 : Int32))] [(.int va3), (.int (1 : Int32)), (.ref nd)])) rfl rfl (hb hby d5_114)
        refine Goes.step st129 ?_
        have V129 := Arv.set Ar128 q128 S128 P128 H128 G128 rfl W129 1 rfl (Nat.le_of_ble_eq_true rfl)
        have f130 := f113.other W129 (Or.inl ne1)
        have f131 := f114.other W129 (Or.inl ne1)
        have f132 := f115.other W129 (Or.inl ne1)
        have f133 := f116.wr W129
        have f134 := V129
        have f135 := f118.other W129 (Ne.symm ne3)
        have K136 : Keep h0 h129 [x0, nd, ky] := K119.wr W129 (Or.inl (List.mem_of_getElem? (i := 1) rfl))
        have Z136 : n0 ≤ h129.size := by rw [Wr.size W129]; exact Z119
        have N136 := Fr.snoc X129 N119 g_nd
        show Goes _ _ _ _ _ _ _ (T129.setTop (mkF m 115 _ []))
        refine Goes.step (fun _ k => XS.aloadN X129.here hx rfl (hb hby d5_115) rfl rfl k) ?_
        obtain ⟨T137, X137, e137, st137⟩ := getF X129 hx hZ hown (host := "") (Or.inl w_17) Via.refl e129 f132 (g := (mkF m 116 #[.val (.ref x0), .val (.int va0), .val (.int va4), .val (.double (FP.i2d vb4)), .second, .val (.int (1 : Int32)), .val (.int (3 : Int32))] [(.ref x0)])) rfl rfl (hb hby d5_116)
        refine Goes.step st137 ?_
        show Goes _ _ _ _ _ _ _ (T137.setTop (mkF m 119 _ [(.ref ky)]))
        refine Goes.step (fun _ k => XS.iload X137.here hx rfl (hb hby d5_119) rfl  k) ?_
        refine Goes.step (fun _ k => XS.aloadN X137.here hx rfl (hb hby d5_121) rfl rfl k) ?_
        obtain ⟨T138, X138, e138, st138⟩ := getF X137 hx hZ hown (host := "") (Or.inl w_17) Via.refl e137 f132 (g := (mkF m 122 #[.val (.ref x0), .val (.int va0), .val (.int va4), .val (.double (FP.i2d vb4)), .second, .val (.int (1 : Int32)), .val (.int (3 : Int32))] [(.ref x0), (.int (1 : Int32)), (.ref ky)])) rfl rfl (hb hby d5_122)
        refine Goes.step st138 ?_
        show Goes _ _ _ _ _ _ _ (T138.setTop (mkF m 125 _ [(.ref ky), (.int (1 : Int32)), (.ref ky)]))
        refine Goes.step (fun _ k => XS.iload X138.here hx rfl (hb hby d5_125) rfl  k) ?_
        obtain ⟨cl139, Ar139, q139, S139, P139, H139, G139⟩ := id f135
        have hin139 : ¬ ((3 : Int32) < 0 ∨ cl139.slots.size ≤ ((3 : Int32)).toNatClampNeg) := inb_of S139 ⟨by decide, by decide⟩
        have hat139 : cl139.slots[((3 : Int32)).toNatClampNeg]? = some (.double (FP.i2d vb3)) := H139 _ (by rw [S139]; decide)
        refine Goes.step (fun _ k => X138.daload hx (j := (3 : Int32)) (v := (.double (FP.i2d vb3))) (by rw [e138]; exact Ar139.1) (State.isArrayOf_alike hZ.alike Ar139.2.1) Ar139.2.2 hin139 hat139 (g := (mkF m 127 #[.val (.ref x0), .val (.int va0), .val (.int va4), .val (.double (FP.i2d vb4)), .second, .val (.int (1 : Int32)), .val (.int (3 : Int32))] [(.int (3 : Int32)), (.ref ky), (.int (1 : Int32)), (.ref ky)])) rfl rfl (hb hby d5_127) _ k) ?_
        show Goes _ _ _ _ _ _ _ (T138.setTop (mkF m 128 _ [(.double (FP.i2d vb3)), (.int (1 : Int32)), (.ref ky)]))
        obtain ⟨cl140, Ar140, q140, S140, P140, H140, G140⟩ := id f135
        have hin140 : ¬ ((1 : Int32) < 0 ∨ cl140.slots.size ≤ ((1 : Int32)).toNatClampNeg) := inb_of S140 ⟨by decide, by decide⟩
        obtain ⟨T141, h141, X141, e141, W141, st141⟩ := stD X138 hx hZ e138 Ar140 (j := (1 : Int32)) hin140 (g := (mkF m 128 #[.val (.ref x0), .val (.int va0), .val (.int va4), .val (.double (FP.i2d vb4)), .second, .val (.int (1 : Int32)), .val (.int (3 : Int32))] [(.double (FP.i2d vb3)), (.int (1 : Int32)), (.ref ky)])) rfl rfl (hb hby d5_128)
        refine Goes.step st141 ?_
        have V141 := Arv.set Ar140 q140 S140 P140 H140 G140 rfl W141 1 rfl (Nat.le_of_ble_eq_true rfl)
        have f142 := f130.other W141 (Or.inl ne2)
        have f143 := f131.other W141 (Or.inl ne2)
        have f144 := f132.other W141 (Or.inl ne2)
        have f145 := f133.wr W141
        have f146 := f134.other W141 ne3
        have f147 := V141
        have K148 : Keep h0 h141 [x0, nd, ky] := K136.wr W141 (Or.inl (List.mem_of_getElem? (i := 2) rfl))
        have Z148 : n0 ≤ h141.size := by rw [Wr.size W141]; exact Z136
        have N148 := Fr.snoc X141 N136 g_ky
        show Goes _ _ _ _ _ _ _ (T141.setTop (mkF m 129 _ []))
        refine Goes.step (fun _ k => XS.iload X141.here hx rfl (hb hby d5_129) rfl  k) ?_
        refine Goes.step (fun _ k => XS.istore X141.here hx rfl (hb hby d5_131) rfl (l' := #[.val (.ref x0), .val (.int va0), .val (.int va4), .val (.double (FP.i2d vb4)), .second, .val (.int (3 : Int32)), .val (.int (3 : Int32))]) rfl k) ?_
        show Goes _ _ _ _ _ _ _ (T141.setTop (mkF m 133 #[.val (.ref x0), .val (.int va0), .val (.int va4), .val (.double (FP.i2d vb4)), .second, .val (.int (3 : Int32)), .val (.int (3 : Int32))] []))
        refine Goes.step (fun _ k => XS.iconst X141.here hx rfl (hb hby d5_133) k) ?_
        refine Goes.step (fun _ k => XS.iload X141.here hx rfl (hb hby d5_134) rfl  k) ?_
        refine Goes.step (fun _ k => XS.imul X141.here hx rfl (hb hby d5_136) rfl k) ?_
        show Goes _ _ _ _ _ _ _ (T141.setTop (mkF m 137 _ [(.int (6 : Int32))]))
        refine Goes.step (fun _ k => XS.iconst X141.here hx rfl (hb hby d5_137) k) ?_
        refine Goes.step (fun _ k => XS.iadd X141.here hx rfl (hb hby d5_138) rfl k) ?_
        show Goes _ _ _ _ _ _ _ (T141.setTop (mkF m 139 _ [(.int (7 : Int32))]))
        refine Goes.step (fun _ k => XS.istore X141.here hx rfl (hb hby d5_139) rfl (l' := #[.val (.ref x0), .val (.int va0), .val (.int va4), .val (.double (FP.i2d vb4)), .second, .val (.int (3 : Int32)), .val (.int (7 : Int32))]) rfl k) ?_
        show Goes _ _ _ _ _ _ _ (T141.setTop (mkF m 141 _ []))
        refine Goes.step (fun _ k => XS.goto X141.here hx rfl (pc0 := 141) (pc' := 43) rfl (hb hby d5_141) (by decide) (by decide) k) ?_
        show Goes _ _ _ _ _ _ _ (T141.setTop (mkF m 43 _ []))
        refine Goes.step (fun _ k => XS.iload X141.here hx rfl (hb hby d5_43) rfl  k) ?_
        refine Goes.step (fun _ k => XS.aloadN X141.here hx rfl (hb hby d5_45) rfl rfl k) ?_
        obtain ⟨T149, X149, e149, st149⟩ := getF X141 hx hZ hown (host := "") (Or.inl w_24) Via.refl e141 f142 (g := (mkF m 46 #[.val (.ref x0), .val (.int va0), .val (.int va4), .val (.double (FP.i2d vb4)), .second, .val (.int (3 : Int32)), .val (.int (7 : Int32))] [(.ref x0), (.int (7 : Int32))])) rfl rfl (hb hby d5_46)
        refine Goes.step st149 ?_
        show Goes _ _ _ _ _ _ _ (T149.setTop (mkF m 49 _ [(.int (4 : Int32)), (.int (7 : Int32))]))
        refine Goes.step (fun _ k => XS.icmpYes X149.here hx rfl (pc0 := 49) (pc' := 144) rfl (hb hby d5_49) rfl (flt (by decide : ¬ ((7 : Int32) < (4 : Int32)))).2.1 (by decide) (by decide) k) ?_
        show Goes _ _ _ _ _ _ _ (T149.setTop (mkF m 144 _ []))
        refine Goes.step (fun _ k => XS.aloadN X149.here hx rfl (hb hby d5_144) rfl rfl k) ?_
        obtain ⟨T150, X150, e150, st150⟩ := getF X149 hx hZ hown (host := "") (Or.inl w_14) Via.refl e149 f143 (g := (mkF m 145 #[.val (.ref x0), .val (.int va0), .val (.int va4), .val (.double (FP.i2d vb4)), .second, .val (.int (3 : Int32)), .val (.int (7 : Int32))] [(.ref x0)])) rfl rfl (hb hby d5_145)
        refine Goes.step st150 ?_
        show Goes _ _ _ _ _ _ _ (T150.setTop (mkF m 148 #[.val (.ref x0), .val (.int va0), .val (.int va4), .val (.double (FP.i2d vb4)), .second, .val (.int (3 : Int32)), .val (.int (7 : Int32))] [(.ref nd)]))
        refine Goes.step (fun _ k => XS.iload X150.here hx rfl (hb hby d5_148) rfl  k) ?_
        refine Goes.step (fun _ k => XS.iloadN X150.here hx rfl (hb hby d5_150) rfl  k) ?_
        obtain ⟨cl151, Ar151, q151, S151, P151, H151, G151⟩ := id f146
        have hin151 : ¬ ((3 : Int32) < 0 ∨ cl151.slots.size ≤ ((3 : Int32)).toNatClampNeg) := inb_of S151 ⟨by decide, by decide⟩
        obtain ⟨T152, h152, X152, e152, W152, st152⟩ := stI X150 hx hZ e150 Ar151 (j := (3 : Int32)) hin151 (g := (mkF m 151 #[.val (.ref x0), .val (.int va0), .val (.int va4), .val (.double (FP.i2d vb4)), .second, .val (.int (3 : Int32)), .val (.int (7 : Int32))] [(.int va4), (.int (3 : Int32)), (.ref nd)])) rfl rfl (hb hby d5_151)
        refine Goes.step st152 ?_
        have V152 := Arv.set Ar151 q151 S151 P151 H151 G151 rfl W152 3 rfl (Nat.le_of_ble_eq_true rfl)
        have f153 := f142.other W152 (Or.inl ne1)
        have f154 := f143.other W152 (Or.inl ne1)
        have f155 := f144.other W152 (Or.inl ne1)
        have f156 := f145.wr W152
        have f157 := V152
        have f158 := f147.other W152 (Ne.symm ne3)
        have K159 : Keep h0 h152 [x0, nd, ky] := K148.wr W152 (Or.inl (List.mem_of_getElem? (i := 1) rfl))
        have Z159 : n0 ≤ h152.size := by rw [Wr.size W152]; exact Z148
        have N159 := Fr.snoc X152 N148 g_nd
        show Goes _ _ _ _ _ _ _ (T152.setTop (mkF m 152 _ []))
        refine Goes.step (fun _ k => XS.aloadN X152.here hx rfl (hb hby d5_152) rfl rfl k) ?_
        obtain ⟨T160, X160, e160, st160⟩ := getF X152 hx hZ hown (host := "") (Or.inl w_17) Via.refl e152 f155 (g := (mkF m 153 #[.val (.ref x0), .val (.int va0), .val (.int va4), .val (.double (FP.i2d vb4)), .second, .val (.int (3 : Int32)), .val (.int (7 : Int32))] [(.ref x0)])) rfl rfl (hb hby d5_153)
        refine Goes.step st160 ?_
        show Goes _ _ _ _ _ _ _ (T160.setTop (mkF m 156 _ [(.ref ky)]))
        refine Goes.step (fun _ k => XS.iload X160.here hx rfl (hb hby d5_156) rfl  k) ?_
        refine Goes.step (fun _ k => XS.dloadN X160.here hx rfl (hb hby d5_158) rfl k) ?_
        obtain ⟨cl161, Ar161, q161, S161, P161, H161, G161⟩ := id f158
        have hin161 : ¬ ((3 : Int32) < 0 ∨ cl161.slots.size ≤ ((3 : Int32)).toNatClampNeg) := inb_of S161 ⟨by decide, by decide⟩
        obtain ⟨T162, h162, X162, e162, W162, st162⟩ := stD X160 hx hZ e160 Ar161 (j := (3 : Int32)) hin161 (g := (mkF m 159 #[.val (.ref x0), .val (.int va0), .val (.int va4), .val (.double (FP.i2d vb4)), .second, .val (.int (3 : Int32)), .val (.int (7 : Int32))] [(.double (FP.i2d vb4)), (.int (3 : Int32)), (.ref ky)])) rfl rfl (hb hby d5_159)
        refine Goes.step st162 ?_
        have V162 := Arv.set Ar161 q161 S161 P161 H161 G161 rfl W162 3 rfl (Nat.le_of_ble_eq_true rfl)
        have f163 := f153.other W162 (Or.inl ne2)
        have f164 := f154.other W162 (Or.inl ne2)
        have f165 := f155.other W162 (Or.inl ne2)
        have f166 := f156.wr W162
        have f167 := f157.other W162 ne3
        have f168 := V162
        have K169 : Keep h0 h162 [x0, nd, ky] := K159.wr W162 (Or.inl (List.mem_of_getElem? (i := 2) rfl))
        have Z169 : n0 ≤ h162.size := by rw [Wr.size W162]; exact Z159
        have N169 := Fr.snoc X162 N159 g_ky
        show Goes _ _ _ _ _ _ _ (T162.setTop (mkF m 160 _ []))
        refine Goes.step (fun _ k => XS.iloadN X162.here hx rfl (hb hby d5_160) rfl  k) ?_
        have ph0 := own_nl c80_24
        have ph1 := own_l c95_95
        have ph2 := own_l c95_124
        exact Goes.ret X162 hx (BodyLoose.notSynchronized Bd) Bd.returns rfl (Or.inl ⟨rfl, by simp, _, rfl⟩) (hb hby d5_161) (by show Q5_5 Z x0 nd ky kn kd va0 va1 va2 va3 va4 va5 vb0 vb1 vb2 vb3 vb4 vb5 h0 n0 (some (.int va0)) T162.heap _; rw [e162]; exact ⟨N169, K169, rfl, f163, f164, f165, va1, va3, va2, va4, va4, va5, vb1, vb3, vb2, vb4, vb4, vb5, f167, f168, (List.Perm.map (fun i => ([(va1, vb1), (va2, vb2), (va3, vb3), (va4, vb4)] : List (Int32 × Int32)).getD i (0, 0)) (by decide : ([0, 2, 1, 3] : List Nat).Perm [0, 1, 2, 3])), by omega, by omega, by omega, by omega⟩) (by decide) (by decide)
      · refine Goes.step (fun _ k => XS.ifNo X122.here hx rfl (hb hby d5_95) rfl ((if0 _ _).trans (flt (fun q => c95_124 ((own_dlt _ _ _).mp q))).1) k) ?_
        show Goes _ _ _ _ _ _ _ (T122.setTop (mkF m 98 _ []))
        refine Goes.step (fun _ k => XS.goto X122.here hx rfl (pc0 := 98) (pc' := 144) rfl (hb hby d5_98) (by decide) (by decide) k) ?_
        show Goes _ _ _ _ _ _ _ (T122.setTop (mkF m 144 _ []))
        refine Goes.step (fun _ k => XS.aloadN X122.here hx rfl (hb hby d5_144) rfl rfl k) ?_
        obtain ⟨T170, X170, e170, st170⟩ := getF X122 hx hZ hown (host := "") (Or.inl w_14) Via.refl e122 f114 (g := (mkF m 145 #[.val (.ref x0), .val (.int va0), .val (.int va4), .val (.double (FP.i2d vb4)), .second, .val (.int (1 : Int32)), .val (.int (3 : Int32))] [(.ref x0)])) rfl rfl (hb hby d5_145)
        refine Goes.step st170 ?_
        show Goes _ _ _ _ _ _ _ (T170.setTop (mkF m 148 #[.val (.ref x0), .val (.int va0), .val (.int va4), .val (.double (FP.i2d vb4)), .second, .val (.int (1 : Int32)), .val (.int (3 : Int32))] [(.ref nd)]))
        refine Goes.step (fun _ k => XS.iload X170.here hx rfl (hb hby d5_148) rfl  k) ?_
        refine Goes.step (fun _ k => XS.iloadN X170.here hx rfl (hb hby d5_150) rfl  k) ?_
        obtain ⟨cl171, Ar171, q171, S171, P171, H171, G171⟩ := id f117
        have hin171 : ¬ ((1 : Int32) < 0 ∨ cl171.slots.size ≤ ((1 : Int32)).toNatClampNeg) := inb_of S171 ⟨by decide, by decide⟩
        obtain ⟨T172, h172, X172, e172, W172, st172⟩ := stI X170 hx hZ e170 Ar171 (j := (1 : Int32)) hin171 (g := (mkF m 151 #[.val (.ref x0), .val (.int va0), .val (.int va4), .val (.double (FP.i2d vb4)), .second, .val (.int (1 : Int32)), .val (.int (3 : Int32))] [(.int va4), (.int (1 : Int32)), (.ref nd)])) rfl rfl (hb hby d5_151)
        refine Goes.step st172 ?_
        have V172 := Arv.set Ar171 q171 S171 P171 H171 G171 rfl W172 1 rfl (Nat.le_of_ble_eq_true rfl)
        have f173 := f113.other W172 (Or.inl ne1)
        have f174 := f114.other W172 (Or.inl ne1)
        have f175 := f115.other W172 (Or.inl ne1)
        have f176 := f116.wr W172
        have f177 := V172
        have f178 := f118.other W172 (Ne.symm ne3)
        have K179 : Keep h0 h172 [x0, nd, ky] := K119.wr W172 (Or.inl (List.mem_of_getElem? (i := 1) rfl))
        have Z179 : n0 ≤ h172.size := by rw [Wr.size W172]; exact Z119
        have N179 := Fr.snoc X172 N119 g_nd
        show Goes _ _ _ _ _ _ _ (T172.setTop (mkF m 152 _ []))
        refine Goes.step (fun _ k => XS.aloadN X172.here hx rfl (hb hby d5_152) rfl rfl k) ?_
        obtain ⟨T180, X180, e180, st180⟩ := getF X172 hx hZ hown (host := "") (Or.inl w_17) Via.refl e172 f175 (g := (mkF m 153 #[.val (.ref x0), .val (.int va0), .val (.int va4), .val (.double (FP.i2d vb4)), .second, .val (.int (1 : Int32)), .val (.int (3 : Int32))] [(.ref x0)])) rfl rfl (hb hby d5_153)
        refine Goes.step st180 ?_
        show Goes _ _ _ _ _ _ _ (T180.setTop (mkF m 156 _ [(.ref ky)]))
        refine Goes.step (fun _ k => XS.iload X180.here hx rfl (hb hby d5_156) rfl  k) ?_
        refine Goes.step (fun _ k => XS.dloadN X180.here hx rfl (hb hby d5_158) rfl k) ?_
        obtain ⟨cl181, Ar181, q181, S181, P181, H181, G181⟩ := id f178
        have hin181 : ¬ ((1 : Int32) < 0 ∨ cl181.slots.size ≤ ((1 : Int32)).toNatClampNeg) := inb_of S181 ⟨by decide, by decide⟩
        obtain ⟨T182, h182, X182, e182, W182, st182⟩ := stD X180 hx hZ e180 Ar181 (j := (1 : Int32)) hin181 (g := (mkF m 159 #[.val (.ref x0), .val (.int va0), .val (.int va4), .val (.double (FP.i2d vb4)), .second, .val (.int (1 : Int32)), .val (.int (3 : Int32))] [(.double (FP.i2d vb4)), (.int (1 : Int32)), (.ref ky)])) rfl rfl (hb hby d5_159)
        refine Goes.step st182 ?_
        have V182 := Arv.set Ar181 q181 S181 P181 H181 G181 rfl W182 1 rfl (Nat.le_of_ble_eq_true rfl)
        have f183 := f173.other W182 (Or.inl ne2)
        have f184 := f174.other W182 (Or.inl ne2)
        have f185 := f175.other W182 (Or.inl ne2)
        have f186 := f176.wr W182
        have f187 := f177.other W182 ne3
        have f188 := V182
        have K189 : Keep h0 h182 [x0, nd, ky] := K179.wr W182 (Or.inl (List.mem_of_getElem? (i := 2) rfl))
        have Z189 : n0 ≤ h182.size := by rw [Wr.size W182]; exact Z179
        have N189 := Fr.snoc X182 N179 g_ky
        show Goes _ _ _ _ _ _ _ (T182.setTop (mkF m 160 _ []))
        refine Goes.step (fun _ k => XS.iloadN X182.here hx rfl (hb hby d5_160) rfl  k) ?_
        have ph0 := own_nl c80_24
        have ph1 := own_l c95_95
        have ph2 := own_nl c95_124
        exact Goes.ret X182 hx (BodyLoose.notSynchronized Bd) Bd.returns rfl (Or.inl ⟨rfl, by simp, _, rfl⟩) (hb hby d5_161) (by show Q5_5 Z x0 nd ky kn kd va0 va1 va2 va3 va4 va5 vb0 vb1 vb2 vb3 vb4 vb5 h0 n0 (some (.int va0)) T182.heap _; rw [e182]; exact ⟨N189, K189, rfl, f183, f184, f185, va1, va4, va2, va3, va4, va5, vb1, vb4, vb2, vb3, vb4, vb5, f187, f188, (List.Perm.map (fun i => ([(va1, vb1), (va2, vb2), (va3, vb3), (va4, vb4)] : List (Int32 × Int32)).getD i (0, 0)) (by decide : ([0, 3, 1, 2] : List Nat).Perm [0, 1, 2, 3])), by omega, by omega, by omega, by omega⟩) (by decide) (by decide)
    · refine Goes.step (fun _ k => XS.ifNo X93.here hx rfl (hb hby d5_95) rfl ((if0 _ _).trans (flt (fun q => c95_95 ((own_dlt _ _ _).mp q))).1) k) ?_
      show Goes _ _ _ _ _ _ _ (T93.setTop (mkF m 98 _ []))
      refine Goes.step (fun _ k => XS.goto X93.here hx rfl (pc0 := 98) (pc' := 144) rfl (hb hby d5_98) (by decide) (by decide) k) ?_
      show Goes _ _ _ _ _ _ _ (T93.setTop (mkF m 144 _ []))
      refine Goes.step (fun _ k => XS.aloadN X93.here hx rfl (hb hby d5_144) rfl rfl k) ?_
      obtain ⟨T190, X190, e190, st190⟩ := getF X93 hx hZ hown (host := "") (Or.inl w_14) Via.refl e93 f6 (g := (mkF m 145 #[.val (.ref x0), .val (.int va0), .val (.int va4), .val (.double (FP.i2d vb4)), .second, .val (.int (0 : Int32)), .val (.int (1 : Int32))] [(.ref x0)])) rfl rfl (hb hby d5_145)
      refine Goes.step st190 ?_
      show Goes _ _ _ _ _ _ _ (T190.setTop (mkF m 148 _ [(.ref nd)]))
      refine Goes.step (fun _ k => XS.iload X190.here hx rfl (hb hby d5_148) rfl  k) ?_
      refine Goes.step (fun _ k => XS.iloadN X190.here hx rfl (hb hby d5_150) rfl  k) ?_
      obtain ⟨cl191, Ar191, q191, S191, P191, H191, G191⟩ := id f9
      have hin191 : ¬ ((0 : Int32) < 0 ∨ cl191.slots.size ≤ ((0 : Int32)).toNatClampNeg) := inb_of S191 ⟨by decide, by decide⟩
      obtain ⟨T192, h192, X192, e192, W192, st192⟩ := stI X190 hx hZ e190 Ar191 (j := (0 : Int32)) hin191 (g := (mkF m 151 #[.val (.ref x0), .val (.int va0), .val (.int va4), .val (.double (FP.i2d vb4)), .second, .val (.int (0 : Int32)), .val (.int (1 : Int32))] [(.int va4), (.int (0 : Int32)), (.ref nd)])) rfl rfl (hb hby d5_151)
      refine Goes.step st192 ?_
      have V192 := Arv.set Ar191 q191 S191 P191 H191 G191 rfl W192 0 rfl (Nat.le_of_ble_eq_true rfl)
      have f193 := f5.other W192 (Or.inl ne1)
      have f194 := f6.other W192 (Or.inl ne1)
      have f195 := f7.other W192 (Or.inl ne1)
      have f196 := f8.wr W192
      have f197 := V192
      have f198 := f10.other W192 (Ne.symm ne3)
      have K199 : Keep h0 h192 [x0, nd, ky] := K11.wr W192 (Or.inl (List.mem_of_getElem? (i := 1) rfl))
      have Z199 : n0 ≤ h192.size := by rw [Wr.size W192]; exact Z11
      have N199 := Fr.snoc X192 N11 g_nd
      show Goes _ _ _ _ _ _ _ (T192.setTop (mkF m 152 #[.val (.ref x0), .val (.int va0), .val (.int va4), .val (.double (FP.i2d vb4)), .second, .val (.int (0 : Int32)), .val (.int (1 : Int32))] []))
      refine Goes.step (fun _ k => XS.aloadN X192.here hx rfl (hb hby d5_152) rfl rfl k) ?_
      obtain ⟨T200, X200, e200, st200⟩ := getF X192 hx hZ hown (host := "") (Or.inl w_17) Via.refl e192 f195 (g := (mkF m 153 #[.val (.ref x0), .val (.int va0), .val (.int va4), .val (.double (FP.i2d vb4)), .second, .val (.int (0 : Int32)), .val (.int (1 : Int32))] [(.ref x0)])) rfl rfl (hb hby d5_153)
      refine Goes.step st200 ?_
      show Goes _ _ _ _ _ _ _ (T200.setTop (mkF m 156 _ [(.ref ky)]))
      refine Goes.step (fun _ k => XS.iload X200.here hx rfl (hb hby d5_156) rfl  k) ?_
      refine Goes.step (fun _ k => XS.dloadN X200.here hx rfl (hb hby d5_158) rfl k) ?_
      obtain ⟨cl201, Ar201, q201, S201, P201, H201, G201⟩ := id f198
      have hin201 : ¬ ((0 : Int32) < 0 ∨ cl201.slots.size ≤ ((0 : Int32)).toNatClampNeg) := inb_of S201 ⟨by decide, by decide⟩
      obtain ⟨T202, h202, X202, e202, W202, st202⟩ := stD X200 hx hZ e200 Ar201 (j := (0 : Int32)) hin201 (g := (mkF m 159 #[.val (.ref x0), .val (.int va0), .val (.int va4), .val (.double (FP.i2d vb4)), .second, .val (.int (0 : Int32)), .val (.int (1 : Int32))] [(.double (FP.i2d vb4)), (.int (0 : Int32)), (.ref ky)])) rfl rfl (hb hby d5_159)
      refine Goes.step st202 ?_
      have V202 := Arv.set Ar201 q201 S201 P201 H201 G201 rfl W202 0 rfl (Nat.le_of_ble_eq_true rfl)
      have f203 := f193.other W202 (Or.inl ne2)
      have f204 := f194.other W202 (Or.inl ne2)
      have f205 := f195.other W202 (Or.inl ne2)
      have f206 := f196.wr W202
      have f207 := f197.other W202 ne3
      have f208 := V202
      have K209 : Keep h0 h202 [x0, nd, ky] := K199.wr W202 (Or.inl (List.mem_of_getElem? (i := 2) rfl))
      have Z209 : n0 ≤ h202.size := by rw [Wr.size W202]; exact Z199
      have N209 := Fr.snoc X202 N199 g_ky
      show Goes _ _ _ _ _ _ _ (T202.setTop (mkF m 160 _ []))
      refine Goes.step (fun _ k => XS.iloadN X202.here hx rfl (hb hby d5_160) rfl  k) ?_
      have ph0 := own_nl c80_24
      have ph1 := own_nl c95_95
      exact Goes.ret X202 hx (BodyLoose.notSynchronized Bd) Bd.returns rfl (Or.inl ⟨rfl, by simp, _, rfl⟩) (hb hby d5_161) (by show Q5_5 Z x0 nd ky kn kd va0 va1 va2 va3 va4 va5 vb0 vb1 vb2 vb3 vb4 vb5 h0 n0 (some (.int va0)) T202.heap _; rw [e202]; exact ⟨N209, K209, rfl, f203, f204, f205, va4, va1, va2, va3, va4, va5, vb4, vb1, vb2, vb3, vb4, vb5, f207, f208, (List.Perm.map (fun i => ([(va1, vb1), (va2, vb2), (va3, vb3), (va4, vb4)] : List (Int32 × Int32)).getD i (0, 0)) (by decide : ([3, 0, 1, 2] : List Nat).Perm [0, 1, 2, 3])), by omega, by omega, by omega, by omega⟩) (by decide) (by decide)
theorem ef_5_4 (m : MethodId) (x0 : Addr) (nd : Addr) (ky : Addr) (kn : ClassId) (kd : ClassId) (va0 : Int32) (va1 : Int32) (va2 : Int32) (va3 : Int32) (va4 : Int32) (va5 : Int32) (vb0 : Int32) (vb1 : Int32) (vb2 : Int32) (vb3 : Int32) (vb4 : Int32) (vb5 : Int32)  : entryFrame m #[(.ref x0)] 7 = mkF m 0 #[.val (.ref x0), .unset, .unset, .unset, .unset, .unset, .unset] [] := by first | (simp [entryFrame, mkF, argsToLocals, Value.category]; done) | rfl
def Q5_4 (Z : State) (x0 : Addr) (nd : Addr) (ky : Addr) (kn : ClassId) (kd : ClassId) (va0 : Int32) (va1 : Int32) (va2 : Int32) (va3 : Int32) (va4 : Int32) (va5 : Int32) (vb0 : Int32) (vb1 : Int32) (vb2 : Int32) (vb3 : Int32) (vb4 : Int32) (vb5 : Int32) (h0 : Heap) (n0 : Nat) (v : Option Value) (h : Heap) (L : List Loc) : Prop := Fr n0 L ∧ Keep h0 h [x0, nd, ky] ∧ v = some (.int va0) ∧ Fld Z h x0 "com/example/hailwise/hailwise/NodeQueue" "size" "I" (.int (3 : Int32)) ∧ Fld Z h x0 "com/example/hailwise/hailwise/NodeQueue" "nodes" "[I" (.ref nd) ∧ Fld Z h x0 "com/example/hailwise/hailwise/NodeQueue" "keys" "[D" (.ref ky) ∧ ∃ p0 p1 p2 p3 p4 p5 q0 q1 q2 q3 q4 q5 : Int32, Arv Z h nd kn .int (64 : Int32) [(.int p0), (.int p1), (.int p2), (.int p3), (.int p4), (.int p5)] (.int (0 : Int32)) ∧ Arv Z h ky kd .double (64 : Int32) [(.double (FP.i2d q0)), (.double (FP.i2d q1)), (.double (FP.i2d q2)), (.double (FP.i2d q3)), (.double (FP.i2d q4)), (.double (FP.i2d q5))] (.double (0 : UInt64)) ∧ ([(p0, q0), (p1, q1), (p2, q2)] : List (Int32 × Int32)).Perm ([(va1, vb1), (va2, vb2), (va3, vb3)] : List (Int32 × Int32)) ∧ q0.toInt ≤ q1.toInt ∧ q0.toInt ≤ q2.toInt ∧ vb0.toInt ≤ q0.toInt
set_option maxRecDepth 65536 in
set_option maxHeartbeats 40000000 in
theorem rm5_4 (l : Launch) (Z : State) (a0 : Array Value) (hw : ∀ d ∈ tables_1, d.before a0 Z = true) (ws : List Jvm.Cond) (x0 : Addr) (nd : Addr) (ky : Addr) (kn : ClassId) (kd : ClassId) (va0 : Int32) (va1 : Int32) (va2 : Int32) (va3 : Int32) (va4 : Int32) (va5 : Int32) (vb0 : Int32) (vb1 : Int32) (vb2 : Int32) (vb3 : Int32) (vb4 : Int32) (vb5 : Int32) (h0 : Heap) (n0 : Nat) (Z0 : n0 ≤ h0.size) (F_size : Fld Z h0 x0 "com/example/hailwise/hailwise/NodeQueue" "size" "I" (.int (4 : Int32))) (F_nd : Fld Z h0 x0 "com/example/hailwise/hailwise/NodeQueue" "nodes" "[I" (.ref nd)) (F_ky : Fld Z h0 x0 "com/example/hailwise/hailwise/NodeQueue" "keys" "[D" (.ref ky)) (E_x0 : Exa Z h0 x0 "com/example/hailwise/hailwise/NodeQueue") (V_nd : Arv Z h0 nd kn .int (64 : Int32) [(.int va0), (.int va1), (.int va2), (.int va3), (.int va4), (.int va5)] (.int (0 : Int32))) (V_ky : Arv Z h0 ky kd .double (64 : Int32) [(.double (FP.i2d vb0)), (.double (FP.i2d vb1)), (.double (FP.i2d vb2)), (.double (FP.i2d vb3)), (.double (FP.i2d vb4)), (.double (FP.i2d vb5))] (.double (0 : UInt64))) (g_x0 : n0 ≤ x0) (g_nd : n0 ≤ nd) (g_ky : n0 ≤ ky) (ne1 : x0 ≠ nd) (ne2 : x0 ≠ ky) (ne3 : nd ≠ ky) (ho01 : vb0.toInt ≤ vb1.toInt) (ho02 : vb0.toInt ≤ vb2.toInt) (ho13 : vb1.toInt ≤ vb3.toInt) :
    MetFree l (⟨"com/example/hailwise/hailwise/NodeQueue", "poll", "()I"⟩ : MethodName) (head1 (Jvm.Cond.code (⟨"com/example/hailwise/hailwise/NodeQueue", "poll", "()I"⟩ : MethodName) prog_21_method_6_code 7 (some .int) :: ws) ({ frames := 0, cells := 0, slots := 0, locals := 0 } : Room)) (fun a U => a = #[(.ref x0)] ∧ Z.Warmed39 U.vm ∧ U.heap = h0) (fun _ _ _ _ _ => True) (fun _ U o U' => ∃ v L, o = .returned v ∧ Q5_4 Z x0 nd ky kn kd va0 va1 va2 va3 va4 va5 vb0 vb1 vb2 vb3 vb4 vb5 h0 n0 v U'.heap L ∧ FrameEnd U o U' L ({ frames := 0, cells := 0, slots := 0, locals := 0 } : Room).cells ({ frames := 0, cells := 0, slots := 0, locals := 0 } : Room).slots) := by
  refine MetFree.of_bodySF (plainFor_of_name pn_5) hisR ?_
  intro p e s m args below meth c s₁ Bd hml0 hP hK
  obtain ⟨rfl, hZ, hh⟩ := hP
  have w_6 := hw _ (List.mem_of_getElem? (i := 6) rfl)
  have w_14 := hw _ (List.mem_of_getElem? (i := 14) rfl)
  have w_15 := hw _ (List.mem_of_getElem? (i := 15) rfl)
  have w_17 := hw _ (List.mem_of_getElem? (i := 17) rfl)
  have w_18 := hw _ (List.mem_of_getElem? (i := 18) rfl)
  have w_24 := hw _ (List.mem_of_getElem? (i := 24) rfl)
  have w_25 := hw _ (List.mem_of_getElem? (i := 25) rfl)
  have hx := Bd.exec
  have hby := Bd.bytes
  have hml : c.maxLocals = 7 := hml0
  have hown : s.vm.findClass "com/example/hailwise/hailwise/NodeQueue" = some m.cls := findClass_of_methodNamed Bd.named
  have hnm := (name_of_methodNamed Bd.named Bd.method).1
  have X0 : Stand p l e ({ frames := 0, cells := 0, slots := 0, locals := 0 } : Room) s m #[(.ref x0)] below meth c s₁ [] 0 0 := Stand.of_body Bd
  have e0 : s₁.heap = h0 := by rw [← hh, Bd.state]; rfl
  have N0 := Fr.nil n0
  have K0 : Keep h0 h0 [x0, nd, ky] := Keep.refl h0 _
  refine (?_ : Goes p e below s ({ frames := 0, cells := 0, slots := 0, locals := 0 } : Room).cells ({ frames := 0, cells := 0, slots := 0, locals := 0 } : Room).slots (fun v h L => Q5_4 Z x0 nd ky kn kd va0 va1 va2 va3 va4 va5 vb0 vb1 vb2 vb3 vb4 vb5 h0 n0 v h L) (s₁.setTop (entryFrame m #[(.ref x0)] 7)))
  rw [ef_5_4 m x0 nd ky kn kd va0 va1 va2 va3 va4 va5 vb0 vb1 vb2 vb3 vb4 vb5 ]
  show Goes _ _ _ _ _ _ _ (s₁.setTop (mkF m 0 #[.val (.ref x0), .unset, .unset, .unset, .unset, .unset, .unset] []))
  refine Goes.step (fun _ k => XS.aloadN X0.here hx rfl (hb hby d5_0) rfl rfl k) ?_
  obtain ⟨T1, X1, e1, st1⟩ := getF X0 hx hZ hown (host := "") (Or.inl w_14) Via.refl e0 F_nd (g := (mkF m 1 #[.val (.ref x0), .unset, .unset, .unset, .unset, .unset, .unset] [(.ref x0)])) rfl rfl (hb hby d5_1)
  refine Goes.step st1 ?_
  show Goes _ _ _ _ _ _ _ (T1.setTop (mkF m 4 _ [(.ref nd)]))
  refine Goes.step (fun _ k => XS.iconst X1.here hx rfl (hb hby d5_4) k) ?_
  obtain ⟨cl2, Ar2, q2, S2, P2, H2, G2⟩ := id V_nd
  have hin2 : ¬ ((0 : Int32) < 0 ∨ cl2.slots.size ≤ ((0 : Int32)).toNatClampNeg) := inb_of S2 ⟨by decide, by decide⟩
  have hat2 : cl2.slots[((0 : Int32)).toNatClampNeg]? = some (.int va0) := H2 _ (by rw [S2]; decide)
  refine Goes.step (fun _ k => X1.iaload hx (j := (0 : Int32)) (v := (.int va0)) (by rw [e1]; exact Ar2.1) (State.isArrayOf_alike hZ.alike Ar2.2.1) Ar2.2.2 hin2 hat2 (g := (mkF m 5 #[.val (.ref x0), .unset, .unset, .unset, .unset, .unset, .unset] [(.int (0 : Int32)), (.ref nd)])) rfl rfl (hb hby d5_5) _ k) ?_
  show Goes _ _ _ _ _ _ _ (T1.setTop (mkF m 6 _ [(.int va0)]))
  refine Goes.step (fun _ k => XS.istoreN X1.here hx rfl (hb hby d5_6) rfl (l' := #[.val (.ref x0), .val (.int va0), .unset, .unset, .unset, .unset, .unset]) rfl k) ?_
  show Goes _ _ _ _ _ _ _ (T1.setTop (mkF m 7 _ []))
  refine Goes.step (fun _ k => XS.aloadN X1.here hx rfl (hb hby d5_7) rfl rfl k) ?_
  refine Goes.step (fun _ k => XS.dup X1.here hx rfl (hb hby d5_8) rfl rfl k) ?_
  obtain ⟨T3, X3, e3, st3⟩ := getF X1 hx hZ hown (host := "") (Or.inl w_24) Via.refl e1 F_size (g := (mkF m 9 #[.val (.ref x0), .val (.int va0), .unset, .unset, .unset, .unset, .unset] [(.ref x0), (.ref x0)])) rfl rfl (hb hby d5_9)
  refine Goes.step st3 ?_
  show Goes _ _ _ _ _ _ _ (T3.setTop (mkF m 12 _ [(.int (4 : Int32)), (.ref x0)]))
  refine Goes.step (fun _ k => XS.iconst X3.here hx rfl (hb hby d5_12) k) ?_
  refine Goes.step (fun _ k => XS.isub X3.here hx rfl (hb hby d5_13) rfl k) ?_
  show Goes _ _ _ _ _ _ _ (T3.setTop (mkF m 14 _ [(.int (3 : Int32)), (.ref x0)]))
  obtain ⟨T4, h4, X4, e4, W4, st4⟩ := putF X3 hx hZ hown (host := "") (Or.inl w_24) Via.refl e3 F_size E_x0 (Or.inl w_25) w_6 (ty := .int) (by decide) rfl rfl (g := (mkF m 14 #[.val (.ref x0), .val (.int va0), .unset, .unset, .unset, .unset, .unset] [(.int (3 : Int32)), (.ref x0)])) rfl rfl (hb hby d5_14)
  refine Goes.step st4 ?_
  have f5 := F_size.same W4
  have f6 := F_nd.other W4 (Or.inr (slot_ne (Or.inl w_15) (Or.inl w_25) (by decide) (t := (.array .int)) (t' := .int) (by decide) (by decide)))
  have f7 := F_ky.other W4 (Or.inr (slot_ne (Or.inl w_18) (Or.inl w_25) (by decide) (t := (.array .double)) (t' := .int) (by decide) (by decide)))
  have f8 := E_x0.wr W4
  have f9 := V_nd.other W4 (Ne.symm ne1)
  have f10 := V_ky.other W4 (Ne.symm ne2)
  have K11 : Keep h0 h4 [x0, nd, ky] := K0.wr W4 (Or.inl (List.mem_of_getElem? (i := 0) rfl))
  have Z11 : n0 ≤ h4.size := by rw [Wr.size W4]; exact Z0
  have N11 := Fr.snoc X4 N0 g_x0
  show Goes _ _ _ _ _ _ _ (T4.setTop (mkF m 17 _ []))
  refine Goes.step (fun _ k => XS.aloadN X4.here hx rfl (hb hby d5_17) rfl rfl k) ?_
  obtain ⟨T12, X12, e12, st12⟩ := getF X4 hx hZ hown (host := "") (Or.inl w_14) Via.refl e4 f6 (g := (mkF m 18 #[.val (.ref x0), .val (.int va0), .unset, .unset, .unset, .unset, .unset] [(.ref x0)])) rfl rfl (hb hby d5_18)
  refine Goes.step st12 ?_
  show Goes _ _ _ _ _ _ _ (T12.setTop (mkF m 21 #[.val (.ref x0), .val (.int va0), .unset, .unset, .unset, .unset, .unset] [(.ref nd)]))
  refine Goes.step (fun _ k => XS.aloadN X12.here hx rfl (hb hby d5_21) rfl rfl k) ?_
  obtain ⟨T13, X13, e13, st13⟩ := getF X12 hx hZ hown (host := "") (Or.inl w_24) Via.refl e12 f5 (g := (mkF m 22 #[.val (.ref x0), .val (.int va0), .unset, .unset, .unset, .unset, .unset] [(.ref x0), (.ref nd)])) rfl rfl (hb hby d5_22)
  refine Goes.step st13 ?_
  show Goes _ _ _ _ _ _ _ (T13.setTop (mkF m 25 _ [(.int (3 : Int32)), (.ref nd)]))
  obtain ⟨cl14, Ar14, q14, S14, P14, H14, G14⟩ := id f9
  have hin14 : ¬ ((3 : Int32) < 0 ∨ cl14.slots.size ≤ ((3 : Int32)).toNatClampNeg) := inb_of S14 ⟨by decide, by decide⟩
  have hat14 : cl14.slots[((3 : Int32)).toNatClampNeg]? = some (.int va3) := H14 _ (by rw [S14]; decide)
  refine Goes.step (fun _ k => X13.iaload hx (j := (3 : Int32)) (v := (.int va3)) (by rw [e13]; exact Ar14.1) (State.isArrayOf_alike hZ.alike Ar14.2.1) Ar14.2.2 hin14 hat14 (g := (mkF m 25 #[.val (.ref x0), .val (.int va0), .unset, .unset, .unset, .unset, .unset] [(.int (3 : Int32)), (.ref nd)])) rfl rfl (hb hby d5_25) _ k) ?_
  show Goes _ _ _ _ _ _ _ (T13.setTop (mkF m 26 _ [(.int va3)]))
  refine Goes.step (fun _ k => XS.istoreN X13.here hx rfl (hb hby d5_26) rfl (l' := #[.val (.ref x0), .val (.int va0), .val (.int va3), .unset, .unset, .unset, .unset]) rfl k) ?_
  show Goes _ _ _ _ _ _ _ (T13.setTop (mkF m 27 _ []))
  refine Goes.step (fun _ k => XS.aloadN X13.here hx rfl (hb hby d5_27) rfl rfl k) ?_
  obtain ⟨T15, X15, e15, st15⟩ := getF X13 hx hZ hown (host := "") (Or.inl w_17) Via.refl e13 f7 (g := (mkF m 28 #[.val (.ref x0), .val (.int va0), .val (.int va3), .unset, .unset, .unset, .unset] [(.ref x0)])) rfl rfl (hb hby d5_28)
  refine Goes.step st15 ?_
  show Goes _ _ _ _ _ _ _ (T15.setTop (mkF m 31 _ [(.ref ky)]))
  refine Goes.step (fun _ k => XS.aloadN X15.here hx rfl (hb hby d5_31) rfl rfl k) ?_
  obtain ⟨T16, X16, e16, st16⟩ := getF X15 hx hZ hown (host := "") (Or.inl w_24) Via.refl e15 f5 (g := (mkF m 32 #[.val (.ref x0), .val (.int va0), .val (.int va3), .unset, .unset, .unset, .unset] [(.ref x0), (.ref ky)])) rfl rfl (hb hby d5_32)
  refine Goes.step st16 ?_
  show Goes _ _ _ _ _ _ _ (T16.setTop (mkF m 35 _ [(.int (3 : Int32)), (.ref ky)]))
  obtain ⟨cl17, Ar17, q17, S17, P17, H17, G17⟩ := id f10
  have hin17 : ¬ ((3 : Int32) < 0 ∨ cl17.slots.size ≤ ((3 : Int32)).toNatClampNeg) := inb_of S17 ⟨by decide, by decide⟩
  have hat17 : cl17.slots[((3 : Int32)).toNatClampNeg]? = some (.double (FP.i2d vb3)) := H17 _ (by rw [S17]; decide)
  refine Goes.step (fun _ k => X16.daload hx (j := (3 : Int32)) (v := (.double (FP.i2d vb3))) (by rw [e16]; exact Ar17.1) (State.isArrayOf_alike hZ.alike Ar17.2.1) Ar17.2.2 hin17 hat17 (g := (mkF m 35 #[.val (.ref x0), .val (.int va0), .val (.int va3), .unset, .unset, .unset, .unset] [(.int (3 : Int32)), (.ref ky)])) rfl rfl (hb hby d5_35) _ k) ?_
  show Goes _ _ _ _ _ _ _ (T16.setTop (mkF m 36 _ [(.double (FP.i2d vb3))]))
  refine Goes.step (fun _ k => XS.dstoreN X16.here hx rfl (hb hby d5_36) rfl (l' := #[.val (.ref x0), .val (.int va0), .val (.int va3), .val (.double (FP.i2d vb3)), .second, .unset, .unset]) rfl k) ?_
  show Goes _ _ _ _ _ _ _ (T16.setTop (mkF m 37 #[.val (.ref x0), .val (.int va0), .val (.int va3), .val (.double (FP.i2d vb3)), .second, .unset, .unset] []))
  refine Goes.step (fun _ k => XS.iconst X16.here hx rfl (hb hby d5_37) k) ?_
  refine Goes.step (fun _ k => XS.istore X16.here hx rfl (hb hby d5_38) rfl (l' := #[.val (.ref x0), .val (.int va0), .val (.int va3), .val (.double (FP.i2d vb3)), .second, .val (.int (0 : Int32)), .unset]) rfl k) ?_
  show Goes _ _ _ _ _ _ _ (T16.setTop (mkF m 40 _ []))
  refine Goes.step (fun _ k => XS.iconst X16.here hx rfl (hb hby d5_40) k) ?_
  refine Goes.step (fun _ k => XS.istore X16.here hx rfl (hb hby d5_41) rfl (l' := #[.val (.ref x0), .val (.int va0), .val (.int va3), .val (.double (FP.i2d vb3)), .second, .val (.int (0 : Int32)), .val (.int (1 : Int32))]) rfl k) ?_
  show Goes _ _ _ _ _ _ _ (T16.setTop (mkF m 43 _ []))
  refine Goes.step (fun _ k => XS.iload X16.here hx rfl (hb hby d5_43) rfl  k) ?_
  refine Goes.step (fun _ k => XS.aloadN X16.here hx rfl (hb hby d5_45) rfl rfl k) ?_
  obtain ⟨T18, X18, e18, st18⟩ := getF X16 hx hZ hown (host := "") (Or.inl w_24) Via.refl e16 f5 (g := (mkF m 46 #[.val (.ref x0), .val (.int va0), .val (.int va3), .val (.double (FP.i2d vb3)), .second, .val (.int (0 : Int32)), .val (.int (1 : Int32))] [(.ref x0), (.int (1 : Int32))])) rfl rfl (hb hby d5_46)
  refine Goes.step st18 ?_
  show Goes _ _ _ _ _ _ _ (T18.setTop (mkF m 49 _ [(.int (3 : Int32)), (.int (1 : Int32))]))
  refine Goes.step (fun _ k => XS.icmpNo X18.here hx rfl (hb hby d5_49) rfl (tlt (by decide : (1 : Int32) < (3 : Int32))).2.1 k) ?_
  show Goes _ _ _ _ _ _ _ (T18.setTop (mkF m 52 _ []))
  refine Goes.step (fun _ k => XS.iload X18.here hx rfl (hb hby d5_52) rfl  k) ?_
  refine Goes.step (fun _ k => XS.iconst X18.here hx rfl (hb hby d5_54) k) ?_
  refine Goes.step (fun _ k => XS.iadd X18.here hx rfl (hb hby d5_55) rfl k) ?_
  show Goes _ _ _ _ _ _ _ (T18.setTop (mkF m 56 _ [(.int (2 : Int32))]))
  refine Goes.step (fun _ k => XS.aloadN X18.here hx rfl (hb hby d5_56) rfl rfl k) ?_
  obtain ⟨T19, X19, e19, st19⟩ := getF X18 hx hZ hown (host := "") (Or.inl w_24) Via.refl e18 f5 (g := (mkF m 57 #[.val (.ref x0), .val (.int va0), .val (.int va3), .val (.double (FP.i2d vb3)), .second, .val (.int (0 : Int32)), .val (.int (1 : Int32))] [(.ref x0), (.int (2 : Int32))])) rfl rfl (hb hby d5_57)
  refine Goes.step st19 ?_
  show Goes _ _ _ _ _ _ _ (T19.setTop (mkF m 60 _ [(.int (3 : Int32)), (.int (2 : Int32))]))
  refine Goes.step (fun _ k => XS.icmpNo X19.here hx rfl (hb hby d5_60) rfl (tlt (by decide : (2 : Int32) < (3 : Int32))).2.1 k) ?_
  show Goes _ _ _ _ _ _ _ (T19.setTop (mkF m 63 #[.val (.ref x0), .val (.int va0), .val (.int va3), .val (.double (FP.i2d vb3)), .second, .val (.int (0 : Int32)), .val (.int (1 : Int32))] []))
  refine Goes.step (fun _ k => XS.aloadN X19.here hx rfl (hb hby d5_63) rfl rfl k) ?_
  obtain ⟨T20, X20, e20, st20⟩ := getF X19 hx hZ hown (host := "") (Or.inl w_17) Via.refl e19 f7 (g := (mkF m 64 #[.val (.ref x0), .val (.int va0), .val (.int va3), .val (.double (FP.i2d vb3)), .second, .val (.int (0 : Int32)), .val (.int (1 : Int32))] [(.ref x0)])) rfl rfl (hb hby d5_64)
  refine Goes.step st20 ?_
  show Goes _ _ _ _ _ _ _ (T20.setTop (mkF m 67 _ [(.ref ky)]))
  refine Goes.step (fun _ k => XS.iload X20.here hx rfl (hb hby d5_67) rfl  k) ?_
  refine Goes.step (fun _ k => XS.iconst X20.here hx rfl (hb hby d5_69) k) ?_
  refine Goes.step (fun _ k => XS.iadd X20.here hx rfl (hb hby d5_70) rfl k) ?_
  show Goes _ _ _ _ _ _ _ (T20.setTop (mkF m 71 _ [(.int (2 : Int32)), (.ref ky)]))
  obtain ⟨cl21, Ar21, q21, S21, P21, H21, G21⟩ := id f10
  have hin21 : ¬ ((2 : Int32) < 0 ∨ cl21.slots.size ≤ ((2 : Int32)).toNatClampNeg) := inb_of S21 ⟨by decide, by decide⟩
  have hat21 : cl21.slots[((2 : Int32)).toNatClampNeg]? = some (.double (FP.i2d vb2)) := H21 _ (by rw [S21]; decide)
  refine Goes.step (fun _ k => X20.daload hx (j := (2 : Int32)) (v := (.double (FP.i2d vb2))) (by rw [e20]; exact Ar21.1) (State.isArrayOf_alike hZ.alike Ar21.2.1) Ar21.2.2 hin21 hat21 (g := (mkF m 71 #[.val (.ref x0), .val (.int va0), .val (.int va3), .val (.double (FP.i2d vb3)), .second, .val (.int (0 : Int32)), .val (.int (1 : Int32))] [(.int (2 : Int32)), (.ref ky)])) rfl rfl (hb hby d5_71) _ k) ?_
  show Goes _ _ _ _ _ _ _ (T20.setTop (mkF m 72 _ [(.double (FP.i2d vb2))]))
  refine Goes.step (fun _ k => XS.aloadN X20.here hx rfl (hb hby d5_72) rfl rfl k) ?_
  obtain ⟨T22, X22, e22, st22⟩ := getF X20 hx hZ hown (host := "") (Or.inl w_17) Via.refl e20 f7 (g := (mkF m 73 #[.val (.ref x0), .val (.int va0), .val (.int va3), .val (.double (FP.i2d vb3)), .second, .val (.int (0 : Int32)), .val (.int (1 : Int32))] [(.ref x0), (.double (FP.i2d vb2))])) rfl rfl (hb hby d5_73)
  refine Goes.step st22 ?_
  show Goes _ _ _ _ _ _ _ (T22.setTop (mkF m 76 _ [(.ref ky), (.double (FP.i2d vb2))]))
  refine Goes.step (fun _ k => XS.iload X22.here hx rfl (hb hby d5_76) rfl  k) ?_
  obtain ⟨cl23, Ar23, q23, S23, P23, H23, G23⟩ := id f10
  have hin23 : ¬ ((1 : Int32) < 0 ∨ cl23.slots.size ≤ ((1 : Int32)).toNatClampNeg) := inb_of S23 ⟨by decide, by decide⟩
  have hat23 : cl23.slots[((1 : Int32)).toNatClampNeg]? = some (.double (FP.i2d vb1)) := H23 _ (by rw [S23]; decide)
  refine Goes.step (fun _ k => X22.daload hx (j := (1 : Int32)) (v := (.double (FP.i2d vb1))) (by rw [e22]; exact Ar23.1) (State.isArrayOf_alike hZ.alike Ar23.2.1) Ar23.2.2 hin23 hat23 (g := (mkF m 78 #[.val (.ref x0), .val (.int va0), .val (.int va3), .val (.double (FP.i2d vb3)), .second, .val (.int (0 : Int32)), .val (.int (1 : Int32))] [(.int (1 : Int32)), (.ref ky), (.double (FP.i2d vb2))])) rfl rfl (hb hby d5_78) _ k) ?_
  show Goes _ _ _ _ _ _ _ (T22.setTop (mkF m 79 _ [(.double (FP.i2d vb1)), (.double (FP.i2d vb2))]))
  refine Goes.step (fun _ k => XS.dcmpS X22.here hx rfl (hb hby d5_79) rfl rfl k) ?_
  show Goes _ _ _ _ _ _ _ (T22.setTop (mkF m 80 _ [(.int (cmpValue (FP.dcmp (FP.i2d vb2) (FP.i2d vb1)) .g))]))
  by_cases c80_24 : vb2 < vb1
  · refine Goes.step (fun _ k => XS.ifNo X22.here hx rfl (hb hby d5_80) rfl ((if0 _ _).trans (tlt ((own_dlt _ _ _).mpr c80_24)).2.1) k) ?_
    show Goes _ _ _ _ _ _ _ (T22.setTop (mkF m 83 #[.val (.ref x0), .val (.int va0), .val (.int va3), .val (.double (FP.i2d vb3)), .second, .val (.int (0 : Int32)), .val (.int (1 : Int32))] []))
    refine Goes.step (fun _ k => XS.iinc X22.here hx rfl (hb hby d5_83) rfl (l' := #[.val (.ref x0), .val (.int va0), .val (.int va3), .val (.double (FP.i2d vb3)), .second, .val (.int (0 : Int32)), .val (.int (2 : Int32))]) rfl k) ?_
    show Goes _ _ _ _ _ _ _ (T22.setTop (mkF m 86 _ []))
    refine Goes.step (fun _ k => XS.aloadN X22.here hx rfl (hb hby d5_86) rfl rfl k) ?_
    obtain ⟨T25, X25, e25, st25⟩ := getF X22 hx hZ hown (host := "") (Or.inl w_17) Via.refl e22 f7 (g := (mkF m 87 #[.val (.ref x0), .val (.int va0), .val (.int va3), .val (.double (FP.i2d vb3)), .second, .val (.int (0 : Int32)), .val (.int (2 : Int32))] [(.ref x0)])) rfl rfl (hb hby d5_87)
    refine Goes.step st25 ?_
    show Goes _ _ _ _ _ _ _ (T25.setTop (mkF m 90 _ [(.ref ky)]))
    refine Goes.step (fun _ k => XS.iload X25.here hx rfl (hb hby d5_90) rfl  k) ?_
    obtain ⟨cl26, Ar26, q26, S26, P26, H26, G26⟩ := id f10
    have hin26 : ¬ ((2 : Int32) < 0 ∨ cl26.slots.size ≤ ((2 : Int32)).toNatClampNeg) := inb_of S26 ⟨by decide, by decide⟩
    have hat26 : cl26.slots[((2 : Int32)).toNatClampNeg]? = some (.double (FP.i2d vb2)) := H26 _ (by rw [S26]; decide)
    refine Goes.step (fun _ k => X25.daload hx (j := (2 : Int32)) (v := (.double (FP.i2d vb2))) (by rw [e25]; exact Ar26.1) (State.isArrayOf_alike hZ.alike Ar26.2.1) Ar26.2.2 hin26 hat26 (g := (mkF m 92 #[.val (.ref x0), .val (.int va0), .val (.int va3), .val (.double (FP.i2d vb3)), .second, .val (.int (0 : Int32)), .val (.int (2 : Int32))] [(.int (2 : Int32)), (.ref ky)])) rfl rfl (hb hby d5_92) _ k) ?_
    show Goes _ _ _ _ _ _ _ (T25.setTop (mkF m 93 _ [(.double (FP.i2d vb2))]))
    refine Goes.step (fun _ k => XS.dloadN X25.here hx rfl (hb hby d5_93) rfl k) ?_
    refine Goes.step (fun _ k => XS.dcmpS X25.here hx rfl (hb hby d5_94) rfl rfl k) ?_
    show Goes _ _ _ _ _ _ _ (T25.setTop (mkF m 95 _ [(.int (cmpValue (FP.dcmp (FP.i2d vb2) (FP.i2d vb3)) .l))]))
    by_cases c95_27 : vb2 < vb3
    · refine Goes.step (fun _ k => XS.ifYes X25.here hx rfl (pc0 := 95) (pc' := 101) rfl (hb hby d5_95) rfl ((if0 _ _).trans (tlt ((own_dlt _ _ _).mpr c95_27)).1) (by decide) (by decide) k) ?_
      show Goes _ _ _ _ _ _ _ (T25.setTop (mkF m 101 _ []))
      refine Goes.step (fun _ k => XS.aloadN X25.here hx rfl (hb hby d5_101) rfl rfl k) ?_
      obtain ⟨T28, X28, e28, st28⟩ := getF X25 hx hZ hown (host := "") (Or.inl w_14) Via.refl e25 f6 (g := (mkF m 102 #[.val (.ref x0), .val (.int va0), .val (.int va3), .val (.double (FP.i2d vb3)), .second, .val (.int (0 : Int32)), .val (.int (2 : Int32))] [(.ref x0)])) rfl rfl (hb hby d5_102)
      refine Goes.step st28 ?_
      show Goes _ _ _ _ _ _ _ (T28.setTop (mkF m 105 _ [(.ref nd)]))
      refine Goes.step (fun _ k => XS.iload X28.here hx rfl (hb hby d5_105) rfl  k) ?_
      refine Goes.step (fun _ k => XS.aloadN X28.here hx rfl (hb hby d5_107) rfl rfl k) ?_
      obtain ⟨T29, X29, e29, st29⟩ := getF X28 hx hZ hown (host := "") (Or.inl w_14) Via.refl e28 f6 (g := (mkF m 108 #[.val (.ref x0), .val (.int va0), .val (.int va3), .val (.double (FP.i2d vb3)), .second, .val (.int (0 : Int32)), .val (.int (2 : Int32))] [(.ref x0), (.int (0 : Int32)), (.ref nd)])) rfl rfl (hb hby d5_108)
      refine Goes.step st29 ?_
      show Goes _ _ _ _ _ _ _ (T29.setTop (mkF m 111 #[.val (.ref x0), .val (.int va0), .val (.int va3), .val (.double (FP.i2d vb3)), .second, .val (.int (0 : Int32)), .val (.int (2 : Int32))] [(.ref nd), (.int (0 : Int32)), (.ref nd)]))
      refine Goes.step (fun _ k => XS.iload X29.here hx rfl (hb hby d5_111) rfl  k) ?_
      obtain ⟨cl30, Ar30, q30, S30, P30, H30, G30⟩ := id f9
      have hin30 : ¬ ((2 : Int32) < 0 ∨ cl30.slots.size ≤ ((2 : Int32)).toNatClampNeg) := inb_of S30 ⟨by decide, by decide⟩
      have hat30 : cl30.slots[((2 : Int32)).toNatClampNeg]? = some (.int va2) := H30 _ (by rw [S30]; decide)
      refine Goes.step (fun _ k => X29.iaload hx (j := (2 : Int32)) (v := (.int va2)) (by rw [e29]; exact Ar30.1) (State.isArrayOf_alike hZ.alike Ar30.2.1) Ar30.2.2 hin30 hat30 (g := (mkF m 113 #[.val (.ref x0), .val (.int va0), .val (.int va3), .val (.double (FP.i2d vb3)), .second, .val (.int (0 : Int32)), .val (.int (2 : Int32))] [(.int (2 : Int32)), (.ref nd), (.int (0 : Int32)), (.ref nd)])) rfl rfl (hb hby d5_113) _ k) ?_
      show Goes _ _ _ _ _ _ _ (T29.setTop (mkF m 114 _ [(.int va2), (.int (0 : Int32)), (.ref nd)]))
      obtain ⟨cl31, Ar31, q31, S31, P31, H31, G31⟩ := id f9
      have hin31 : ¬ ((0 : Int32) < 0 ∨ cl31.slots.size ≤ ((0 : Int32)).toNatClampNeg) := inb_of S31 ⟨by decide, by decide⟩
      obtain ⟨T32, h32, X32, e32, W32, st32⟩ := stI X29 hx hZ e29 Ar31 (j := (0 : Int32)) hin31 (g := (mkF m 114 #[.val (.ref x0), .val (.int va0), .val (.int va3), .val (.double (FP.i2d vb3)), .second, .val (.int (0 : Int32)), .val (.int (2 : Int32))] [(.int va2), (.int (0 : Int32)), (.ref nd)])) rfl rfl (hb hby d5_114)
      refine Goes.step st32 ?_
      have V32 := Arv.set Ar31 q31 S31 P31 H31 G31 rfl W32 0 rfl (Nat.le_of_ble_eq_true rfl)
      have f33 := f5.other W32 (Or.inl ne1)
      have f34 := f6.other W32 (Or.inl ne1)
      have f35 := f7.other W32 (Or.inl ne1)
      have f36 := f8.wr W32
      have f37 := V32
      have f38 := f10.other W32 (Ne.symm ne3)
      have K39 : Keep h0 h32 [x0, nd, ky] := K11.wr W32 (Or.inl (List.mem_of_getElem? (i := 1) rfl))
      have Z39 : n0 ≤ h32.size := by rw [Wr.size W32]; exact Z11
      have N39 := Fr.snoc X32 N11 g_nd
      show Goes _ _ _ _ _ _ _ (T32.setTop (mkF m 115 _ []))
      refine Goes.step (fun _ k => XS.aloadN X32.here hx rfl (hb hby d5_115) rfl rfl k) ?_
      obtain ⟨T40, X40, e40, st40⟩ := getF X32 hx hZ hown (host := "") (Or.inl w_17) Via.refl e32 f35 (g := (mkF m 116 #[.val (.ref x0), .val (.int va0), .val (.int va3), .val (.double (FP.i2d vb3)), .second, .val (.int (0 : Int32)), .val (.int (2 : Int32))] [(.ref x0)])) rfl rfl (hb hby d5_116)
      refine Goes.step st40 ?_
      show Goes _ _ _ _ _ _ _ (T40.setTop (mkF m 119 _ [(.ref ky)]))
      refine Goes.step (fun _ k => XS.iload X40.here hx rfl (hb hby d5_119) rfl  k) ?_
      refine Goes.step (fun _ k => XS.aloadN X40.here hx rfl (hb hby d5_121) rfl rfl k) ?_
      obtain ⟨T41, X41, e41, st41⟩ := getF X40 hx hZ hown (host := "") (Or.inl w_17) Via.refl e40 f35 (g := (mkF m 122 #[.val (.ref x0), .val (.int va0), .val (.int va3), .val (.double (FP.i2d vb3)), .second, .val (.int (0 : Int32)), .val (.int (2 : Int32))] [(.ref x0), (.int (0 : Int32)), (.ref ky)])) rfl rfl (hb hby d5_122)
      refine Goes.step st41 ?_
      show Goes _ _ _ _ _ _ _ (T41.setTop (mkF m 125 _ [(.ref ky), (.int (0 : Int32)), (.ref ky)]))
      refine Goes.step (fun _ k => XS.iload X41.here hx rfl (hb hby d5_125) rfl  k) ?_
      obtain ⟨cl42, Ar42, q42, S42, P42, H42, G42⟩ := id f38
      have hin42 : ¬ ((2 : Int32) < 0 ∨ cl42.slots.size ≤ ((2 : Int32)).toNatClampNeg) := inb_of S42 ⟨by decide, by decide⟩
      have hat42 : cl42.slots[((2 : Int32)).toNatClampNeg]? = some (.double (FP.i2d vb2)) := H42 _ (by rw [S42]; decide)
      refine Goes.step (fun _ k => X41.daload hx (j := (2 : Int32)) (v := (.double (FP.i2d vb2))) (by rw [e41]; exact Ar42.1) (State.isArrayOf_alike hZ.alike Ar42.2.1) Ar42.2.2 hin42 hat42 (g := (mkF m 127 #[.val (.ref x0), .val (.int va0), .val (.int va3), .val (.double (FP.i2d vb3)), .second, .val (.int (0 : Int32)), .val (.int (2 : Int32))] [(.int (2 : Int32)), (.ref ky), (.int (0 : Int32)), (.ref ky)])) rfl rfl (hb hby d5_127) _ k) ?_
      show Goes _ _ _ _ _ _ _ (T41.setTop (mkF m 128 _ [(.double (FP.i2d vb2)), (.int (0 : Int32)), (.ref ky)]))
      obtain ⟨cl43, Ar43, q43, S43, P43, H43, G43⟩ := id f38
      have hin43 : ¬ ((0 : Int32) < 0 ∨ cl43.slots.size ≤ ((0 : Int32)).toNatClampNeg) := inb_of S43 ⟨by decide, by decide⟩
      obtain ⟨T44, h44, X44, e44, W44, st44⟩ := stD X41 hx hZ e41 Ar43 (j := (0 : Int32)) hin43 (g := (mkF m 128 #[.val (.ref x0), .val (.int va0), .val (.int va3), .val (.double (FP.i2d vb3)), .second, .val (.int (0 : Int32)), .val (.int (2 : Int32))] [(.double (FP.i2d vb2)), (.int (0 : Int32)), (.ref ky)])) rfl rfl (hb hby d5_128)
      refine Goes.step st44 ?_
      have V44 := Arv.set Ar43 q43 S43 P43 H43 G43 rfl W44 0 rfl (Nat.le_of_ble_eq_true rfl)
      have f45 := f33.other W44 (Or.inl ne2)
      have f46 := f34.other W44 (Or.inl ne2)
      have f47 := f35.other W44 (Or.inl ne2)
      have f48 := f36.wr W44
      have f49 := f37.other W44 ne3
      have f50 := V44
      have K51 : Keep h0 h44 [x0, nd, ky] := K39.wr W44 (Or.inl (List.mem_of_getElem? (i := 2) rfl))
      have Z51 : n0 ≤ h44.size := by rw [Wr.size W44]; exact Z39
      have N51 := Fr.snoc X44 N39 g_ky
      show Goes _ _ _ _ _ _ _ (T44.setTop (mkF m 129 _ []))
      refine Goes.step (fun _ k => XS.iload X44.here hx rfl (hb hby d5_129) rfl  k) ?_
      refine Goes.step (fun _ k => XS.istore X44.here hx rfl (hb hby d5_131) rfl (l' := #[.val (.ref x0), .val (.int va0), .val (.int va3), .val (.double (FP.i2d vb3)), .second, .val (.int (2 : Int32)), .val (.int (2 : Int32))]) rfl k) ?_
      show Goes _ _ _ _ _ _ _ (T44.setTop (mkF m 133 #[.val (.ref x0), .val (.int va0), .val (.int va3), .val (.double (FP.i2d vb3)), .second, .val (.int (2 : Int32)), .val (.int (2 : Int32))] []))
      refine Goes.step (fun _ k => XS.iconst X44.here hx rfl (hb hby d5_133) k) ?_
      refine Goes.step (fun _ k => XS.iload X44.here hx rfl (hb hby d5_134) rfl  k) ?_
      refine Goes.step (fun _ k => XS.imul X44.here hx rfl (hb hby d5_136) rfl k) ?_
      show Goes _ _ _ _ _ _ _ (T44.setTop (mkF m 137 _ [(.int (4 : Int32))]))
      refine Goes.step (fun _ k => XS.iconst X44.here hx rfl (hb hby d5_137) k) ?_
      refine Goes.step (fun _ k => XS.iadd X44.here hx rfl (hb hby d5_138) rfl k) ?_
      show Goes _ _ _ _ _ _ _ (T44.setTop (mkF m 139 _ [(.int (5 : Int32))]))
      refine Goes.step (fun _ k => XS.istore X44.here hx rfl (hb hby d5_139) rfl (l' := #[.val (.ref x0), .val (.int va0), .val (.int va3), .val (.double (FP.i2d vb3)), .second, .val (.int (2 : Int32)), .val (.int (5 : Int32))]) rfl k) ?_
      show Goes _ _ _ _ _ _ _ (T44.setTop (mkF m 141 _ []))
      refine Goes.step (fun _ k => XS.goto X44.here hx rfl (pc0 := 141) (pc' := 43) rfl (hb hby d5_141) (by decide) (by decide) k) ?_
      show Goes _ _ _ _ _ _ _ (T44.setTop (mkF m 43 _ []))
      refine Goes.step (fun _ k => XS.iload X44.here hx rfl (hb hby d5_43) rfl  k) ?_
      refine Goes.step (fun _ k => XS.aloadN X44.here hx rfl (hb hby d5_45) rfl rfl k) ?_
      obtain ⟨T52, X52, e52, st52⟩ := getF X44 hx hZ hown (host := "") (Or.inl w_24) Via.refl e44 f45 (g := (mkF m 46 #[.val (.ref x0), .val (.int va0), .val (.int va3), .val (.double (FP.i2d vb3)), .second, .val (.int (2 : Int32)), .val (.int (5 : Int32))] [(.ref x0), (.int (5 : Int32))])) rfl rfl (hb hby d5_46)
      refine Goes.step st52 ?_
      show Goes _ _ _ _ _ _ _ (T52.setTop (mkF m 49 _ [(.int (3 : Int32)), (.int (5 : Int32))]))
      refine Goes.step (fun _ k => XS.icmpYes X52.here hx rfl (pc0 := 49) (pc' := 144) rfl (hb hby d5_49) rfl (flt (by decide : ¬ ((5 : Int32) < (3 : Int32)))).2.1 (by decide) (by decide) k) ?_
      show Goes _ _ _ _ _ _ _ (T52.setTop (mkF m 144 _ []))
      refine Goes.step (fun _ k => XS.aloadN X52.here hx rfl (hb hby d5_144) rfl rfl k) ?_
      obtain ⟨T53, X53, e53, st53⟩ := getF X52 hx hZ hown (host := "") (Or.inl w_14) Via.refl e52 f46 (g := (mkF m 145 #[.val (.ref x0), .val (.int va0), .val (.int va3), .val (.double (FP.i2d vb3)), .second, .val (.int (2 : Int32)), .val (.int (5 : Int32))] [(.ref x0)])) rfl rfl (hb hby d5_145)
      refine Goes.step st53 ?_
      show Goes _ _ _ _ _ _ _ (T53.setTop (mkF m 148 #[.val (.ref x0), .val (.int va0), .val (.int va3), .val (.double (FP.i2d vb3)), .second, .val (.int (2 : Int32)), .val (.int (5 : Int32))] [(.ref nd)]))
      refine Goes.step (fun _ k => XS.iload X53.here hx rfl (hb hby d5_148) rfl  k) ?_
      refine Goes.step (fun _ k => XS.iloadN X53.here hx rfl (hb hby d5_150) rfl  k) ?_
      obtain ⟨cl54, Ar54, q54, S54, P54, H54, G54⟩ := id f49
      have hin54 : ¬ ((2 : Int32) < 0 ∨ cl54.slots.size ≤ ((2 : Int32)).toNatClampNeg) := inb_of S54 ⟨by decide, by decide⟩
      obtain ⟨T55, h55, X55, e55, W55, st55⟩ := stI X53 hx hZ e53 Ar54 (j := (2 : Int32)) hin54 (g := (mkF m 151 #[.val (.ref x0), .val (.int va0), .val (.int va3), .val (.double (FP.i2d vb3)), .second, .val (.int (2 : Int32)), .val (.int (5 : Int32))] [(.int va3), (.int (2 : Int32)), (.ref nd)])) rfl rfl (hb hby d5_151)
      refine Goes.step st55 ?_
      have V55 := Arv.set Ar54 q54 S54 P54 H54 G54 rfl W55 2 rfl (Nat.le_of_ble_eq_true rfl)
      have f56 := f45.other W55 (Or.inl ne1)
      have f57 := f46.other W55 (Or.inl ne1)
      have f58 := f47.other W55 (Or.inl ne1)
      have f59 := f48.wr W55
      have f60 := V55
      have f61 := f50.other W55 (Ne.symm ne3)
      have K62 : Keep h0 h55 [x0, nd, ky] := K51.wr W55 (Or.inl (List.mem_of_getElem? (i := 1) rfl))
      have Z62 : n0 ≤ h55.size := by rw [Wr.size W55]; exact Z51
      have N62 := Fr.snoc X55 N51 g_nd
      show Goes _ _ _ _ _ _ _ (T55.setTop (mkF m 152 _ []))
      refine Goes.step (fun _ k => XS.aloadN X55.here hx rfl (hb hby d5_152) rfl rfl k) ?_
      obtain ⟨T63, X63, e63, st63⟩ := getF X55 hx hZ hown (host := "") (Or.inl w_17) Via.refl e55 f58 (g := (mkF m 153 #[.val (.ref x0), .val (.int va0), .val (.int va3), .val (.double (FP.i2d vb3)), .second, .val (.int (2 : Int32)), .val (.int (5 : Int32))] [(.ref x0)])) rfl rfl (hb hby d5_153)
      refine Goes.step st63 ?_
      show Goes _ _ _ _ _ _ _ (T63.setTop (mkF m 156 _ [(.ref ky)]))
      refine Goes.step (fun _ k => XS.iload X63.here hx rfl (hb hby d5_156) rfl  k) ?_
      refine Goes.step (fun _ k => XS.dloadN X63.here hx rfl (hb hby d5_158) rfl k) ?_
      obtain ⟨cl64, Ar64, q64, S64, P64, H64, G64⟩ := id f61
      have hin64 : ¬ ((2 : Int32) < 0 ∨ cl64.slots.size ≤ ((2 : Int32)).toNatClampNeg) := inb_of S64 ⟨by decide, by decide⟩
      obtain ⟨T65, h65, X65, e65, W65, st65⟩ := stD X63 hx hZ e63 Ar64 (j := (2 : Int32)) hin64 (g := (mkF m 159 #[.val (.ref x0), .val (.int va0), .val (.int va3), .val (.double (FP.i2d vb3)), .second, .val (.int (2 : Int32)), .val (.int (5 : Int32))] [(.double (FP.i2d vb3)), (.int (2 : Int32)), (.ref ky)])) rfl rfl (hb hby d5_159)
      refine Goes.step st65 ?_
      have V65 := Arv.set Ar64 q64 S64 P64 H64 G64 rfl W65 2 rfl (Nat.le_of_ble_eq_true rfl)
      have f66 := f56.other W65 (Or.inl ne2)
      have f67 := f57.other W65 (Or.inl ne2)
      have f68 := f58.other W65 (Or.inl ne2)
      have f69 := f59.wr W65
      have f70 := f60.other W65 ne3
      have f71 := V65
      have K72 : Keep h0 h65 [x0, nd, ky] := K62.wr W65 (Or.inl (List.mem_of_getElem? (i := 2) rfl))
      have Z72 : n0 ≤ h65.size := by rw [Wr.size W65]; exact Z62
      have N72 := Fr.snoc X65 N62 g_ky
      show Goes _ _ _ _ _ _ _ (T65.setTop (mkF m 160 _ []))
      refine Goes.step (fun _ k => XS.iloadN X65.here hx rfl (hb hby d5_160) rfl  k) ?_
      have ph0 := own_l c80_24
      have ph1 := own_l c95_27
      exact Goes.ret X65 hx (BodyLoose.notSynchronized Bd) Bd.returns rfl (Or.inl ⟨rfl, by simp, _, rfl⟩) (hb hby d5_161) (by show Q5_4 Z x0 nd ky kn kd va0 va1 va2 va3 va4 va5 vb0 vb1 vb2 vb3 vb4 vb5 h0 n0 (some (.int va0)) T65.heap _; rw [e65]; exact ⟨N72, K72, rfl, f66, f67, f68, va2, va1, va3, va3, va4, va5, vb2, vb1, vb3, vb3, vb4, vb5, f70, f71, (List.Perm.map (fun i => ([(va1, vb1), (va2, vb2), (va3, vb3)] : List (Int32 × Int32)).getD i (0, 0)) (by decide : ([1, 0, 2] : List Nat).Perm [0, 1, 2])), by omega, by omega, by omega⟩) (by decide) (by decide)
    · refine Goes.step (fun _ k => XS.ifNo X25.here hx rfl (hb hby d5_95) rfl ((if0 _ _).trans (flt (fun q => c95_27 ((own_dlt _ _ _).mp q))).1) k) ?_
      show Goes _ _ _ _ _ _ _ (T25.setTop (mkF m 98 _ []))
      refine Goes.step (fun _ k => XS.goto X25.here hx rfl (pc0 := 98) (pc' := 144) rfl (hb hby d5_98) (by decide) (by decide) k) ?_
      show Goes _ _ _ _ _ _ _ (T25.setTop (mkF m 144 _ []))
      refine Goes.step (fun _ k => XS.aloadN X25.here hx rfl (hb hby d5_144) rfl rfl k) ?_
      obtain ⟨T73, X73, e73, st73⟩ := getF X25 hx hZ hown (host := "") (Or.inl w_14) Via.refl e25 f6 (g := (mkF m 145 #[.val (.ref x0), .val (.int va0), .val (.int va3), .val (.double (FP.i2d vb3)), .second, .val (.int (0 : Int32)), .val (.int (2 : Int32))] [(.ref x0)])) rfl rfl (hb hby d5_145)
      refine Goes.step st73 ?_
      show Goes _ _ _ _ _ _ _ (T73.setTop (mkF m 148 #[.val (.ref x0), .val (.int va0), .val (.int va3), .val (.double (FP.i2d vb3)), .second, .val (.int (0 : Int32)), .val (.int (2 : Int32))] [(.ref nd)]))
      refine Goes.step (fun _ k => XS.iload X73.here hx rfl (hb hby d5_148) rfl  k) ?_
      refine Goes.step (fun _ k => XS.iloadN X73.here hx rfl (hb hby d5_150) rfl  k) ?_
      obtain ⟨cl74, Ar74, q74, S74, P74, H74, G74⟩ := id f9
      have hin74 : ¬ ((0 : Int32) < 0 ∨ cl74.slots.size ≤ ((0 : Int32)).toNatClampNeg) := inb_of S74 ⟨by decide, by decide⟩
      obtain ⟨T75, h75, X75, e75, W75, st75⟩ := stI X73 hx hZ e73 Ar74 (j := (0 : Int32)) hin74 (g := (mkF m 151 #[.val (.ref x0), .val (.int va0), .val (.int va3), .val (.double (FP.i2d vb3)), .second, .val (.int (0 : Int32)), .val (.int (2 : Int32))] [(.int va3), (.int (0 : Int32)), (.ref nd)])) rfl rfl (hb hby d5_151)
      refine Goes.step st75 ?_
      have V75 := Arv.set Ar74 q74 S74 P74 H74 G74 rfl W75 0 rfl (Nat.le_of_ble_eq_true rfl)
      have f76 := f5.other W75 (Or.inl ne1)
      have f77 := f6.other W75 (Or.inl ne1)
      have f78 := f7.other W75 (Or.inl ne1)
      have f79 := f8.wr W75
      have f80 := V75
      have f81 := f10.other W75 (Ne.symm ne3)
      have K82 : Keep h0 h75 [x0, nd, ky] := K11.wr W75 (Or.inl (List.mem_of_getElem? (i := 1) rfl))
      have Z82 : n0 ≤ h75.size := by rw [Wr.size W75]; exact Z11
      have N82 := Fr.snoc X75 N11 g_nd
      show Goes _ _ _ _ _ _ _ (T75.setTop (mkF m 152 _ []))
      refine Goes.step (fun _ k => XS.aloadN X75.here hx rfl (hb hby d5_152) rfl rfl k) ?_
      obtain ⟨T83, X83, e83, st83⟩ := getF X75 hx hZ hown (host := "") (Or.inl w_17) Via.refl e75 f78 (g := (mkF m 153 #[.val (.ref x0), .val (.int va0), .val (.int va3), .val (.double (FP.i2d vb3)), .second, .val (.int (0 : Int32)), .val (.int (2 : Int32))] [(.ref x0)])) rfl rfl (hb hby d5_153)
      refine Goes.step st83 ?_
      show Goes _ _ _ _ _ _ _ (T83.setTop (mkF m 156 _ [(.ref ky)]))
      refine Goes.step (fun _ k => XS.iload X83.here hx rfl (hb hby d5_156) rfl  k) ?_
      refine Goes.step (fun _ k => XS.dloadN X83.here hx rfl (hb hby d5_158) rfl k) ?_
      obtain ⟨cl84, Ar84, q84, S84, P84, H84, G84⟩ := id f81
      have hin84 : ¬ ((0 : Int32) < 0 ∨ cl84.slots.size ≤ ((0 : Int32)).toNatClampNeg) := inb_of S84 ⟨by decide, by decide⟩
      obtain ⟨T85, h85, X85, e85, W85, st85⟩ := stD X83 hx hZ e83 Ar84 (j := (0 : Int32)) hin84 (g := (mkF m 159 #[.val (.ref x0), .val (.int va0), .val (.int va3), .val (.double (FP.i2d vb3)), .second, .val (.int (0 : Int32)), .val (.int (2 : Int32))] [(.double (FP.i2d vb3)), (.int (0 : Int32)), (.ref ky)])) rfl rfl (hb hby d5_159)
      refine Goes.step st85 ?_
      have V85 := Arv.set Ar84 q84 S84 P84 H84 G84 rfl W85 0 rfl (Nat.le_of_ble_eq_true rfl)
      have f86 := f76.other W85 (Or.inl ne2)
      have f87 := f77.other W85 (Or.inl ne2)
      have f88 := f78.other W85 (Or.inl ne2)
      have f89 := f79.wr W85
      have f90 := f80.other W85 ne3
      have f91 := V85
      have K92 : Keep h0 h85 [x0, nd, ky] := K82.wr W85 (Or.inl (List.mem_of_getElem? (i := 2) rfl))
      have Z92 : n0 ≤ h85.size := by rw [Wr.size W85]; exact Z82
      have N92 := Fr.snoc X85 N82 g_ky
      show Goes _ _ _ _ _ _ _ (T85.setTop (mkF m 160 _ []))
      refine Goes.step (fun _ k => XS.iloadN X85.here hx rfl (hb hby d5_160) rfl  k) ?_
      have ph0 := own_l c80_24
      have ph1 := own_nl c95_27
      exact Goes.ret X85 hx (BodyLoose.notSynchronized Bd) Bd.returns rfl (Or.inl ⟨rfl, by simp, _, rfl⟩) (hb hby d5_161) (by show Q5_4 Z x0 nd ky kn kd va0 va1 va2 va3 va4 va5 vb0 vb1 vb2 vb3 vb4 vb5 h0 n0 (some (.int va0)) T85.heap _; rw [e85]; exact ⟨N92, K92, rfl, f86, f87, f88, va3, va1, va2, va3, va4, va5, vb3, vb1, vb2, vb3, vb4, vb5, f90, f91, (List.Perm.map (fun i => ([(va1, vb1), (va2, vb2), (va3, vb3)] : List (Int32 × Int32)).getD i (0, 0)) (by decide : ([2, 0, 1] : List Nat).Perm [0, 1, 2])), by omega, by omega, by omega⟩) (by decide) (by decide)
  · refine Goes.step (fun _ k => XS.ifYes X22.here hx rfl (pc0 := 80) (pc' := 86) rfl (hb hby d5_80) rfl ((if0 _ _).trans (flt (fun q => c80_24 ((own_dlt _ _ _).mp q))).2.1) (by decide) (by decide) k) ?_
    show Goes _ _ _ _ _ _ _ (T22.setTop (mkF m 86 #[.val (.ref x0), .val (.int va0), .val (.int va3), .val (.double (FP.i2d vb3)), .second, .val (.int (0 : Int32)), .val (.int (1 : Int32))] []))
    refine Goes.step (fun _ k => XS.aloadN X22.here hx rfl (hb hby d5_86) rfl rfl k) ?_
    obtain ⟨T93, X93, e93, st93⟩ := getF X22 hx hZ hown (host := "") (Or.inl w_17) Via.refl e22 f7 (g := (mkF m 87 #[.val (.ref x0), .val (.int va0), .val (.int va3), .val (.double (FP.i2d vb3)), .second, .val (.int (0 : Int32)), .val (.int (1 : Int32))] [(.ref x0)])) rfl rfl (hb hby d5_87)
    refine Goes.step st93 ?_
    show Goes _ _ _ _ _ _ _ (T93.setTop (mkF m 90 _ [(.ref ky)]))
    refine Goes.step (fun _ k => XS.iload X93.here hx rfl (hb hby d5_90) rfl  k) ?_
    obtain ⟨cl94, Ar94, q94, S94, P94, H94, G94⟩ := id f10
    have hin94 : ¬ ((1 : Int32) < 0 ∨ cl94.slots.size ≤ ((1 : Int32)).toNatClampNeg) := inb_of S94 ⟨by decide, by decide⟩
    have hat94 : cl94.slots[((1 : Int32)).toNatClampNeg]? = some (.double (FP.i2d vb1)) := H94 _ (by rw [S94]; decide)
    refine Goes.step (fun _ k => X93.daload hx (j := (1 : Int32)) (v := (.double (FP.i2d vb1))) (by rw [e93]; exact Ar94.1) (State.isArrayOf_alike hZ.alike Ar94.2.1) Ar94.2.2 hin94 hat94 (g := (mkF m 92 #[.val (.ref x0), .val (.int va0), .val (.int va3), .val (.double (FP.i2d vb3)), .second, .val (.int (0 : Int32)), .val (.int (1 : Int32))] [(.int (1 : Int32)), (.ref ky)])) rfl rfl (hb hby d5_92) _ k) ?_
    show Goes _ _ _ _ _ _ _ (T93.setTop (mkF m 93 _ [(.double (FP.i2d vb1))]))
    refine Goes.step (fun _ k => XS.dloadN X93.here hx rfl (hb hby d5_93) rfl k) ?_
    refine Goes.step (fun _ k => XS.dcmpS X93.here hx rfl (hb hby d5_94) rfl rfl k) ?_
    show Goes _ _ _ _ _ _ _ (T93.setTop (mkF m 95 _ [(.int (cmpValue (FP.dcmp (FP.i2d vb1) (FP.i2d vb3)) .l))]))
    by_cases c95_95 : vb1 < vb3
    · refine Goes.step (fun _ k => XS.ifYes X93.here hx rfl (pc0 := 95) (pc' := 101) rfl (hb hby d5_95) rfl ((if0 _ _).trans (tlt ((own_dlt _ _ _).mpr c95_95)).1) (by decide) (by decide) k) ?_
      show Goes _ _ _ _ _ _ _ (T93.setTop (mkF m 101 _ []))
      refine Goes.step (fun _ k => XS.aloadN X93.here hx rfl (hb hby d5_101) rfl rfl k) ?_
      obtain ⟨T96, X96, e96, st96⟩ := getF X93 hx hZ hown (host := "") (Or.inl w_14) Via.refl e93 f6 (g := (mkF m 102 #[.val (.ref x0), .val (.int va0), .val (.int va3), .val (.double (FP.i2d vb3)), .second, .val (.int (0 : Int32)), .val (.int (1 : Int32))] [(.ref x0)])) rfl rfl (hb hby d5_102)
      refine Goes.step st96 ?_
      show Goes _ _ _ _ _ _ _ (T96.setTop (mkF m 105 _ [(.ref nd)]))
      refine Goes.step (fun _ k => XS.iload X96.here hx rfl (hb hby d5_105) rfl  k) ?_
      refine Goes.step (fun _ k => XS.aloadN X96.here hx rfl (hb hby d5_107) rfl rfl k) ?_
      obtain ⟨T97, X97, e97, st97⟩ := getF X96 hx hZ hown (host := "") (Or.inl w_14) Via.refl e96 f6 (g := (mkF m 108 #[.val (.ref x0), .val (.int va0), .val (.int va3), .val (.double (FP.i2d vb3)), .second, .val (.int (0 : Int32)), .val (.int (1 : Int32))] [(.ref x0), (.int (0 : Int32)), (.ref nd)])) rfl rfl (hb hby d5_108)
      refine Goes.step st97 ?_
      show Goes _ _ _ _ _ _ _ (T97.setTop (mkF m 111 _ [(.ref nd), (.int (0 : Int32)), (.ref nd)]))
      refine Goes.step (fun _ k => XS.iload X97.here hx rfl (hb hby d5_111) rfl  k) ?_
      obtain ⟨cl98, Ar98, q98, S98, P98, H98, G98⟩ := id f9
      have hin98 : ¬ ((1 : Int32) < 0 ∨ cl98.slots.size ≤ ((1 : Int32)).toNatClampNeg) := inb_of S98 ⟨by decide, by decide⟩
      have hat98 : cl98.slots[((1 : Int32)).toNatClampNeg]? = some (.int va1) := H98 _ (by rw [S98]; decide)
      refine Goes.step (fun _ k => X97.iaload hx (j := (1 : Int32)) (v := (.int va1)) (by rw [e97]; exact Ar98.1) (State.isArrayOf_alike hZ.alike Ar98.2.1) Ar98.2.2 hin98 hat98 (g := (mkF m 113 #[.val (.ref x0), .val (.int va0), .val (.int va3), .val (.double (FP.i2d vb3)), .second, .val (.int (0 : Int32)), .val (.int (1 : Int32))] [(.int (1 : Int32)), (.ref nd), (.int (0 : Int32)), (.ref nd)])) rfl rfl (hb hby d5_113) _ k) ?_
      show Goes _ _ _ _ _ _ _ (T97.setTop (mkF m 114 #[.val (.ref x0), .val (.int va0), .val (.int va3), .val (.double (FP.i2d vb3)), .second, .val (.int (0 : Int32)), .val (.int (1 : Int32))] [(.int va1), (.int (0 : Int32)), (.ref nd)]))
      obtain ⟨cl99, Ar99, q99, S99, P99, H99, G99⟩ := id f9
      have hin99 : ¬ ((0 : Int32) < 0 ∨ cl99.slots.size ≤ ((0 : Int32)).toNatClampNeg) := inb_of S99 ⟨by decide, by decide⟩
      obtain ⟨T100, h100, X100, e100, W100, st100⟩ := stI X97 hx hZ e97 Ar99 (j := (0 : Int32)) hin99 (g := (mkF m 114 #[.val (.ref x0), .val (.int va0), .val (.int va3), .val (.double (FP.i2d vb3)), .second, .val (.int (0 : Int32)), .val (.int (1 : Int32))] [(.int va1), (.int (0 : Int32)), (.ref nd)])) rfl rfl (hb hby d5_114)
      refine Goes.step st100 ?_
      have V100 := Arv.set Ar99 q99 S99 P99 H99 G99 rfl W100 0 rfl (Nat.le_of_ble_eq_true rfl)
      have f101 := f5.other W100 (Or.inl ne1)
      have f102 := f6.other W100 (Or.inl ne1)
      have f103 := f7.other W100 (Or.inl ne1)
      have f104 := f8.wr W100
      have f105 := V100
      have f106 := f10.other W100 (Ne.symm ne3)
      have K107 : Keep h0 h100 [x0, nd, ky] := K11.wr W100 (Or.inl (List.mem_of_getElem? (i := 1) rfl))
      have Z107 : n0 ≤ h100.size := by rw [Wr.size W100]; exact Z11
      have N107 := Fr.snoc X100 N11 g_nd
      show Goes _ _ _ _ _ _ _ (T100.setTop (mkF m 115 _ []))
      refine Goes.step (fun _ k => XS.aloadN X100.here hx rfl (hb hby d5_115) rfl rfl k) ?_
      obtain ⟨T108, X108, e108, st108⟩ := getF X100 hx hZ hown (host := "") (Or.inl w_17) Via.refl e100 f103 (g := (mkF m 116 #[.val (.ref x0), .val (.int va0), .val (.int va3), .val (.double (FP.i2d vb3)), .second, .val (.int (0 : Int32)), .val (.int (1 : Int32))] [(.ref x0)])) rfl rfl (hb hby d5_116)
      refine Goes.step st108 ?_
      show Goes _ _ _ _ _ _ _ (T108.setTop (mkF m 119 _ [(.ref ky)]))
      refine Goes.step (fun _ k => XS.iload X108.here hx rfl (hb hby d5_119) rfl  k) ?_
      refine Goes.step (fun _ k => XS.aloadN X108.here hx rfl (hb hby d5_121) rfl rfl k) ?_
      obtain ⟨T109, X109, e109, st109⟩ := getF X108 hx hZ hown (host := "") (Or.inl w_17) Via.refl e108 f103 (g := (mkF m 122 #[.val (.ref x0), .val (.int va0), .val (.int va3), .val (.double (FP.i2d vb3)), .second, .val (.int (0 : Int32)), .val (.int (1 : Int32))] [(.ref x0), (.int (0 : Int32)), (.ref ky)])) rfl rfl (hb hby d5_122)
      refine Goes.step st109 ?_
      show Goes _ _ _ _ _ _ _ (T109.setTop (mkF m 125 _ [(.ref ky), (.int (0 : Int32)), (.ref ky)]))
      refine Goes.step (fun _ k => XS.iload X109.here hx rfl (hb hby d5_125) rfl  k) ?_
      obtain ⟨cl110, Ar110, q110, S110, P110, H110, G110⟩ := id f106
      have hin110 : ¬ ((1 : Int32) < 0 ∨ cl110.slots.size ≤ ((1 : Int32)).toNatClampNeg) := inb_of S110 ⟨by decide, by decide⟩
      have hat110 : cl110.slots[((1 : Int32)).toNatClampNeg]? = some (.double (FP.i2d vb1)) := H110 _ (by rw [S110]; decide)
      refine Goes.step (fun _ k => X109.daload hx (j := (1 : Int32)) (v := (.double (FP.i2d vb1))) (by rw [e109]; exact Ar110.1) (State.isArrayOf_alike hZ.alike Ar110.2.1) Ar110.2.2 hin110 hat110 (g := (mkF m 127 #[.val (.ref x0), .val (.int va0), .val (.int va3), .val (.double (FP.i2d vb3)), .second, .val (.int (0 : Int32)), .val (.int (1 : Int32))] [(.int (1 : Int32)), (.ref ky), (.int (0 : Int32)), (.ref ky)])) rfl rfl (hb hby d5_127) _ k) ?_
      show Goes _ _ _ _ _ _ _ (T109.setTop (mkF m 128 _ [(.double (FP.i2d vb1)), (.int (0 : Int32)), (.ref ky)]))
      obtain ⟨cl111, Ar111, q111, S111, P111, H111, G111⟩ := id f106
      have hin111 : ¬ ((0 : Int32) < 0 ∨ cl111.slots.size ≤ ((0 : Int32)).toNatClampNeg) := inb_of S111 ⟨by decide, by decide⟩
      obtain ⟨T112, h112, X112, e112, W112, st112⟩ := stD X109 hx hZ e109 Ar111 (j := (0 : Int32)) hin111 (g := (mkF m 128 #[.val (.ref x0), .val (.int va0), .val (.int va3), .val (.double (FP.i2d vb3)), .second, .val (.int (0 : Int32)), .val (.int (1 : Int32))] [(.double (FP.i2d vb1)), (.int (0 : Int32)), (.ref ky)])) rfl rfl (hb hby d5_128)
      refine Goes.step st112 ?_
      have V112 := Arv.set Ar111 q111 S111 P111 H111 G111 rfl W112 0 rfl (Nat.le_of_ble_eq_true rfl)
      have f113 := f101.other W112 (Or.inl ne2)
      have f114 := f102.other W112 (Or.inl ne2)
      have f115 := f103.other W112 (Or.inl ne2)
      have f116 := f104.wr W112
      have f117 := f105.other W112 ne3
      have f118 := V112
      have K119 : Keep h0 h112 [x0, nd, ky] := K107.wr W112 (Or.inl (List.mem_of_getElem? (i := 2) rfl))
      have Z119 : n0 ≤ h112.size := by rw [Wr.size W112]; exact Z107
      have N119 := Fr.snoc X112 N107 g_ky
      show Goes _ _ _ _ _ _ _ (T112.setTop (mkF m 129 _ []))
      refine Goes.step (fun _ k => XS.iload X112.here hx rfl (hb hby d5_129) rfl  k) ?_
      refine Goes.step (fun _ k => XS.istore X112.here hx rfl (hb hby d5_131) rfl (l' := #[.val (.ref x0), .val (.int va0), .val (.int va3), .val (.double (FP.i2d vb3)), .second, .val (.int (1 : Int32)), .val (.int (1 : Int32))]) rfl k) ?_
      show Goes _ _ _ _ _ _ _ (T112.setTop (mkF m 133 _ []))
      refine Goes.step (fun _ k => XS.iconst X112.here hx rfl (hb hby d5_133) k) ?_
      refine Goes.step (fun _ k => XS.iload X112.here hx rfl (hb hby d5_134) rfl  k) ?_
      refine Goes.step (fun _ k => XS.imul X112.here hx rfl (hb hby d5_136) rfl k) ?_
      show Goes _ _ _ _ _ _ _ (T112.setTop (mkF m 137 #[.val (.ref x0), .val (.int va0), .val (.int va3), .val (.double (FP.i2d vb3)), .second, .val (.int (1 : Int32)), .val (.int (1 : Int32))] [(.int (2 : Int32))]))
      refine Goes.step (fun _ k => XS.iconst X112.here hx rfl (hb hby d5_137) k) ?_
      refine Goes.step (fun _ k => XS.iadd X112.here hx rfl (hb hby d5_138) rfl k) ?_
      show Goes _ _ _ _ _ _ _ (T112.setTop (mkF m 139 _ [(.int (3 : Int32))]))
      refine Goes.step (fun _ k => XS.istore X112.here hx rfl (hb hby d5_139) rfl (l' := #[.val (.ref x0), .val (.int va0), .val (.int va3), .val (.double (FP.i2d vb3)), .second, .val (.int (1 : Int32)), .val (.int (3 : Int32))]) rfl k) ?_
      show Goes _ _ _ _ _ _ _ (T112.setTop (mkF m 141 _ []))
      refine Goes.step (fun _ k => XS.goto X112.here hx rfl (pc0 := 141) (pc' := 43) rfl (hb hby d5_141) (by decide) (by decide) k) ?_
      show Goes _ _ _ _ _ _ _ (T112.setTop (mkF m 43 _ []))
      refine Goes.step (fun _ k => XS.iload X112.here hx rfl (hb hby d5_43) rfl  k) ?_
      refine Goes.step (fun _ k => XS.aloadN X112.here hx rfl (hb hby d5_45) rfl rfl k) ?_
      obtain ⟨T120, X120, e120, st120⟩ := getF X112 hx hZ hown (host := "") (Or.inl w_24) Via.refl e112 f113 (g := (mkF m 46 #[.val (.ref x0), .val (.int va0), .val (.int va3), .val (.double (FP.i2d vb3)), .second, .val (.int (1 : Int32)), .val (.int (3 : Int32))] [(.ref x0), (.int (3 : Int32))])) rfl rfl (hb hby d5_46)
      refine Goes.step st120 ?_
      show Goes _ _ _ _ _ _ _ (T120.setTop (mkF m 49 _ [(.int (3 : Int32)), (.int (3 : Int32))]))
      refine Goes.step (fun _ k => XS.icmpYes X120.here hx rfl (pc0 := 49) (pc' := 144) rfl (hb hby d5_49) rfl (flt (by decide : ¬ ((3 : Int32) < (3 : Int32)))).2.1 (by decide) (by decide) k) ?_
      show Goes _ _ _ _ _ _ _ (T120.setTop (mkF m 144 _ []))
      refine Goes.step (fun _ k => XS.aloadN X120.here hx rfl (hb hby d5_144) rfl rfl k) ?_
      obtain ⟨T121, X121, e121, st121⟩ := getF X120 hx hZ hown (host := "") (Or.inl w_14) Via.refl e120 f114 (g := (mkF m 145 #[.val (.ref x0), .val (.int va0), .val (.int va3), .val (.double (FP.i2d vb3)), .second, .val (.int (1 : Int32)), .val (.int (3 : Int32))] [(.ref x0)])) rfl rfl (hb hby d5_145)
      refine Goes.step st121 ?_
      show Goes _ _ _ _ _ _ _ (T121.setTop (mkF m 148 _ [(.ref nd)]))
      refine Goes.step (fun _ k => XS.iload X121.here hx rfl (hb hby d5_148) rfl  k) ?_
      refine Goes.step (fun _ k => XS.iloadN X121.here hx rfl (hb hby d5_150) rfl  k) ?_
      obtain ⟨cl122, Ar122, q122, S122, P122, H122, G122⟩ := id f117
      have hin122 : ¬ ((1 : Int32) < 0 ∨ cl122.slots.size ≤ ((1 : Int32)).toNatClampNeg) := inb_of S122 ⟨by decide, by decide⟩
      obtain ⟨T123, h123, X123, e123, W123, st123⟩ := stI X121 hx hZ e121 Ar122 (j := (1 : Int32)) hin122 (g := (mkF m 151 #[.val (.ref x0), .val (.int va0), .val (.int va3), .val (.double (FP.i2d vb3)), .second, .val (.int (1 : Int32)), .val (.int (3 : Int32))] [(.int va3), (.int (1 : Int32)), (.ref nd)])) rfl rfl (hb hby d5_151)
      refine Goes.step st123 ?_
      have V123 := Arv.set Ar122 q122 S122 P122 H122 G122 rfl W123 1 rfl (Nat.le_of_ble_eq_true rfl)
      have f124 := f113.other W123 (Or.inl ne1)
      have f125 := f114.other W123 (Or.inl ne1)
      have f126 := f115.other W123 (Or.inl ne1)
      have f127 := f116.wr W123
      have f128 := V123
      have f129 := f118.other W123 (Ne.symm ne3)
      have K130 : Keep h0 h123 [x0, nd, ky] := K119.wr W123 (Or.inl (List.mem_of_getElem? (i := 1) rfl))
      have Z130 : n0 ≤ h123.size := by rw [Wr.size W123]; exact Z119
      have N130 := Fr.snoc X123 N119 g_nd
      show Goes _ _ _ _ _ _ _ (T123.setTop (mkF m 152 #[.val (.ref x0), .val (.int va0), .val (.int va3), .val (.double (FP.i2d vb3)), .second, .val (.int (1 : Int32)), .val (.int (3 : Int32))] []))
      refine Goes.step (fun _ k => XS.aloadN X123.here hx rfl (hb hby d5_152) rfl rfl k) ?_
      obtain ⟨T131, X131, e131, st131⟩ := getF X123 hx hZ hown (host := "") (Or.inl w_17) Via.refl e123 f126 (g := (mkF m 153 #[.val (.ref x0), .val (.int va0), .val (.int va3), .val (.double (FP.i2d vb3)), .second, .val (.int (1 : Int32)), .val (.int (3 : Int32))] [(.ref x0)])) rfl rfl (hb hby d5_153)
      refine Goes.step st131 ?_
      show Goes _ _ _ _ _ _ _ (T131.setTop (mkF m 156 _ [(.ref ky)]))
      refine Goes.step (fun _ k => XS.iload X131.here hx rfl (hb hby d5_156) rfl  k) ?_
      refine Goes.step (fun _ k => XS.dloadN X131.here hx rfl (hb hby d5_158) rfl k) ?_
      obtain ⟨cl132, Ar132, q132, S132, P132, H132, G132⟩ := id f129
      have hin132 : ¬ ((1 : Int32) < 0 ∨ cl132.slots.size ≤ ((1 : Int32)).toNatClampNeg) := inb_of S132 ⟨by decide, by decide⟩
      obtain ⟨T133, h133, X133, e133, W133, st133⟩ := stD X131 hx hZ e131 Ar132 (j := (1 : Int32)) hin132 (g := (mkF m 159 #[.val (.ref x0), .val (.int va0), .val (.int va3), .val (.double (FP.i2d vb3)), .second, .val (.int (1 : Int32)), .val (.int (3 : Int32))] [(.double (FP.i2d vb3)), (.int (1 : Int32)), (.ref ky)])) rfl rfl (hb hby d5_159)
      refine Goes.step st133 ?_
      have V133 := Arv.set Ar132 q132 S132 P132 H132 G132 rfl W133 1 rfl (Nat.le_of_ble_eq_true rfl)
      have f134 := f124.other W133 (Or.inl ne2)
      have f135 := f125.other W133 (Or.inl ne2)
      have f136 := f126.other W133 (Or.inl ne2)
      have f137 := f127.wr W133
      have f138 := f128.other W133 ne3
      have f139 := V133
      have K140 : Keep h0 h133 [x0, nd, ky] := K130.wr W133 (Or.inl (List.mem_of_getElem? (i := 2) rfl))
      have Z140 : n0 ≤ h133.size := by rw [Wr.size W133]; exact Z130
      have N140 := Fr.snoc X133 N130 g_ky
      show Goes _ _ _ _ _ _ _ (T133.setTop (mkF m 160 _ []))
      refine Goes.step (fun _ k => XS.iloadN X133.here hx rfl (hb hby d5_160) rfl  k) ?_
      have ph0 := own_nl c80_24
      have ph1 := own_l c95_95
      exact Goes.ret X133 hx (BodyLoose.notSynchronized Bd) Bd.returns rfl (Or.inl ⟨rfl, by simp, _, rfl⟩) (hb hby d5_161) (by show Q5_4 Z x0 nd ky kn kd va0 va1 va2 va3 va4 va5 vb0 vb1 vb2 vb3 vb4 vb5 h0 n0 (some (.int va0)) T133.heap _; rw [e133]; exact ⟨N140, K140, rfl, f134, f135, f136, va1, va3, va2, va3, va4, va5, vb1, vb3, vb2, vb3, vb4, vb5, f138, f139, (List.Perm.map (fun i => ([(va1, vb1), (va2, vb2), (va3, vb3)] : List (Int32 × Int32)).getD i (0, 0)) (by decide : ([0, 2, 1] : List Nat).Perm [0, 1, 2])), by omega, by omega, by omega⟩) (by decide) (by decide)
    · refine Goes.step (fun _ k => XS.ifNo X93.here hx rfl (hb hby d5_95) rfl ((if0 _ _).trans (flt (fun q => c95_95 ((own_dlt _ _ _).mp q))).1) k) ?_
      show Goes _ _ _ _ _ _ _ (T93.setTop (mkF m 98 _ []))
      refine Goes.step (fun _ k => XS.goto X93.here hx rfl (pc0 := 98) (pc' := 144) rfl (hb hby d5_98) (by decide) (by decide) k) ?_
      show Goes _ _ _ _ _ _ _ (T93.setTop (mkF m 144 _ []))
      refine Goes.step (fun _ k => XS.aloadN X93.here hx rfl (hb hby d5_144) rfl rfl k) ?_
      obtain ⟨T141, X141, e141, st141⟩ := getF X93 hx hZ hown (host := "") (Or.inl w_14) Via.refl e93 f6 (g := (mkF m 145 #[.val (.ref x0), .val (.int va0), .val (.int va3), .val (.double (FP.i2d vb3)), .second, .val (.int (0 : Int32)), .val (.int (1 : Int32))] [(.ref x0)])) rfl rfl (hb hby d5_145)
      refine Goes.step st141 ?_
      show Goes _ _ _ _ _ _ _ (T141.setTop (mkF m 148 _ [(.ref nd)]))
      refine Goes.step (fun _ k => XS.iload X141.here hx rfl (hb hby d5_148) rfl  k) ?_
      refine Goes.step (fun _ k => XS.iloadN X141.here hx rfl (hb hby d5_150) rfl  k) ?_
      obtain ⟨cl142, Ar142, q142, S142, P142, H142, G142⟩ := id f9
      have hin142 : ¬ ((0 : Int32) < 0 ∨ cl142.slots.size ≤ ((0 : Int32)).toNatClampNeg) := inb_of S142 ⟨by decide, by decide⟩
      obtain ⟨T143, h143, X143, e143, W143, st143⟩ := stI X141 hx hZ e141 Ar142 (j := (0 : Int32)) hin142 (g := (mkF m 151 #[.val (.ref x0), .val (.int va0), .val (.int va3), .val (.double (FP.i2d vb3)), .second, .val (.int (0 : Int32)), .val (.int (1 : Int32))] [(.int va3), (.int (0 : Int32)), (.ref nd)])) rfl rfl (hb hby d5_151)
      refine Goes.step st143 ?_
      have V143 := Arv.set Ar142 q142 S142 P142 H142 G142 rfl W143 0 rfl (Nat.le_of_ble_eq_true rfl)
      have f144 := f5.other W143 (Or.inl ne1)
      have f145 := f6.other W143 (Or.inl ne1)
      have f146 := f7.other W143 (Or.inl ne1)
      have f147 := f8.wr W143
      have f148 := V143
      have f149 := f10.other W143 (Ne.symm ne3)
      have K150 : Keep h0 h143 [x0, nd, ky] := K11.wr W143 (Or.inl (List.mem_of_getElem? (i := 1) rfl))
      have Z150 : n0 ≤ h143.size := by rw [Wr.size W143]; exact Z11
      have N150 := Fr.snoc X143 N11 g_nd
      show Goes _ _ _ _ _ _ _ (T143.setTop (mkF m 152 #[.val (.ref x0), .val (.int va0), .val (.int va3), .val (.double (FP.i2d vb3)), .second, .val (.int (0 : Int32)), .val (.int (1 : Int32))] []))
      refine Goes.step (fun _ k => XS.aloadN X143.here hx rfl (hb hby d5_152) rfl rfl k) ?_
      obtain ⟨T151, X151, e151, st151⟩ := getF X143 hx hZ hown (host := "") (Or.inl w_17) Via.refl e143 f146 (g := (mkF m 153 #[.val (.ref x0), .val (.int va0), .val (.int va3), .val (.double (FP.i2d vb3)), .second, .val (.int (0 : Int32)), .val (.int (1 : Int32))] [(.ref x0)])) rfl rfl (hb hby d5_153)
      refine Goes.step st151 ?_
      show Goes _ _ _ _ _ _ _ (T151.setTop (mkF m 156 _ [(.ref ky)]))
      refine Goes.step (fun _ k => XS.iload X151.here hx rfl (hb hby d5_156) rfl  k) ?_
      refine Goes.step (fun _ k => XS.dloadN X151.here hx rfl (hb hby d5_158) rfl k) ?_
      obtain ⟨cl152, Ar152, q152, S152, P152, H152, G152⟩ := id f149
      have hin152 : ¬ ((0 : Int32) < 0 ∨ cl152.slots.size ≤ ((0 : Int32)).toNatClampNeg) := inb_of S152 ⟨by decide, by decide⟩
      obtain ⟨T153, h153, X153, e153, W153, st153⟩ := stD X151 hx hZ e151 Ar152 (j := (0 : Int32)) hin152 (g := (mkF m 159 #[.val (.ref x0), .val (.int va0), .val (.int va3), .val (.double (FP.i2d vb3)), .second, .val (.int (0 : Int32)), .val (.int (1 : Int32))] [(.double (FP.i2d vb3)), (.int (0 : Int32)), (.ref ky)])) rfl rfl (hb hby d5_159)
      refine Goes.step st153 ?_
      have V153 := Arv.set Ar152 q152 S152 P152 H152 G152 rfl W153 0 rfl (Nat.le_of_ble_eq_true rfl)
      have f154 := f144.other W153 (Or.inl ne2)
      have f155 := f145.other W153 (Or.inl ne2)
      have f156 := f146.other W153 (Or.inl ne2)
      have f157 := f147.wr W153
      have f158 := f148.other W153 ne3
      have f159 := V153
      have K160 : Keep h0 h153 [x0, nd, ky] := K150.wr W153 (Or.inl (List.mem_of_getElem? (i := 2) rfl))
      have Z160 : n0 ≤ h153.size := by rw [Wr.size W153]; exact Z150
      have N160 := Fr.snoc X153 N150 g_ky
      show Goes _ _ _ _ _ _ _ (T153.setTop (mkF m 160 _ []))
      refine Goes.step (fun _ k => XS.iloadN X153.here hx rfl (hb hby d5_160) rfl  k) ?_
      have ph0 := own_nl c80_24
      have ph1 := own_nl c95_95
      exact Goes.ret X153 hx (BodyLoose.notSynchronized Bd) Bd.returns rfl (Or.inl ⟨rfl, by simp, _, rfl⟩) (hb hby d5_161) (by show Q5_4 Z x0 nd ky kn kd va0 va1 va2 va3 va4 va5 vb0 vb1 vb2 vb3 vb4 vb5 h0 n0 (some (.int va0)) T153.heap _; rw [e153]; exact ⟨N160, K160, rfl, f154, f155, f156, va3, va1, va2, va3, va4, va5, vb3, vb1, vb2, vb3, vb4, vb5, f158, f159, (List.Perm.map (fun i => ([(va1, vb1), (va2, vb2), (va3, vb3)] : List (Int32 × Int32)).getD i (0, 0)) (by decide : ([2, 0, 1] : List Nat).Perm [0, 1, 2])), by omega, by omega, by omega⟩) (by decide) (by decide)
theorem ef_5_3 (m : MethodId) (x0 : Addr) (nd : Addr) (ky : Addr) (kn : ClassId) (kd : ClassId) (va0 : Int32) (va1 : Int32) (va2 : Int32) (va3 : Int32) (va4 : Int32) (va5 : Int32) (vb0 : Int32) (vb1 : Int32) (vb2 : Int32) (vb3 : Int32) (vb4 : Int32) (vb5 : Int32)  : entryFrame m #[(.ref x0)] 7 = mkF m 0 #[.val (.ref x0), .unset, .unset, .unset, .unset, .unset, .unset] [] := by first | (simp [entryFrame, mkF, argsToLocals, Value.category]; done) | rfl
def Q5_3 (Z : State) (x0 : Addr) (nd : Addr) (ky : Addr) (kn : ClassId) (kd : ClassId) (va0 : Int32) (va1 : Int32) (va2 : Int32) (va3 : Int32) (va4 : Int32) (va5 : Int32) (vb0 : Int32) (vb1 : Int32) (vb2 : Int32) (vb3 : Int32) (vb4 : Int32) (vb5 : Int32) (h0 : Heap) (n0 : Nat) (v : Option Value) (h : Heap) (L : List Loc) : Prop := Fr n0 L ∧ Keep h0 h [x0, nd, ky] ∧ v = some (.int va0) ∧ Fld Z h x0 "com/example/hailwise/hailwise/NodeQueue" "size" "I" (.int (2 : Int32)) ∧ Fld Z h x0 "com/example/hailwise/hailwise/NodeQueue" "nodes" "[I" (.ref nd) ∧ Fld Z h x0 "com/example/hailwise/hailwise/NodeQueue" "keys" "[D" (.ref ky) ∧ ∃ p0 p1 p2 p3 p4 p5 q0 q1 q2 q3 q4 q5 : Int32, Arv Z h nd kn .int (64 : Int32) [(.int p0), (.int p1), (.int p2), (.int p3), (.int p4), (.int p5)] (.int (0 : Int32)) ∧ Arv Z h ky kd .double (64 : Int32) [(.double (FP.i2d q0)), (.double (FP.i2d q1)), (.double (FP.i2d q2)), (.double (FP.i2d q3)), (.double (FP.i2d q4)), (.double (FP.i2d q5))] (.double (0 : UInt64)) ∧ ([(p0, q0), (p1, q1)] : List (Int32 × Int32)).Perm ([(va1, vb1), (va2, vb2)] : List (Int32 × Int32)) ∧ q0.toInt ≤ q1.toInt ∧ vb0.toInt ≤ q0.toInt
set_option maxRecDepth 65536 in
set_option maxHeartbeats 40000000 in
theorem rm5_3 (l : Launch) (Z : State) (a0 : Array Value) (hw : ∀ d ∈ tables_1, d.before a0 Z = true) (ws : List Jvm.Cond) (x0 : Addr) (nd : Addr) (ky : Addr) (kn : ClassId) (kd : ClassId) (va0 : Int32) (va1 : Int32) (va2 : Int32) (va3 : Int32) (va4 : Int32) (va5 : Int32) (vb0 : Int32) (vb1 : Int32) (vb2 : Int32) (vb3 : Int32) (vb4 : Int32) (vb5 : Int32) (h0 : Heap) (n0 : Nat) (Z0 : n0 ≤ h0.size) (F_size : Fld Z h0 x0 "com/example/hailwise/hailwise/NodeQueue" "size" "I" (.int (3 : Int32))) (F_nd : Fld Z h0 x0 "com/example/hailwise/hailwise/NodeQueue" "nodes" "[I" (.ref nd)) (F_ky : Fld Z h0 x0 "com/example/hailwise/hailwise/NodeQueue" "keys" "[D" (.ref ky)) (E_x0 : Exa Z h0 x0 "com/example/hailwise/hailwise/NodeQueue") (V_nd : Arv Z h0 nd kn .int (64 : Int32) [(.int va0), (.int va1), (.int va2), (.int va3), (.int va4), (.int va5)] (.int (0 : Int32))) (V_ky : Arv Z h0 ky kd .double (64 : Int32) [(.double (FP.i2d vb0)), (.double (FP.i2d vb1)), (.double (FP.i2d vb2)), (.double (FP.i2d vb3)), (.double (FP.i2d vb4)), (.double (FP.i2d vb5))] (.double (0 : UInt64))) (g_x0 : n0 ≤ x0) (g_nd : n0 ≤ nd) (g_ky : n0 ≤ ky) (ne1 : x0 ≠ nd) (ne2 : x0 ≠ ky) (ne3 : nd ≠ ky) (ho01 : vb0.toInt ≤ vb1.toInt) (ho02 : vb0.toInt ≤ vb2.toInt) :
    MetFree l (⟨"com/example/hailwise/hailwise/NodeQueue", "poll", "()I"⟩ : MethodName) (head1 (Jvm.Cond.code (⟨"com/example/hailwise/hailwise/NodeQueue", "poll", "()I"⟩ : MethodName) prog_21_method_6_code 7 (some .int) :: ws) ({ frames := 0, cells := 0, slots := 0, locals := 0 } : Room)) (fun a U => a = #[(.ref x0)] ∧ Z.Warmed39 U.vm ∧ U.heap = h0) (fun _ _ _ _ _ => True) (fun _ U o U' => ∃ v L, o = .returned v ∧ Q5_3 Z x0 nd ky kn kd va0 va1 va2 va3 va4 va5 vb0 vb1 vb2 vb3 vb4 vb5 h0 n0 v U'.heap L ∧ FrameEnd U o U' L ({ frames := 0, cells := 0, slots := 0, locals := 0 } : Room).cells ({ frames := 0, cells := 0, slots := 0, locals := 0 } : Room).slots) := by
  refine MetFree.of_bodySF (plainFor_of_name pn_5) hisR ?_
  intro p e s m args below meth c s₁ Bd hml0 hP hK
  obtain ⟨rfl, hZ, hh⟩ := hP
  have w_6 := hw _ (List.mem_of_getElem? (i := 6) rfl)
  have w_14 := hw _ (List.mem_of_getElem? (i := 14) rfl)
  have w_15 := hw _ (List.mem_of_getElem? (i := 15) rfl)
  have w_17 := hw _ (List.mem_of_getElem? (i := 17) rfl)
  have w_18 := hw _ (List.mem_of_getElem? (i := 18) rfl)
  have w_24 := hw _ (List.mem_of_getElem? (i := 24) rfl)
  have w_25 := hw _ (List.mem_of_getElem? (i := 25) rfl)
  have hx := Bd.exec
  have hby := Bd.bytes
  have hml : c.maxLocals = 7 := hml0
  have hown : s.vm.findClass "com/example/hailwise/hailwise/NodeQueue" = some m.cls := findClass_of_methodNamed Bd.named
  have hnm := (name_of_methodNamed Bd.named Bd.method).1
  have X0 : Stand p l e ({ frames := 0, cells := 0, slots := 0, locals := 0 } : Room) s m #[(.ref x0)] below meth c s₁ [] 0 0 := Stand.of_body Bd
  have e0 : s₁.heap = h0 := by rw [← hh, Bd.state]; rfl
  have N0 := Fr.nil n0
  have K0 : Keep h0 h0 [x0, nd, ky] := Keep.refl h0 _
  refine (?_ : Goes p e below s ({ frames := 0, cells := 0, slots := 0, locals := 0 } : Room).cells ({ frames := 0, cells := 0, slots := 0, locals := 0 } : Room).slots (fun v h L => Q5_3 Z x0 nd ky kn kd va0 va1 va2 va3 va4 va5 vb0 vb1 vb2 vb3 vb4 vb5 h0 n0 v h L) (s₁.setTop (entryFrame m #[(.ref x0)] 7)))
  rw [ef_5_3 m x0 nd ky kn kd va0 va1 va2 va3 va4 va5 vb0 vb1 vb2 vb3 vb4 vb5 ]
  show Goes _ _ _ _ _ _ _ (s₁.setTop (mkF m 0 #[.val (.ref x0), .unset, .unset, .unset, .unset, .unset, .unset] []))
  refine Goes.step (fun _ k => XS.aloadN X0.here hx rfl (hb hby d5_0) rfl rfl k) ?_
  obtain ⟨T1, X1, e1, st1⟩ := getF X0 hx hZ hown (host := "") (Or.inl w_14) Via.refl e0 F_nd (g := (mkF m 1 #[.val (.ref x0), .unset, .unset, .unset, .unset, .unset, .unset] [(.ref x0)])) rfl rfl (hb hby d5_1)
  refine Goes.step st1 ?_
  show Goes _ _ _ _ _ _ _ (T1.setTop (mkF m 4 _ [(.ref nd)]))
  refine Goes.step (fun _ k => XS.iconst X1.here hx rfl (hb hby d5_4) k) ?_
  obtain ⟨cl2, Ar2, q2, S2, P2, H2, G2⟩ := id V_nd
  have hin2 : ¬ ((0 : Int32) < 0 ∨ cl2.slots.size ≤ ((0 : Int32)).toNatClampNeg) := inb_of S2 ⟨by decide, by decide⟩
  have hat2 : cl2.slots[((0 : Int32)).toNatClampNeg]? = some (.int va0) := H2 _ (by rw [S2]; decide)
  refine Goes.step (fun _ k => X1.iaload hx (j := (0 : Int32)) (v := (.int va0)) (by rw [e1]; exact Ar2.1) (State.isArrayOf_alike hZ.alike Ar2.2.1) Ar2.2.2 hin2 hat2 (g := (mkF m 5 #[.val (.ref x0), .unset, .unset, .unset, .unset, .unset, .unset] [(.int (0 : Int32)), (.ref nd)])) rfl rfl (hb hby d5_5) _ k) ?_
  show Goes _ _ _ _ _ _ _ (T1.setTop (mkF m 6 _ [(.int va0)]))
  refine Goes.step (fun _ k => XS.istoreN X1.here hx rfl (hb hby d5_6) rfl (l' := #[.val (.ref x0), .val (.int va0), .unset, .unset, .unset, .unset, .unset]) rfl k) ?_
  show Goes _ _ _ _ _ _ _ (T1.setTop (mkF m 7 _ []))
  refine Goes.step (fun _ k => XS.aloadN X1.here hx rfl (hb hby d5_7) rfl rfl k) ?_
  refine Goes.step (fun _ k => XS.dup X1.here hx rfl (hb hby d5_8) rfl rfl k) ?_
  obtain ⟨T3, X3, e3, st3⟩ := getF X1 hx hZ hown (host := "") (Or.inl w_24) Via.refl e1 F_size (g := (mkF m 9 #[.val (.ref x0), .val (.int va0), .unset, .unset, .unset, .unset, .unset] [(.ref x0), (.ref x0)])) rfl rfl (hb hby d5_9)
  refine Goes.step st3 ?_
  show Goes _ _ _ _ _ _ _ (T3.setTop (mkF m 12 _ [(.int (3 : Int32)), (.ref x0)]))
  refine Goes.step (fun _ k => XS.iconst X3.here hx rfl (hb hby d5_12) k) ?_
  refine Goes.step (fun _ k => XS.isub X3.here hx rfl (hb hby d5_13) rfl k) ?_
  show Goes _ _ _ _ _ _ _ (T3.setTop (mkF m 14 _ [(.int (2 : Int32)), (.ref x0)]))
  obtain ⟨T4, h4, X4, e4, W4, st4⟩ := putF X3 hx hZ hown (host := "") (Or.inl w_24) Via.refl e3 F_size E_x0 (Or.inl w_25) w_6 (ty := .int) (by decide) rfl rfl (g := (mkF m 14 #[.val (.ref x0), .val (.int va0), .unset, .unset, .unset, .unset, .unset] [(.int (2 : Int32)), (.ref x0)])) rfl rfl (hb hby d5_14)
  refine Goes.step st4 ?_
  have f5 := F_size.same W4
  have f6 := F_nd.other W4 (Or.inr (slot_ne (Or.inl w_15) (Or.inl w_25) (by decide) (t := (.array .int)) (t' := .int) (by decide) (by decide)))
  have f7 := F_ky.other W4 (Or.inr (slot_ne (Or.inl w_18) (Or.inl w_25) (by decide) (t := (.array .double)) (t' := .int) (by decide) (by decide)))
  have f8 := E_x0.wr W4
  have f9 := V_nd.other W4 (Ne.symm ne1)
  have f10 := V_ky.other W4 (Ne.symm ne2)
  have K11 : Keep h0 h4 [x0, nd, ky] := K0.wr W4 (Or.inl (List.mem_of_getElem? (i := 0) rfl))
  have Z11 : n0 ≤ h4.size := by rw [Wr.size W4]; exact Z0
  have N11 := Fr.snoc X4 N0 g_x0
  show Goes _ _ _ _ _ _ _ (T4.setTop (mkF m 17 _ []))
  refine Goes.step (fun _ k => XS.aloadN X4.here hx rfl (hb hby d5_17) rfl rfl k) ?_
  obtain ⟨T12, X12, e12, st12⟩ := getF X4 hx hZ hown (host := "") (Or.inl w_14) Via.refl e4 f6 (g := (mkF m 18 #[.val (.ref x0), .val (.int va0), .unset, .unset, .unset, .unset, .unset] [(.ref x0)])) rfl rfl (hb hby d5_18)
  refine Goes.step st12 ?_
  show Goes _ _ _ _ _ _ _ (T12.setTop (mkF m 21 #[.val (.ref x0), .val (.int va0), .unset, .unset, .unset, .unset, .unset] [(.ref nd)]))
  refine Goes.step (fun _ k => XS.aloadN X12.here hx rfl (hb hby d5_21) rfl rfl k) ?_
  obtain ⟨T13, X13, e13, st13⟩ := getF X12 hx hZ hown (host := "") (Or.inl w_24) Via.refl e12 f5 (g := (mkF m 22 #[.val (.ref x0), .val (.int va0), .unset, .unset, .unset, .unset, .unset] [(.ref x0), (.ref nd)])) rfl rfl (hb hby d5_22)
  refine Goes.step st13 ?_
  show Goes _ _ _ _ _ _ _ (T13.setTop (mkF m 25 _ [(.int (2 : Int32)), (.ref nd)]))
  obtain ⟨cl14, Ar14, q14, S14, P14, H14, G14⟩ := id f9
  have hin14 : ¬ ((2 : Int32) < 0 ∨ cl14.slots.size ≤ ((2 : Int32)).toNatClampNeg) := inb_of S14 ⟨by decide, by decide⟩
  have hat14 : cl14.slots[((2 : Int32)).toNatClampNeg]? = some (.int va2) := H14 _ (by rw [S14]; decide)
  refine Goes.step (fun _ k => X13.iaload hx (j := (2 : Int32)) (v := (.int va2)) (by rw [e13]; exact Ar14.1) (State.isArrayOf_alike hZ.alike Ar14.2.1) Ar14.2.2 hin14 hat14 (g := (mkF m 25 #[.val (.ref x0), .val (.int va0), .unset, .unset, .unset, .unset, .unset] [(.int (2 : Int32)), (.ref nd)])) rfl rfl (hb hby d5_25) _ k) ?_
  show Goes _ _ _ _ _ _ _ (T13.setTop (mkF m 26 _ [(.int va2)]))
  refine Goes.step (fun _ k => XS.istoreN X13.here hx rfl (hb hby d5_26) rfl (l' := #[.val (.ref x0), .val (.int va0), .val (.int va2), .unset, .unset, .unset, .unset]) rfl k) ?_
  show Goes _ _ _ _ _ _ _ (T13.setTop (mkF m 27 _ []))
  refine Goes.step (fun _ k => XS.aloadN X13.here hx rfl (hb hby d5_27) rfl rfl k) ?_
  obtain ⟨T15, X15, e15, st15⟩ := getF X13 hx hZ hown (host := "") (Or.inl w_17) Via.refl e13 f7 (g := (mkF m 28 #[.val (.ref x0), .val (.int va0), .val (.int va2), .unset, .unset, .unset, .unset] [(.ref x0)])) rfl rfl (hb hby d5_28)
  refine Goes.step st15 ?_
  show Goes _ _ _ _ _ _ _ (T15.setTop (mkF m 31 _ [(.ref ky)]))
  refine Goes.step (fun _ k => XS.aloadN X15.here hx rfl (hb hby d5_31) rfl rfl k) ?_
  obtain ⟨T16, X16, e16, st16⟩ := getF X15 hx hZ hown (host := "") (Or.inl w_24) Via.refl e15 f5 (g := (mkF m 32 #[.val (.ref x0), .val (.int va0), .val (.int va2), .unset, .unset, .unset, .unset] [(.ref x0), (.ref ky)])) rfl rfl (hb hby d5_32)
  refine Goes.step st16 ?_
  show Goes _ _ _ _ _ _ _ (T16.setTop (mkF m 35 _ [(.int (2 : Int32)), (.ref ky)]))
  obtain ⟨cl17, Ar17, q17, S17, P17, H17, G17⟩ := id f10
  have hin17 : ¬ ((2 : Int32) < 0 ∨ cl17.slots.size ≤ ((2 : Int32)).toNatClampNeg) := inb_of S17 ⟨by decide, by decide⟩
  have hat17 : cl17.slots[((2 : Int32)).toNatClampNeg]? = some (.double (FP.i2d vb2)) := H17 _ (by rw [S17]; decide)
  refine Goes.step (fun _ k => X16.daload hx (j := (2 : Int32)) (v := (.double (FP.i2d vb2))) (by rw [e16]; exact Ar17.1) (State.isArrayOf_alike hZ.alike Ar17.2.1) Ar17.2.2 hin17 hat17 (g := (mkF m 35 #[.val (.ref x0), .val (.int va0), .val (.int va2), .unset, .unset, .unset, .unset] [(.int (2 : Int32)), (.ref ky)])) rfl rfl (hb hby d5_35) _ k) ?_
  show Goes _ _ _ _ _ _ _ (T16.setTop (mkF m 36 _ [(.double (FP.i2d vb2))]))
  refine Goes.step (fun _ k => XS.dstoreN X16.here hx rfl (hb hby d5_36) rfl (l' := #[.val (.ref x0), .val (.int va0), .val (.int va2), .val (.double (FP.i2d vb2)), .second, .unset, .unset]) rfl k) ?_
  show Goes _ _ _ _ _ _ _ (T16.setTop (mkF m 37 #[.val (.ref x0), .val (.int va0), .val (.int va2), .val (.double (FP.i2d vb2)), .second, .unset, .unset] []))
  refine Goes.step (fun _ k => XS.iconst X16.here hx rfl (hb hby d5_37) k) ?_
  refine Goes.step (fun _ k => XS.istore X16.here hx rfl (hb hby d5_38) rfl (l' := #[.val (.ref x0), .val (.int va0), .val (.int va2), .val (.double (FP.i2d vb2)), .second, .val (.int (0 : Int32)), .unset]) rfl k) ?_
  show Goes _ _ _ _ _ _ _ (T16.setTop (mkF m 40 _ []))
  refine Goes.step (fun _ k => XS.iconst X16.here hx rfl (hb hby d5_40) k) ?_
  refine Goes.step (fun _ k => XS.istore X16.here hx rfl (hb hby d5_41) rfl (l' := #[.val (.ref x0), .val (.int va0), .val (.int va2), .val (.double (FP.i2d vb2)), .second, .val (.int (0 : Int32)), .val (.int (1 : Int32))]) rfl k) ?_
  show Goes _ _ _ _ _ _ _ (T16.setTop (mkF m 43 _ []))
  refine Goes.step (fun _ k => XS.iload X16.here hx rfl (hb hby d5_43) rfl  k) ?_
  refine Goes.step (fun _ k => XS.aloadN X16.here hx rfl (hb hby d5_45) rfl rfl k) ?_
  obtain ⟨T18, X18, e18, st18⟩ := getF X16 hx hZ hown (host := "") (Or.inl w_24) Via.refl e16 f5 (g := (mkF m 46 #[.val (.ref x0), .val (.int va0), .val (.int va2), .val (.double (FP.i2d vb2)), .second, .val (.int (0 : Int32)), .val (.int (1 : Int32))] [(.ref x0), (.int (1 : Int32))])) rfl rfl (hb hby d5_46)
  refine Goes.step st18 ?_
  show Goes _ _ _ _ _ _ _ (T18.setTop (mkF m 49 _ [(.int (2 : Int32)), (.int (1 : Int32))]))
  refine Goes.step (fun _ k => XS.icmpNo X18.here hx rfl (hb hby d5_49) rfl (tlt (by decide : (1 : Int32) < (2 : Int32))).2.1 k) ?_
  show Goes _ _ _ _ _ _ _ (T18.setTop (mkF m 52 _ []))
  refine Goes.step (fun _ k => XS.iload X18.here hx rfl (hb hby d5_52) rfl  k) ?_
  refine Goes.step (fun _ k => XS.iconst X18.here hx rfl (hb hby d5_54) k) ?_
  refine Goes.step (fun _ k => XS.iadd X18.here hx rfl (hb hby d5_55) rfl k) ?_
  show Goes _ _ _ _ _ _ _ (T18.setTop (mkF m 56 _ [(.int (2 : Int32))]))
  refine Goes.step (fun _ k => XS.aloadN X18.here hx rfl (hb hby d5_56) rfl rfl k) ?_
  obtain ⟨T19, X19, e19, st19⟩ := getF X18 hx hZ hown (host := "") (Or.inl w_24) Via.refl e18 f5 (g := (mkF m 57 #[.val (.ref x0), .val (.int va0), .val (.int va2), .val (.double (FP.i2d vb2)), .second, .val (.int (0 : Int32)), .val (.int (1 : Int32))] [(.ref x0), (.int (2 : Int32))])) rfl rfl (hb hby d5_57)
  refine Goes.step st19 ?_
  show Goes _ _ _ _ _ _ _ (T19.setTop (mkF m 60 _ [(.int (2 : Int32)), (.int (2 : Int32))]))
  refine Goes.step (fun _ k => XS.icmpYes X19.here hx rfl (pc0 := 60) (pc' := 86) rfl (hb hby d5_60) rfl (flt (by decide : ¬ ((2 : Int32) < (2 : Int32)))).2.1 (by decide) (by decide) k) ?_
  show Goes _ _ _ _ _ _ _ (T19.setTop (mkF m 86 #[.val (.ref x0), .val (.int va0), .val (.int va2), .val (.double (FP.i2d vb2)), .second, .val (.int (0 : Int32)), .val (.int (1 : Int32))] []))
  refine Goes.step (fun _ k => XS.aloadN X19.here hx rfl (hb hby d5_86) rfl rfl k) ?_
  obtain ⟨T20, X20, e20, st20⟩ := getF X19 hx hZ hown (host := "") (Or.inl w_17) Via.refl e19 f7 (g := (mkF m 87 #[.val (.ref x0), .val (.int va0), .val (.int va2), .val (.double (FP.i2d vb2)), .second, .val (.int (0 : Int32)), .val (.int (1 : Int32))] [(.ref x0)])) rfl rfl (hb hby d5_87)
  refine Goes.step st20 ?_
  show Goes _ _ _ _ _ _ _ (T20.setTop (mkF m 90 _ [(.ref ky)]))
  refine Goes.step (fun _ k => XS.iload X20.here hx rfl (hb hby d5_90) rfl  k) ?_
  obtain ⟨cl21, Ar21, q21, S21, P21, H21, G21⟩ := id f10
  have hin21 : ¬ ((1 : Int32) < 0 ∨ cl21.slots.size ≤ ((1 : Int32)).toNatClampNeg) := inb_of S21 ⟨by decide, by decide⟩
  have hat21 : cl21.slots[((1 : Int32)).toNatClampNeg]? = some (.double (FP.i2d vb1)) := H21 _ (by rw [S21]; decide)
  refine Goes.step (fun _ k => X20.daload hx (j := (1 : Int32)) (v := (.double (FP.i2d vb1))) (by rw [e20]; exact Ar21.1) (State.isArrayOf_alike hZ.alike Ar21.2.1) Ar21.2.2 hin21 hat21 (g := (mkF m 92 #[.val (.ref x0), .val (.int va0), .val (.int va2), .val (.double (FP.i2d vb2)), .second, .val (.int (0 : Int32)), .val (.int (1 : Int32))] [(.int (1 : Int32)), (.ref ky)])) rfl rfl (hb hby d5_92) _ k) ?_
  show Goes _ _ _ _ _ _ _ (T20.setTop (mkF m 93 _ [(.double (FP.i2d vb1))]))
  refine Goes.step (fun _ k => XS.dloadN X20.here hx rfl (hb hby d5_93) rfl k) ?_
  refine Goes.step (fun _ k => XS.dcmpS X20.here hx rfl (hb hby d5_94) rfl rfl k) ?_
  show Goes _ _ _ _ _ _ _ (T20.setTop (mkF m 95 _ [(.int (cmpValue (FP.dcmp (FP.i2d vb1) (FP.i2d vb2)) .l))]))
  by_cases c95_22 : vb1 < vb2
  · refine Goes.step (fun _ k => XS.ifYes X20.here hx rfl (pc0 := 95) (pc' := 101) rfl (hb hby d5_95) rfl ((if0 _ _).trans (tlt ((own_dlt _ _ _).mpr c95_22)).1) (by decide) (by decide) k) ?_
    show Goes _ _ _ _ _ _ _ (T20.setTop (mkF m 101 _ []))
    refine Goes.step (fun _ k => XS.aloadN X20.here hx rfl (hb hby d5_101) rfl rfl k) ?_
    obtain ⟨T23, X23, e23, st23⟩ := getF X20 hx hZ hown (host := "") (Or.inl w_14) Via.refl e20 f6 (g := (mkF m 102 #[.val (.ref x0), .val (.int va0), .val (.int va2), .val (.double (FP.i2d vb2)), .second, .val (.int (0 : Int32)), .val (.int (1 : Int32))] [(.ref x0)])) rfl rfl (hb hby d5_102)
    refine Goes.step st23 ?_
    show Goes _ _ _ _ _ _ _ (T23.setTop (mkF m 105 _ [(.ref nd)]))
    refine Goes.step (fun _ k => XS.iload X23.here hx rfl (hb hby d5_105) rfl  k) ?_
    refine Goes.step (fun _ k => XS.aloadN X23.here hx rfl (hb hby d5_107) rfl rfl k) ?_
    obtain ⟨T24, X24, e24, st24⟩ := getF X23 hx hZ hown (host := "") (Or.inl w_14) Via.refl e23 f6 (g := (mkF m 108 #[.val (.ref x0), .val (.int va0), .val (.int va2), .val (.double (FP.i2d vb2)), .second, .val (.int (0 : Int32)), .val (.int (1 : Int32))] [(.ref x0), (.int (0 : Int32)), (.ref nd)])) rfl rfl (hb hby d5_108)
    refine Goes.step st24 ?_
    show Goes _ _ _ _ _ _ _ (T24.setTop (mkF m 111 _ [(.ref nd), (.int (0 : Int32)), (.ref nd)]))
    refine Goes.step (fun _ k => XS.iload X24.here hx rfl (hb hby d5_111) rfl  k) ?_
    obtain ⟨cl25, Ar25, q25, S25, P25, H25, G25⟩ := id f9
    have hin25 : ¬ ((1 : Int32) < 0 ∨ cl25.slots.size ≤ ((1 : Int32)).toNatClampNeg) := inb_of S25 ⟨by decide, by decide⟩
    have hat25 : cl25.slots[((1 : Int32)).toNatClampNeg]? = some (.int va1) := H25 _ (by rw [S25]; decide)
    refine Goes.step (fun _ k => X24.iaload hx (j := (1 : Int32)) (v := (.int va1)) (by rw [e24]; exact Ar25.1) (State.isArrayOf_alike hZ.alike Ar25.2.1) Ar25.2.2 hin25 hat25 (g := (mkF m 113 #[.val (.ref x0), .val (.int va0), .val (.int va2), .val (.double (FP.i2d vb2)), .second, .val (.int (0 : Int32)), .val (.int (1 : Int32))] [(.int (1 : Int32)), (.ref nd), (.int (0 : Int32)), (.ref nd)])) rfl rfl (hb hby d5_113) _ k) ?_
    show Goes _ _ _ _ _ _ _ (T24.setTop (mkF m 114 #[.val (.ref x0), .val (.int va0), .val (.int va2), .val (.double (FP.i2d vb2)), .second, .val (.int (0 : Int32)), .val (.int (1 : Int32))] [(.int va1), (.int (0 : Int32)), (.ref nd)]))
    obtain ⟨cl26, Ar26, q26, S26, P26, H26, G26⟩ := id f9
    have hin26 : ¬ ((0 : Int32) < 0 ∨ cl26.slots.size ≤ ((0 : Int32)).toNatClampNeg) := inb_of S26 ⟨by decide, by decide⟩
    obtain ⟨T27, h27, X27, e27, W27, st27⟩ := stI X24 hx hZ e24 Ar26 (j := (0 : Int32)) hin26 (g := (mkF m 114 #[.val (.ref x0), .val (.int va0), .val (.int va2), .val (.double (FP.i2d vb2)), .second, .val (.int (0 : Int32)), .val (.int (1 : Int32))] [(.int va1), (.int (0 : Int32)), (.ref nd)])) rfl rfl (hb hby d5_114)
    refine Goes.step st27 ?_
    have V27 := Arv.set Ar26 q26 S26 P26 H26 G26 rfl W27 0 rfl (Nat.le_of_ble_eq_true rfl)
    have f28 := f5.other W27 (Or.inl ne1)
    have f29 := f6.other W27 (Or.inl ne1)
    have f30 := f7.other W27 (Or.inl ne1)
    have f31 := f8.wr W27
    have f32 := V27
    have f33 := f10.other W27 (Ne.symm ne3)
    have K34 : Keep h0 h27 [x0, nd, ky] := K11.wr W27 (Or.inl (List.mem_of_getElem? (i := 1) rfl))
    have Z34 : n0 ≤ h27.size := by rw [Wr.size W27]; exact Z11
    have N34 := Fr.snoc X27 N11 g_nd
    show Goes _ _ _ _ _ _ _ (T27.setTop (mkF m 115 _ []))
    refine Goes.step (fun _ k => XS.aloadN X27.here hx rfl (hb hby d5_115) rfl rfl k) ?_
    obtain ⟨T35, X35, e35, st35⟩ := getF X27 hx hZ hown (host := "") (Or.inl w_17) Via.refl e27 f30 (g := (mkF m 116 #[.val (.ref x0), .val (.int va0), .val (.int va2), .val (.double (FP.i2d vb2)), .second, .val (.int (0 : Int32)), .val (.int (1 : Int32))] [(.ref x0)])) rfl rfl (hb hby d5_116)
    refine Goes.step st35 ?_
    show Goes _ _ _ _ _ _ _ (T35.setTop (mkF m 119 _ [(.ref ky)]))
    refine Goes.step (fun _ k => XS.iload X35.here hx rfl (hb hby d5_119) rfl  k) ?_
    refine Goes.step (fun _ k => XS.aloadN X35.here hx rfl (hb hby d5_121) rfl rfl k) ?_
    obtain ⟨T36, X36, e36, st36⟩ := getF X35 hx hZ hown (host := "") (Or.inl w_17) Via.refl e35 f30 (g := (mkF m 122 #[.val (.ref x0), .val (.int va0), .val (.int va2), .val (.double (FP.i2d vb2)), .second, .val (.int (0 : Int32)), .val (.int (1 : Int32))] [(.ref x0), (.int (0 : Int32)), (.ref ky)])) rfl rfl (hb hby d5_122)
    refine Goes.step st36 ?_
    show Goes _ _ _ _ _ _ _ (T36.setTop (mkF m 125 _ [(.ref ky), (.int (0 : Int32)), (.ref ky)]))
    refine Goes.step (fun _ k => XS.iload X36.here hx rfl (hb hby d5_125) rfl  k) ?_
    obtain ⟨cl37, Ar37, q37, S37, P37, H37, G37⟩ := id f33
    have hin37 : ¬ ((1 : Int32) < 0 ∨ cl37.slots.size ≤ ((1 : Int32)).toNatClampNeg) := inb_of S37 ⟨by decide, by decide⟩
    have hat37 : cl37.slots[((1 : Int32)).toNatClampNeg]? = some (.double (FP.i2d vb1)) := H37 _ (by rw [S37]; decide)
    refine Goes.step (fun _ k => X36.daload hx (j := (1 : Int32)) (v := (.double (FP.i2d vb1))) (by rw [e36]; exact Ar37.1) (State.isArrayOf_alike hZ.alike Ar37.2.1) Ar37.2.2 hin37 hat37 (g := (mkF m 127 #[.val (.ref x0), .val (.int va0), .val (.int va2), .val (.double (FP.i2d vb2)), .second, .val (.int (0 : Int32)), .val (.int (1 : Int32))] [(.int (1 : Int32)), (.ref ky), (.int (0 : Int32)), (.ref ky)])) rfl rfl (hb hby d5_127) _ k) ?_
    show Goes _ _ _ _ _ _ _ (T36.setTop (mkF m 128 _ [(.double (FP.i2d vb1)), (.int (0 : Int32)), (.ref ky)]))
    obtain ⟨cl38, Ar38, q38, S38, P38, H38, G38⟩ := id f33
    have hin38 : ¬ ((0 : Int32) < 0 ∨ cl38.slots.size ≤ ((0 : Int32)).toNatClampNeg) := inb_of S38 ⟨by decide, by decide⟩
    obtain ⟨T39, h39, X39, e39, W39, st39⟩ := stD X36 hx hZ e36 Ar38 (j := (0 : Int32)) hin38 (g := (mkF m 128 #[.val (.ref x0), .val (.int va0), .val (.int va2), .val (.double (FP.i2d vb2)), .second, .val (.int (0 : Int32)), .val (.int (1 : Int32))] [(.double (FP.i2d vb1)), (.int (0 : Int32)), (.ref ky)])) rfl rfl (hb hby d5_128)
    refine Goes.step st39 ?_
    have V39 := Arv.set Ar38 q38 S38 P38 H38 G38 rfl W39 0 rfl (Nat.le_of_ble_eq_true rfl)
    have f40 := f28.other W39 (Or.inl ne2)
    have f41 := f29.other W39 (Or.inl ne2)
    have f42 := f30.other W39 (Or.inl ne2)
    have f43 := f31.wr W39
    have f44 := f32.other W39 ne3
    have f45 := V39
    have K46 : Keep h0 h39 [x0, nd, ky] := K34.wr W39 (Or.inl (List.mem_of_getElem? (i := 2) rfl))
    have Z46 : n0 ≤ h39.size := by rw [Wr.size W39]; exact Z34
    have N46 := Fr.snoc X39 N34 g_ky
    show Goes _ _ _ _ _ _ _ (T39.setTop (mkF m 129 _ []))
    refine Goes.step (fun _ k => XS.iload X39.here hx rfl (hb hby d5_129) rfl  k) ?_
    refine Goes.step (fun _ k => XS.istore X39.here hx rfl (hb hby d5_131) rfl (l' := #[.val (.ref x0), .val (.int va0), .val (.int va2), .val (.double (FP.i2d vb2)), .second, .val (.int (1 : Int32)), .val (.int (1 : Int32))]) rfl k) ?_
    show Goes _ _ _ _ _ _ _ (T39.setTop (mkF m 133 _ []))
    refine Goes.step (fun _ k => XS.iconst X39.here hx rfl (hb hby d5_133) k) ?_
    refine Goes.step (fun _ k => XS.iload X39.here hx rfl (hb hby d5_134) rfl  k) ?_
    refine Goes.step (fun _ k => XS.imul X39.here hx rfl (hb hby d5_136) rfl k) ?_
    show Goes _ _ _ _ _ _ _ (T39.setTop (mkF m 137 #[.val (.ref x0), .val (.int va0), .val (.int va2), .val (.double (FP.i2d vb2)), .second, .val (.int (1 : Int32)), .val (.int (1 : Int32))] [(.int (2 : Int32))]))
    refine Goes.step (fun _ k => XS.iconst X39.here hx rfl (hb hby d5_137) k) ?_
    refine Goes.step (fun _ k => XS.iadd X39.here hx rfl (hb hby d5_138) rfl k) ?_
    show Goes _ _ _ _ _ _ _ (T39.setTop (mkF m 139 _ [(.int (3 : Int32))]))
    refine Goes.step (fun _ k => XS.istore X39.here hx rfl (hb hby d5_139) rfl (l' := #[.val (.ref x0), .val (.int va0), .val (.int va2), .val (.double (FP.i2d vb2)), .second, .val (.int (1 : Int32)), .val (.int (3 : Int32))]) rfl k) ?_
    show Goes _ _ _ _ _ _ _ (T39.setTop (mkF m 141 _ []))
    refine Goes.step (fun _ k => XS.goto X39.here hx rfl (pc0 := 141) (pc' := 43) rfl (hb hby d5_141) (by decide) (by decide) k) ?_
    show Goes _ _ _ _ _ _ _ (T39.setTop (mkF m 43 _ []))
    refine Goes.step (fun _ k => XS.iload X39.here hx rfl (hb hby d5_43) rfl  k) ?_
    refine Goes.step (fun _ k => XS.aloadN X39.here hx rfl (hb hby d5_45) rfl rfl k) ?_
    obtain ⟨T47, X47, e47, st47⟩ := getF X39 hx hZ hown (host := "") (Or.inl w_24) Via.refl e39 f40 (g := (mkF m 46 #[.val (.ref x0), .val (.int va0), .val (.int va2), .val (.double (FP.i2d vb2)), .second, .val (.int (1 : Int32)), .val (.int (3 : Int32))] [(.ref x0), (.int (3 : Int32))])) rfl rfl (hb hby d5_46)
    refine Goes.step st47 ?_
    show Goes _ _ _ _ _ _ _ (T47.setTop (mkF m 49 _ [(.int (2 : Int32)), (.int (3 : Int32))]))
    refine Goes.step (fun _ k => XS.icmpYes X47.here hx rfl (pc0 := 49) (pc' := 144) rfl (hb hby d5_49) rfl (flt (by decide : ¬ ((3 : Int32) < (2 : Int32)))).2.1 (by decide) (by decide) k) ?_
    show Goes _ _ _ _ _ _ _ (T47.setTop (mkF m 144 _ []))
    refine Goes.step (fun _ k => XS.aloadN X47.here hx rfl (hb hby d5_144) rfl rfl k) ?_
    obtain ⟨T48, X48, e48, st48⟩ := getF X47 hx hZ hown (host := "") (Or.inl w_14) Via.refl e47 f41 (g := (mkF m 145 #[.val (.ref x0), .val (.int va0), .val (.int va2), .val (.double (FP.i2d vb2)), .second, .val (.int (1 : Int32)), .val (.int (3 : Int32))] [(.ref x0)])) rfl rfl (hb hby d5_145)
    refine Goes.step st48 ?_
    show Goes _ _ _ _ _ _ _ (T48.setTop (mkF m 148 _ [(.ref nd)]))
    refine Goes.step (fun _ k => XS.iload X48.here hx rfl (hb hby d5_148) rfl  k) ?_
    refine Goes.step (fun _ k => XS.iloadN X48.here hx rfl (hb hby d5_150) rfl  k) ?_
    obtain ⟨cl49, Ar49, q49, S49, P49, H49, G49⟩ := id f44
    have hin49 : ¬ ((1 : Int32) < 0 ∨ cl49.slots.size ≤ ((1 : Int32)).toNatClampNeg) := inb_of S49 ⟨by decide, by decide⟩
    obtain ⟨T50, h50, X50, e50, W50, st50⟩ := stI X48 hx hZ e48 Ar49 (j := (1 : Int32)) hin49 (g := (mkF m 151 #[.val (.ref x0), .val (.int va0), .val (.int va2), .val (.double (FP.i2d vb2)), .second, .val (.int (1 : Int32)), .val (.int (3 : Int32))] [(.int va2), (.int (1 : Int32)), (.ref nd)])) rfl rfl (hb hby d5_151)
    refine Goes.step st50 ?_
    have V50 := Arv.set Ar49 q49 S49 P49 H49 G49 rfl W50 1 rfl (Nat.le_of_ble_eq_true rfl)
    have f51 := f40.other W50 (Or.inl ne1)
    have f52 := f41.other W50 (Or.inl ne1)
    have f53 := f42.other W50 (Or.inl ne1)
    have f54 := f43.wr W50
    have f55 := V50
    have f56 := f45.other W50 (Ne.symm ne3)
    have K57 : Keep h0 h50 [x0, nd, ky] := K46.wr W50 (Or.inl (List.mem_of_getElem? (i := 1) rfl))
    have Z57 : n0 ≤ h50.size := by rw [Wr.size W50]; exact Z46
    have N57 := Fr.snoc X50 N46 g_nd
    show Goes _ _ _ _ _ _ _ (T50.setTop (mkF m 152 #[.val (.ref x0), .val (.int va0), .val (.int va2), .val (.double (FP.i2d vb2)), .second, .val (.int (1 : Int32)), .val (.int (3 : Int32))] []))
    refine Goes.step (fun _ k => XS.aloadN X50.here hx rfl (hb hby d5_152) rfl rfl k) ?_
    obtain ⟨T58, X58, e58, st58⟩ := getF X50 hx hZ hown (host := "") (Or.inl w_17) Via.refl e50 f53 (g := (mkF m 153 #[.val (.ref x0), .val (.int va0), .val (.int va2), .val (.double (FP.i2d vb2)), .second, .val (.int (1 : Int32)), .val (.int (3 : Int32))] [(.ref x0)])) rfl rfl (hb hby d5_153)
    refine Goes.step st58 ?_
    show Goes _ _ _ _ _ _ _ (T58.setTop (mkF m 156 _ [(.ref ky)]))
    refine Goes.step (fun _ k => XS.iload X58.here hx rfl (hb hby d5_156) rfl  k) ?_
    refine Goes.step (fun _ k => XS.dloadN X58.here hx rfl (hb hby d5_158) rfl k) ?_
    obtain ⟨cl59, Ar59, q59, S59, P59, H59, G59⟩ := id f56
    have hin59 : ¬ ((1 : Int32) < 0 ∨ cl59.slots.size ≤ ((1 : Int32)).toNatClampNeg) := inb_of S59 ⟨by decide, by decide⟩
    obtain ⟨T60, h60, X60, e60, W60, st60⟩ := stD X58 hx hZ e58 Ar59 (j := (1 : Int32)) hin59 (g := (mkF m 159 #[.val (.ref x0), .val (.int va0), .val (.int va2), .val (.double (FP.i2d vb2)), .second, .val (.int (1 : Int32)), .val (.int (3 : Int32))] [(.double (FP.i2d vb2)), (.int (1 : Int32)), (.ref ky)])) rfl rfl (hb hby d5_159)
    refine Goes.step st60 ?_
    have V60 := Arv.set Ar59 q59 S59 P59 H59 G59 rfl W60 1 rfl (Nat.le_of_ble_eq_true rfl)
    have f61 := f51.other W60 (Or.inl ne2)
    have f62 := f52.other W60 (Or.inl ne2)
    have f63 := f53.other W60 (Or.inl ne2)
    have f64 := f54.wr W60
    have f65 := f55.other W60 ne3
    have f66 := V60
    have K67 : Keep h0 h60 [x0, nd, ky] := K57.wr W60 (Or.inl (List.mem_of_getElem? (i := 2) rfl))
    have Z67 : n0 ≤ h60.size := by rw [Wr.size W60]; exact Z57
    have N67 := Fr.snoc X60 N57 g_ky
    show Goes _ _ _ _ _ _ _ (T60.setTop (mkF m 160 _ []))
    refine Goes.step (fun _ k => XS.iloadN X60.here hx rfl (hb hby d5_160) rfl  k) ?_
    have ph0 := own_l c95_22
    exact Goes.ret X60 hx (BodyLoose.notSynchronized Bd) Bd.returns rfl (Or.inl ⟨rfl, by simp, _, rfl⟩) (hb hby d5_161) (by show Q5_3 Z x0 nd ky kn kd va0 va1 va2 va3 va4 va5 vb0 vb1 vb2 vb3 vb4 vb5 h0 n0 (some (.int va0)) T60.heap _; rw [e60]; exact ⟨N67, K67, rfl, f61, f62, f63, va1, va2, va2, va3, va4, va5, vb1, vb2, vb2, vb3, vb4, vb5, f65, f66, (List.Perm.map (fun i => ([(va1, vb1), (va2, vb2)] : List (Int32 × Int32)).getD i (0, 0)) (by decide : ([0, 1] : List Nat).Perm [0, 1])), by omega, by omega⟩) (by decide) (by decide)
  · refine Goes.step (fun _ k => XS.ifNo X20.here hx rfl (hb hby d5_95) rfl ((if0 _ _).trans (flt (fun q => c95_22 ((own_dlt _ _ _).mp q))).1) k) ?_
    show Goes _ _ _ _ _ _ _ (T20.setTop (mkF m 98 _ []))
    refine Goes.step (fun _ k => XS.goto X20.here hx rfl (pc0 := 98) (pc' := 144) rfl (hb hby d5_98) (by decide) (by decide) k) ?_
    show Goes _ _ _ _ _ _ _ (T20.setTop (mkF m 144 _ []))
    refine Goes.step (fun _ k => XS.aloadN X20.here hx rfl (hb hby d5_144) rfl rfl k) ?_
    obtain ⟨T68, X68, e68, st68⟩ := getF X20 hx hZ hown (host := "") (Or.inl w_14) Via.refl e20 f6 (g := (mkF m 145 #[.val (.ref x0), .val (.int va0), .val (.int va2), .val (.double (FP.i2d vb2)), .second, .val (.int (0 : Int32)), .val (.int (1 : Int32))] [(.ref x0)])) rfl rfl (hb hby d5_145)
    refine Goes.step st68 ?_
    show Goes _ _ _ _ _ _ _ (T68.setTop (mkF m 148 _ [(.ref nd)]))
    refine Goes.step (fun _ k => XS.iload X68.here hx rfl (hb hby d5_148) rfl  k) ?_
    refine Goes.step (fun _ k => XS.iloadN X68.here hx rfl (hb hby d5_150) rfl  k) ?_
    obtain ⟨cl69, Ar69, q69, S69, P69, H69, G69⟩ := id f9
    have hin69 : ¬ ((0 : Int32) < 0 ∨ cl69.slots.size ≤ ((0 : Int32)).toNatClampNeg) := inb_of S69 ⟨by decide, by decide⟩
    obtain ⟨T70, h70, X70, e70, W70, st70⟩ := stI X68 hx hZ e68 Ar69 (j := (0 : Int32)) hin69 (g := (mkF m 151 #[.val (.ref x0), .val (.int va0), .val (.int va2), .val (.double (FP.i2d vb2)), .second, .val (.int (0 : Int32)), .val (.int (1 : Int32))] [(.int va2), (.int (0 : Int32)), (.ref nd)])) rfl rfl (hb hby d5_151)
    refine Goes.step st70 ?_
    have V70 := Arv.set Ar69 q69 S69 P69 H69 G69 rfl W70 0 rfl (Nat.le_of_ble_eq_true rfl)
    have f71 := f5.other W70 (Or.inl ne1)
    have f72 := f6.other W70 (Or.inl ne1)
    have f73 := f7.other W70 (Or.inl ne1)
    have f74 := f8.wr W70
    have f75 := V70
    have f76 := f10.other W70 (Ne.symm ne3)
    have K77 : Keep h0 h70 [x0, nd, ky] := K11.wr W70 (Or.inl (List.mem_of_getElem? (i := 1) rfl))
    have Z77 : n0 ≤ h70.size := by rw [Wr.size W70]; exact Z11
    have N77 := Fr.snoc X70 N11 g_nd
    show Goes _ _ _ _ _ _ _ (T70.setTop (mkF m 152 #[.val (.ref x0), .val (.int va0), .val (.int va2), .val (.double (FP.i2d vb2)), .second, .val (.int (0 : Int32)), .val (.int (1 : Int32))] []))
    refine Goes.step (fun _ k => XS.aloadN X70.here hx rfl (hb hby d5_152) rfl rfl k) ?_
    obtain ⟨T78, X78, e78, st78⟩ := getF X70 hx hZ hown (host := "") (Or.inl w_17) Via.refl e70 f73 (g := (mkF m 153 #[.val (.ref x0), .val (.int va0), .val (.int va2), .val (.double (FP.i2d vb2)), .second, .val (.int (0 : Int32)), .val (.int (1 : Int32))] [(.ref x0)])) rfl rfl (hb hby d5_153)
    refine Goes.step st78 ?_
    show Goes _ _ _ _ _ _ _ (T78.setTop (mkF m 156 _ [(.ref ky)]))
    refine Goes.step (fun _ k => XS.iload X78.here hx rfl (hb hby d5_156) rfl  k) ?_
    refine Goes.step (fun _ k => XS.dloadN X78.here hx rfl (hb hby d5_158) rfl k) ?_
    obtain ⟨cl79, Ar79, q79, S79, P79, H79, G79⟩ := id f76
    have hin79 : ¬ ((0 : Int32) < 0 ∨ cl79.slots.size ≤ ((0 : Int32)).toNatClampNeg) := inb_of S79 ⟨by decide, by decide⟩
    obtain ⟨T80, h80, X80, e80, W80, st80⟩ := stD X78 hx hZ e78 Ar79 (j := (0 : Int32)) hin79 (g := (mkF m 159 #[.val (.ref x0), .val (.int va0), .val (.int va2), .val (.double (FP.i2d vb2)), .second, .val (.int (0 : Int32)), .val (.int (1 : Int32))] [(.double (FP.i2d vb2)), (.int (0 : Int32)), (.ref ky)])) rfl rfl (hb hby d5_159)
    refine Goes.step st80 ?_
    have V80 := Arv.set Ar79 q79 S79 P79 H79 G79 rfl W80 0 rfl (Nat.le_of_ble_eq_true rfl)
    have f81 := f71.other W80 (Or.inl ne2)
    have f82 := f72.other W80 (Or.inl ne2)
    have f83 := f73.other W80 (Or.inl ne2)
    have f84 := f74.wr W80
    have f85 := f75.other W80 ne3
    have f86 := V80
    have K87 : Keep h0 h80 [x0, nd, ky] := K77.wr W80 (Or.inl (List.mem_of_getElem? (i := 2) rfl))
    have Z87 : n0 ≤ h80.size := by rw [Wr.size W80]; exact Z77
    have N87 := Fr.snoc X80 N77 g_ky
    show Goes _ _ _ _ _ _ _ (T80.setTop (mkF m 160 _ []))
    refine Goes.step (fun _ k => XS.iloadN X80.here hx rfl (hb hby d5_160) rfl  k) ?_
    have ph0 := own_nl c95_22
    exact Goes.ret X80 hx (BodyLoose.notSynchronized Bd) Bd.returns rfl (Or.inl ⟨rfl, by simp, _, rfl⟩) (hb hby d5_161) (by show Q5_3 Z x0 nd ky kn kd va0 va1 va2 va3 va4 va5 vb0 vb1 vb2 vb3 vb4 vb5 h0 n0 (some (.int va0)) T80.heap _; rw [e80]; exact ⟨N87, K87, rfl, f81, f82, f83, va2, va1, va2, va3, va4, va5, vb2, vb1, vb2, vb3, vb4, vb5, f85, f86, (List.Perm.map (fun i => ([(va1, vb1), (va2, vb2)] : List (Int32 × Int32)).getD i (0, 0)) (by decide : ([1, 0] : List Nat).Perm [0, 1])), by omega, by omega⟩) (by decide) (by decide)
theorem ef_5_2 (m : MethodId) (x0 : Addr) (nd : Addr) (ky : Addr) (kn : ClassId) (kd : ClassId) (va0 : Int32) (va1 : Int32) (va2 : Int32) (va3 : Int32) (va4 : Int32) (va5 : Int32) (vb0 : Int32) (vb1 : Int32) (vb2 : Int32) (vb3 : Int32) (vb4 : Int32) (vb5 : Int32)  : entryFrame m #[(.ref x0)] 7 = mkF m 0 #[.val (.ref x0), .unset, .unset, .unset, .unset, .unset, .unset] [] := by first | (simp [entryFrame, mkF, argsToLocals, Value.category]; done) | rfl
def Q5_2 (Z : State) (x0 : Addr) (nd : Addr) (ky : Addr) (kn : ClassId) (kd : ClassId) (va0 : Int32) (va1 : Int32) (va2 : Int32) (va3 : Int32) (va4 : Int32) (va5 : Int32) (vb0 : Int32) (vb1 : Int32) (vb2 : Int32) (vb3 : Int32) (vb4 : Int32) (vb5 : Int32) (h0 : Heap) (n0 : Nat) (v : Option Value) (h : Heap) (L : List Loc) : Prop := Fr n0 L ∧ Keep h0 h [x0, nd, ky] ∧ v = some (.int va0) ∧ Fld Z h x0 "com/example/hailwise/hailwise/NodeQueue" "size" "I" (.int (1 : Int32)) ∧ Fld Z h x0 "com/example/hailwise/hailwise/NodeQueue" "nodes" "[I" (.ref nd) ∧ Fld Z h x0 "com/example/hailwise/hailwise/NodeQueue" "keys" "[D" (.ref ky) ∧ ∃ p0 p1 p2 p3 p4 p5 q0 q1 q2 q3 q4 q5 : Int32, Arv Z h nd kn .int (64 : Int32) [(.int p0), (.int p1), (.int p2), (.int p3), (.int p4), (.int p5)] (.int (0 : Int32)) ∧ Arv Z h ky kd .double (64 : Int32) [(.double (FP.i2d q0)), (.double (FP.i2d q1)), (.double (FP.i2d q2)), (.double (FP.i2d q3)), (.double (FP.i2d q4)), (.double (FP.i2d q5))] (.double (0 : UInt64)) ∧ ([(p0, q0)] : List (Int32 × Int32)).Perm ([(va1, vb1)] : List (Int32 × Int32)) ∧ vb0.toInt ≤ q0.toInt
set_option maxRecDepth 65536 in
set_option maxHeartbeats 40000000 in
theorem rm5_2 (l : Launch) (Z : State) (a0 : Array Value) (hw : ∀ d ∈ tables_1, d.before a0 Z = true) (ws : List Jvm.Cond) (x0 : Addr) (nd : Addr) (ky : Addr) (kn : ClassId) (kd : ClassId) (va0 : Int32) (va1 : Int32) (va2 : Int32) (va3 : Int32) (va4 : Int32) (va5 : Int32) (vb0 : Int32) (vb1 : Int32) (vb2 : Int32) (vb3 : Int32) (vb4 : Int32) (vb5 : Int32) (h0 : Heap) (n0 : Nat) (Z0 : n0 ≤ h0.size) (F_size : Fld Z h0 x0 "com/example/hailwise/hailwise/NodeQueue" "size" "I" (.int (2 : Int32))) (F_nd : Fld Z h0 x0 "com/example/hailwise/hailwise/NodeQueue" "nodes" "[I" (.ref nd)) (F_ky : Fld Z h0 x0 "com/example/hailwise/hailwise/NodeQueue" "keys" "[D" (.ref ky)) (E_x0 : Exa Z h0 x0 "com/example/hailwise/hailwise/NodeQueue") (V_nd : Arv Z h0 nd kn .int (64 : Int32) [(.int va0), (.int va1), (.int va2), (.int va3), (.int va4), (.int va5)] (.int (0 : Int32))) (V_ky : Arv Z h0 ky kd .double (64 : Int32) [(.double (FP.i2d vb0)), (.double (FP.i2d vb1)), (.double (FP.i2d vb2)), (.double (FP.i2d vb3)), (.double (FP.i2d vb4)), (.double (FP.i2d vb5))] (.double (0 : UInt64))) (g_x0 : n0 ≤ x0) (g_nd : n0 ≤ nd) (g_ky : n0 ≤ ky) (ne1 : x0 ≠ nd) (ne2 : x0 ≠ ky) (ne3 : nd ≠ ky) (ho01 : vb0.toInt ≤ vb1.toInt) :
    MetFree l (⟨"com/example/hailwise/hailwise/NodeQueue", "poll", "()I"⟩ : MethodName) (head1 (Jvm.Cond.code (⟨"com/example/hailwise/hailwise/NodeQueue", "poll", "()I"⟩ : MethodName) prog_21_method_6_code 7 (some .int) :: ws) ({ frames := 0, cells := 0, slots := 0, locals := 0 } : Room)) (fun a U => a = #[(.ref x0)] ∧ Z.Warmed39 U.vm ∧ U.heap = h0) (fun _ _ _ _ _ => True) (fun _ U o U' => ∃ v L, o = .returned v ∧ Q5_2 Z x0 nd ky kn kd va0 va1 va2 va3 va4 va5 vb0 vb1 vb2 vb3 vb4 vb5 h0 n0 v U'.heap L ∧ FrameEnd U o U' L ({ frames := 0, cells := 0, slots := 0, locals := 0 } : Room).cells ({ frames := 0, cells := 0, slots := 0, locals := 0 } : Room).slots) := by
  refine MetFree.of_bodySF (plainFor_of_name pn_5) hisR ?_
  intro p e s m args below meth c s₁ Bd hml0 hP hK
  obtain ⟨rfl, hZ, hh⟩ := hP
  have w_6 := hw _ (List.mem_of_getElem? (i := 6) rfl)
  have w_14 := hw _ (List.mem_of_getElem? (i := 14) rfl)
  have w_15 := hw _ (List.mem_of_getElem? (i := 15) rfl)
  have w_17 := hw _ (List.mem_of_getElem? (i := 17) rfl)
  have w_18 := hw _ (List.mem_of_getElem? (i := 18) rfl)
  have w_24 := hw _ (List.mem_of_getElem? (i := 24) rfl)
  have w_25 := hw _ (List.mem_of_getElem? (i := 25) rfl)
  have hx := Bd.exec
  have hby := Bd.bytes
  have hml : c.maxLocals = 7 := hml0
  have hown : s.vm.findClass "com/example/hailwise/hailwise/NodeQueue" = some m.cls := findClass_of_methodNamed Bd.named
  have hnm := (name_of_methodNamed Bd.named Bd.method).1
  have X0 : Stand p l e ({ frames := 0, cells := 0, slots := 0, locals := 0 } : Room) s m #[(.ref x0)] below meth c s₁ [] 0 0 := Stand.of_body Bd
  have e0 : s₁.heap = h0 := by rw [← hh, Bd.state]; rfl
  have N0 := Fr.nil n0
  have K0 : Keep h0 h0 [x0, nd, ky] := Keep.refl h0 _
  refine (?_ : Goes p e below s ({ frames := 0, cells := 0, slots := 0, locals := 0 } : Room).cells ({ frames := 0, cells := 0, slots := 0, locals := 0 } : Room).slots (fun v h L => Q5_2 Z x0 nd ky kn kd va0 va1 va2 va3 va4 va5 vb0 vb1 vb2 vb3 vb4 vb5 h0 n0 v h L) (s₁.setTop (entryFrame m #[(.ref x0)] 7)))
  rw [ef_5_2 m x0 nd ky kn kd va0 va1 va2 va3 va4 va5 vb0 vb1 vb2 vb3 vb4 vb5 ]
  show Goes _ _ _ _ _ _ _ (s₁.setTop (mkF m 0 #[.val (.ref x0), .unset, .unset, .unset, .unset, .unset, .unset] []))
  refine Goes.step (fun _ k => XS.aloadN X0.here hx rfl (hb hby d5_0) rfl rfl k) ?_
  obtain ⟨T1, X1, e1, st1⟩ := getF X0 hx hZ hown (host := "") (Or.inl w_14) Via.refl e0 F_nd (g := (mkF m 1 #[.val (.ref x0), .unset, .unset, .unset, .unset, .unset, .unset] [(.ref x0)])) rfl rfl (hb hby d5_1)
  refine Goes.step st1 ?_
  show Goes _ _ _ _ _ _ _ (T1.setTop (mkF m 4 _ [(.ref nd)]))
  refine Goes.step (fun _ k => XS.iconst X1.here hx rfl (hb hby d5_4) k) ?_
  obtain ⟨cl2, Ar2, q2, S2, P2, H2, G2⟩ := id V_nd
  have hin2 : ¬ ((0 : Int32) < 0 ∨ cl2.slots.size ≤ ((0 : Int32)).toNatClampNeg) := inb_of S2 ⟨by decide, by decide⟩
  have hat2 : cl2.slots[((0 : Int32)).toNatClampNeg]? = some (.int va0) := H2 _ (by rw [S2]; decide)
  refine Goes.step (fun _ k => X1.iaload hx (j := (0 : Int32)) (v := (.int va0)) (by rw [e1]; exact Ar2.1) (State.isArrayOf_alike hZ.alike Ar2.2.1) Ar2.2.2 hin2 hat2 (g := (mkF m 5 #[.val (.ref x0), .unset, .unset, .unset, .unset, .unset, .unset] [(.int (0 : Int32)), (.ref nd)])) rfl rfl (hb hby d5_5) _ k) ?_
  show Goes _ _ _ _ _ _ _ (T1.setTop (mkF m 6 _ [(.int va0)]))
  refine Goes.step (fun _ k => XS.istoreN X1.here hx rfl (hb hby d5_6) rfl (l' := #[.val (.ref x0), .val (.int va0), .unset, .unset, .unset, .unset, .unset]) rfl k) ?_
  show Goes _ _ _ _ _ _ _ (T1.setTop (mkF m 7 _ []))
  refine Goes.step (fun _ k => XS.aloadN X1.here hx rfl (hb hby d5_7) rfl rfl k) ?_
  refine Goes.step (fun _ k => XS.dup X1.here hx rfl (hb hby d5_8) rfl rfl k) ?_
  obtain ⟨T3, X3, e3, st3⟩ := getF X1 hx hZ hown (host := "") (Or.inl w_24) Via.refl e1 F_size (g := (mkF m 9 #[.val (.ref x0), .val (.int va0), .unset, .unset, .unset, .unset, .unset] [(.ref x0), (.ref x0)])) rfl rfl (hb hby d5_9)
  refine Goes.step st3 ?_
  show Goes _ _ _ _ _ _ _ (T3.setTop (mkF m 12 _ [(.int (2 : Int32)), (.ref x0)]))
  refine Goes.step (fun _ k => XS.iconst X3.here hx rfl (hb hby d5_12) k) ?_
  refine Goes.step (fun _ k => XS.isub X3.here hx rfl (hb hby d5_13) rfl k) ?_
  show Goes _ _ _ _ _ _ _ (T3.setTop (mkF m 14 _ [(.int (1 : Int32)), (.ref x0)]))
  obtain ⟨T4, h4, X4, e4, W4, st4⟩ := putF X3 hx hZ hown (host := "") (Or.inl w_24) Via.refl e3 F_size E_x0 (Or.inl w_25) w_6 (ty := .int) (by decide) rfl rfl (g := (mkF m 14 #[.val (.ref x0), .val (.int va0), .unset, .unset, .unset, .unset, .unset] [(.int (1 : Int32)), (.ref x0)])) rfl rfl (hb hby d5_14)
  refine Goes.step st4 ?_
  have f5 := F_size.same W4
  have f6 := F_nd.other W4 (Or.inr (slot_ne (Or.inl w_15) (Or.inl w_25) (by decide) (t := (.array .int)) (t' := .int) (by decide) (by decide)))
  have f7 := F_ky.other W4 (Or.inr (slot_ne (Or.inl w_18) (Or.inl w_25) (by decide) (t := (.array .double)) (t' := .int) (by decide) (by decide)))
  have f8 := E_x0.wr W4
  have f9 := V_nd.other W4 (Ne.symm ne1)
  have f10 := V_ky.other W4 (Ne.symm ne2)
  have K11 : Keep h0 h4 [x0, nd, ky] := K0.wr W4 (Or.inl (List.mem_of_getElem? (i := 0) rfl))
  have Z11 : n0 ≤ h4.size := by rw [Wr.size W4]; exact Z0
  have N11 := Fr.snoc X4 N0 g_x0
  show Goes _ _ _ _ _ _ _ (T4.setTop (mkF m 17 _ []))
  refine Goes.step (fun _ k => XS.aloadN X4.here hx rfl (hb hby d5_17) rfl rfl k) ?_
  obtain ⟨T12, X12, e12, st12⟩ := getF X4 hx hZ hown (host := "") (Or.inl w_14) Via.refl e4 f6 (g := (mkF m 18 #[.val (.ref x0), .val (.int va0), .unset, .unset, .unset, .unset, .unset] [(.ref x0)])) rfl rfl (hb hby d5_18)
  refine Goes.step st12 ?_
  show Goes _ _ _ _ _ _ _ (T12.setTop (mkF m 21 #[.val (.ref x0), .val (.int va0), .unset, .unset, .unset, .unset, .unset] [(.ref nd)]))
  refine Goes.step (fun _ k => XS.aloadN X12.here hx rfl (hb hby d5_21) rfl rfl k) ?_
  obtain ⟨T13, X13, e13, st13⟩ := getF X12 hx hZ hown (host := "") (Or.inl w_24) Via.refl e12 f5 (g := (mkF m 22 #[.val (.ref x0), .val (.int va0), .unset, .unset, .unset, .unset, .unset] [(.ref x0), (.ref nd)])) rfl rfl (hb hby d5_22)
  refine Goes.step st13 ?_
  show Goes _ _ _ _ _ _ _ (T13.setTop (mkF m 25 _ [(.int (1 : Int32)), (.ref nd)]))
  obtain ⟨cl14, Ar14, q14, S14, P14, H14, G14⟩ := id f9
  have hin14 : ¬ ((1 : Int32) < 0 ∨ cl14.slots.size ≤ ((1 : Int32)).toNatClampNeg) := inb_of S14 ⟨by decide, by decide⟩
  have hat14 : cl14.slots[((1 : Int32)).toNatClampNeg]? = some (.int va1) := H14 _ (by rw [S14]; decide)
  refine Goes.step (fun _ k => X13.iaload hx (j := (1 : Int32)) (v := (.int va1)) (by rw [e13]; exact Ar14.1) (State.isArrayOf_alike hZ.alike Ar14.2.1) Ar14.2.2 hin14 hat14 (g := (mkF m 25 #[.val (.ref x0), .val (.int va0), .unset, .unset, .unset, .unset, .unset] [(.int (1 : Int32)), (.ref nd)])) rfl rfl (hb hby d5_25) _ k) ?_
  show Goes _ _ _ _ _ _ _ (T13.setTop (mkF m 26 _ [(.int va1)]))
  refine Goes.step (fun _ k => XS.istoreN X13.here hx rfl (hb hby d5_26) rfl (l' := #[.val (.ref x0), .val (.int va0), .val (.int va1), .unset, .unset, .unset, .unset]) rfl k) ?_
  show Goes _ _ _ _ _ _ _ (T13.setTop (mkF m 27 _ []))
  refine Goes.step (fun _ k => XS.aloadN X13.here hx rfl (hb hby d5_27) rfl rfl k) ?_
  obtain ⟨T15, X15, e15, st15⟩ := getF X13 hx hZ hown (host := "") (Or.inl w_17) Via.refl e13 f7 (g := (mkF m 28 #[.val (.ref x0), .val (.int va0), .val (.int va1), .unset, .unset, .unset, .unset] [(.ref x0)])) rfl rfl (hb hby d5_28)
  refine Goes.step st15 ?_
  show Goes _ _ _ _ _ _ _ (T15.setTop (mkF m 31 _ [(.ref ky)]))
  refine Goes.step (fun _ k => XS.aloadN X15.here hx rfl (hb hby d5_31) rfl rfl k) ?_
  obtain ⟨T16, X16, e16, st16⟩ := getF X15 hx hZ hown (host := "") (Or.inl w_24) Via.refl e15 f5 (g := (mkF m 32 #[.val (.ref x0), .val (.int va0), .val (.int va1), .unset, .unset, .unset, .unset] [(.ref x0), (.ref ky)])) rfl rfl (hb hby d5_32)
  refine Goes.step st16 ?_
  show Goes _ _ _ _ _ _ _ (T16.setTop (mkF m 35 _ [(.int (1 : Int32)), (.ref ky)]))
  obtain ⟨cl17, Ar17, q17, S17, P17, H17, G17⟩ := id f10
  have hin17 : ¬ ((1 : Int32) < 0 ∨ cl17.slots.size ≤ ((1 : Int32)).toNatClampNeg) := inb_of S17 ⟨by decide, by decide⟩
  have hat17 : cl17.slots[((1 : Int32)).toNatClampNeg]? = some (.double (FP.i2d vb1)) := H17 _ (by rw [S17]; decide)
  refine Goes.step (fun _ k => X16.daload hx (j := (1 : Int32)) (v := (.double (FP.i2d vb1))) (by rw [e16]; exact Ar17.1) (State.isArrayOf_alike hZ.alike Ar17.2.1) Ar17.2.2 hin17 hat17 (g := (mkF m 35 #[.val (.ref x0), .val (.int va0), .val (.int va1), .unset, .unset, .unset, .unset] [(.int (1 : Int32)), (.ref ky)])) rfl rfl (hb hby d5_35) _ k) ?_
  show Goes _ _ _ _ _ _ _ (T16.setTop (mkF m 36 _ [(.double (FP.i2d vb1))]))
  refine Goes.step (fun _ k => XS.dstoreN X16.here hx rfl (hb hby d5_36) rfl (l' := #[.val (.ref x0), .val (.int va0), .val (.int va1), .val (.double (FP.i2d vb1)), .second, .unset, .unset]) rfl k) ?_
  show Goes _ _ _ _ _ _ _ (T16.setTop (mkF m 37 #[.val (.ref x0), .val (.int va0), .val (.int va1), .val (.double (FP.i2d vb1)), .second, .unset, .unset] []))
  refine Goes.step (fun _ k => XS.iconst X16.here hx rfl (hb hby d5_37) k) ?_
  refine Goes.step (fun _ k => XS.istore X16.here hx rfl (hb hby d5_38) rfl (l' := #[.val (.ref x0), .val (.int va0), .val (.int va1), .val (.double (FP.i2d vb1)), .second, .val (.int (0 : Int32)), .unset]) rfl k) ?_
  show Goes _ _ _ _ _ _ _ (T16.setTop (mkF m 40 _ []))
  refine Goes.step (fun _ k => XS.iconst X16.here hx rfl (hb hby d5_40) k) ?_
  refine Goes.step (fun _ k => XS.istore X16.here hx rfl (hb hby d5_41) rfl (l' := #[.val (.ref x0), .val (.int va0), .val (.int va1), .val (.double (FP.i2d vb1)), .second, .val (.int (0 : Int32)), .val (.int (1 : Int32))]) rfl k) ?_
  show Goes _ _ _ _ _ _ _ (T16.setTop (mkF m 43 _ []))
  refine Goes.step (fun _ k => XS.iload X16.here hx rfl (hb hby d5_43) rfl  k) ?_
  refine Goes.step (fun _ k => XS.aloadN X16.here hx rfl (hb hby d5_45) rfl rfl k) ?_
  obtain ⟨T18, X18, e18, st18⟩ := getF X16 hx hZ hown (host := "") (Or.inl w_24) Via.refl e16 f5 (g := (mkF m 46 #[.val (.ref x0), .val (.int va0), .val (.int va1), .val (.double (FP.i2d vb1)), .second, .val (.int (0 : Int32)), .val (.int (1 : Int32))] [(.ref x0), (.int (1 : Int32))])) rfl rfl (hb hby d5_46)
  refine Goes.step st18 ?_
  show Goes _ _ _ _ _ _ _ (T18.setTop (mkF m 49 _ [(.int (1 : Int32)), (.int (1 : Int32))]))
  refine Goes.step (fun _ k => XS.icmpYes X18.here hx rfl (pc0 := 49) (pc' := 144) rfl (hb hby d5_49) rfl (flt (by decide : ¬ ((1 : Int32) < (1 : Int32)))).2.1 (by decide) (by decide) k) ?_
  show Goes _ _ _ _ _ _ _ (T18.setTop (mkF m 144 _ []))
  refine Goes.step (fun _ k => XS.aloadN X18.here hx rfl (hb hby d5_144) rfl rfl k) ?_
  obtain ⟨T19, X19, e19, st19⟩ := getF X18 hx hZ hown (host := "") (Or.inl w_14) Via.refl e18 f6 (g := (mkF m 145 #[.val (.ref x0), .val (.int va0), .val (.int va1), .val (.double (FP.i2d vb1)), .second, .val (.int (0 : Int32)), .val (.int (1 : Int32))] [(.ref x0)])) rfl rfl (hb hby d5_145)
  refine Goes.step st19 ?_
  show Goes _ _ _ _ _ _ _ (T19.setTop (mkF m 148 _ [(.ref nd)]))
  refine Goes.step (fun _ k => XS.iload X19.here hx rfl (hb hby d5_148) rfl  k) ?_
  refine Goes.step (fun _ k => XS.iloadN X19.here hx rfl (hb hby d5_150) rfl  k) ?_
  obtain ⟨cl20, Ar20, q20, S20, P20, H20, G20⟩ := id f9
  have hin20 : ¬ ((0 : Int32) < 0 ∨ cl20.slots.size ≤ ((0 : Int32)).toNatClampNeg) := inb_of S20 ⟨by decide, by decide⟩
  obtain ⟨T21, h21, X21, e21, W21, st21⟩ := stI X19 hx hZ e19 Ar20 (j := (0 : Int32)) hin20 (g := (mkF m 151 #[.val (.ref x0), .val (.int va0), .val (.int va1), .val (.double (FP.i2d vb1)), .second, .val (.int (0 : Int32)), .val (.int (1 : Int32))] [(.int va1), (.int (0 : Int32)), (.ref nd)])) rfl rfl (hb hby d5_151)
  refine Goes.step st21 ?_
  have V21 := Arv.set Ar20 q20 S20 P20 H20 G20 rfl W21 0 rfl (Nat.le_of_ble_eq_true rfl)
  have f22 := f5.other W21 (Or.inl ne1)
  have f23 := f6.other W21 (Or.inl ne1)
  have f24 := f7.other W21 (Or.inl ne1)
  have f25 := f8.wr W21
  have f26 := V21
  have f27 := f10.other W21 (Ne.symm ne3)
  have K28 : Keep h0 h21 [x0, nd, ky] := K11.wr W21 (Or.inl (List.mem_of_getElem? (i := 1) rfl))
  have Z28 : n0 ≤ h21.size := by rw [Wr.size W21]; exact Z11
  have N28 := Fr.snoc X21 N11 g_nd
  show Goes _ _ _ _ _ _ _ (T21.setTop (mkF m 152 _ []))
  refine Goes.step (fun _ k => XS.aloadN X21.here hx rfl (hb hby d5_152) rfl rfl k) ?_
  obtain ⟨T29, X29, e29, st29⟩ := getF X21 hx hZ hown (host := "") (Or.inl w_17) Via.refl e21 f24 (g := (mkF m 153 #[.val (.ref x0), .val (.int va0), .val (.int va1), .val (.double (FP.i2d vb1)), .second, .val (.int (0 : Int32)), .val (.int (1 : Int32))] [(.ref x0)])) rfl rfl (hb hby d5_153)
  refine Goes.step st29 ?_
  show Goes _ _ _ _ _ _ _ (T29.setTop (mkF m 156 #[.val (.ref x0), .val (.int va0), .val (.int va1), .val (.double (FP.i2d vb1)), .second, .val (.int (0 : Int32)), .val (.int (1 : Int32))] [(.ref ky)]))
  refine Goes.step (fun _ k => XS.iload X29.here hx rfl (hb hby d5_156) rfl  k) ?_
  refine Goes.step (fun _ k => XS.dloadN X29.here hx rfl (hb hby d5_158) rfl k) ?_
  obtain ⟨cl30, Ar30, q30, S30, P30, H30, G30⟩ := id f27
  have hin30 : ¬ ((0 : Int32) < 0 ∨ cl30.slots.size ≤ ((0 : Int32)).toNatClampNeg) := inb_of S30 ⟨by decide, by decide⟩
  obtain ⟨T31, h31, X31, e31, W31, st31⟩ := stD X29 hx hZ e29 Ar30 (j := (0 : Int32)) hin30 (g := (mkF m 159 #[.val (.ref x0), .val (.int va0), .val (.int va1), .val (.double (FP.i2d vb1)), .second, .val (.int (0 : Int32)), .val (.int (1 : Int32))] [(.double (FP.i2d vb1)), (.int (0 : Int32)), (.ref ky)])) rfl rfl (hb hby d5_159)
  refine Goes.step st31 ?_
  have V31 := Arv.set Ar30 q30 S30 P30 H30 G30 rfl W31 0 rfl (Nat.le_of_ble_eq_true rfl)
  have f32 := f22.other W31 (Or.inl ne2)
  have f33 := f23.other W31 (Or.inl ne2)
  have f34 := f24.other W31 (Or.inl ne2)
  have f35 := f25.wr W31
  have f36 := f26.other W31 ne3
  have f37 := V31
  have K38 : Keep h0 h31 [x0, nd, ky] := K28.wr W31 (Or.inl (List.mem_of_getElem? (i := 2) rfl))
  have Z38 : n0 ≤ h31.size := by rw [Wr.size W31]; exact Z28
  have N38 := Fr.snoc X31 N28 g_ky
  show Goes _ _ _ _ _ _ _ (T31.setTop (mkF m 160 _ []))
  refine Goes.step (fun _ k => XS.iloadN X31.here hx rfl (hb hby d5_160) rfl  k) ?_
  exact Goes.ret X31 hx (BodyLoose.notSynchronized Bd) Bd.returns rfl (Or.inl ⟨rfl, by simp, _, rfl⟩) (hb hby d5_161) (by show Q5_2 Z x0 nd ky kn kd va0 va1 va2 va3 va4 va5 vb0 vb1 vb2 vb3 vb4 vb5 h0 n0 (some (.int va0)) T31.heap _; rw [e31]; exact ⟨N38, K38, rfl, f32, f33, f34, va1, va1, va2, va3, va4, va5, vb1, vb1, vb2, vb3, vb4, vb5, f36, f37, (List.Perm.map (fun i => ([(va1, vb1)] : List (Int32 × Int32)).getD i (0, 0)) (by decide : ([0] : List Nat).Perm [0])), by omega⟩) (by decide) (by decide)
theorem ef_5_1 (m : MethodId) (x0 : Addr) (nd : Addr) (ky : Addr) (kn : ClassId) (kd : ClassId) (va0 : Int32) (va1 : Int32) (va2 : Int32) (va3 : Int32) (va4 : Int32) (va5 : Int32) (vb0 : Int32) (vb1 : Int32) (vb2 : Int32) (vb3 : Int32) (vb4 : Int32) (vb5 : Int32)  : entryFrame m #[(.ref x0)] 7 = mkF m 0 #[.val (.ref x0), .unset, .unset, .unset, .unset, .unset, .unset] [] := by first | (simp [entryFrame, mkF, argsToLocals, Value.category]; done) | rfl
def Q5_1 (Z : State) (x0 : Addr) (nd : Addr) (ky : Addr) (kn : ClassId) (kd : ClassId) (va0 : Int32) (va1 : Int32) (va2 : Int32) (va3 : Int32) (va4 : Int32) (va5 : Int32) (vb0 : Int32) (vb1 : Int32) (vb2 : Int32) (vb3 : Int32) (vb4 : Int32) (vb5 : Int32) (h0 : Heap) (n0 : Nat) (v : Option Value) (h : Heap) (L : List Loc) : Prop := Fr n0 L ∧ Keep h0 h [x0, nd, ky] ∧ v = some (.int va0) ∧ Fld Z h x0 "com/example/hailwise/hailwise/NodeQueue" "size" "I" (.int (0 : Int32)) ∧ Fld Z h x0 "com/example/hailwise/hailwise/NodeQueue" "nodes" "[I" (.ref nd) ∧ Fld Z h x0 "com/example/hailwise/hailwise/NodeQueue" "keys" "[D" (.ref ky) ∧ ∃ p0 p1 p2 p3 p4 p5 q0 q1 q2 q3 q4 q5 : Int32, Arv Z h nd kn .int (64 : Int32) [(.int p0), (.int p1), (.int p2), (.int p3), (.int p4), (.int p5)] (.int (0 : Int32)) ∧ Arv Z h ky kd .double (64 : Int32) [(.double (FP.i2d q0)), (.double (FP.i2d q1)), (.double (FP.i2d q2)), (.double (FP.i2d q3)), (.double (FP.i2d q4)), (.double (FP.i2d q5))] (.double (0 : UInt64)) ∧ ([] : List (Int32 × Int32)).Perm ([] : List (Int32 × Int32))
set_option maxRecDepth 65536 in
set_option maxHeartbeats 40000000 in
theorem rm5_1 (l : Launch) (Z : State) (a0 : Array Value) (hw : ∀ d ∈ tables_1, d.before a0 Z = true) (ws : List Jvm.Cond) (x0 : Addr) (nd : Addr) (ky : Addr) (kn : ClassId) (kd : ClassId) (va0 : Int32) (va1 : Int32) (va2 : Int32) (va3 : Int32) (va4 : Int32) (va5 : Int32) (vb0 : Int32) (vb1 : Int32) (vb2 : Int32) (vb3 : Int32) (vb4 : Int32) (vb5 : Int32) (h0 : Heap) (n0 : Nat) (Z0 : n0 ≤ h0.size) (F_size : Fld Z h0 x0 "com/example/hailwise/hailwise/NodeQueue" "size" "I" (.int (1 : Int32))) (F_nd : Fld Z h0 x0 "com/example/hailwise/hailwise/NodeQueue" "nodes" "[I" (.ref nd)) (F_ky : Fld Z h0 x0 "com/example/hailwise/hailwise/NodeQueue" "keys" "[D" (.ref ky)) (E_x0 : Exa Z h0 x0 "com/example/hailwise/hailwise/NodeQueue") (V_nd : Arv Z h0 nd kn .int (64 : Int32) [(.int va0), (.int va1), (.int va2), (.int va3), (.int va4), (.int va5)] (.int (0 : Int32))) (V_ky : Arv Z h0 ky kd .double (64 : Int32) [(.double (FP.i2d vb0)), (.double (FP.i2d vb1)), (.double (FP.i2d vb2)), (.double (FP.i2d vb3)), (.double (FP.i2d vb4)), (.double (FP.i2d vb5))] (.double (0 : UInt64))) (g_x0 : n0 ≤ x0) (g_nd : n0 ≤ nd) (g_ky : n0 ≤ ky) (ne1 : x0 ≠ nd) (ne2 : x0 ≠ ky) (ne3 : nd ≠ ky) :
    MetFree l (⟨"com/example/hailwise/hailwise/NodeQueue", "poll", "()I"⟩ : MethodName) (head1 (Jvm.Cond.code (⟨"com/example/hailwise/hailwise/NodeQueue", "poll", "()I"⟩ : MethodName) prog_21_method_6_code 7 (some .int) :: ws) ({ frames := 0, cells := 0, slots := 0, locals := 0 } : Room)) (fun a U => a = #[(.ref x0)] ∧ Z.Warmed39 U.vm ∧ U.heap = h0) (fun _ _ _ _ _ => True) (fun _ U o U' => ∃ v L, o = .returned v ∧ Q5_1 Z x0 nd ky kn kd va0 va1 va2 va3 va4 va5 vb0 vb1 vb2 vb3 vb4 vb5 h0 n0 v U'.heap L ∧ FrameEnd U o U' L ({ frames := 0, cells := 0, slots := 0, locals := 0 } : Room).cells ({ frames := 0, cells := 0, slots := 0, locals := 0 } : Room).slots) := by
  refine MetFree.of_bodySF (plainFor_of_name pn_5) hisR ?_
  intro p e s m args below meth c s₁ Bd hml0 hP hK
  obtain ⟨rfl, hZ, hh⟩ := hP
  have w_6 := hw _ (List.mem_of_getElem? (i := 6) rfl)
  have w_14 := hw _ (List.mem_of_getElem? (i := 14) rfl)
  have w_15 := hw _ (List.mem_of_getElem? (i := 15) rfl)
  have w_17 := hw _ (List.mem_of_getElem? (i := 17) rfl)
  have w_18 := hw _ (List.mem_of_getElem? (i := 18) rfl)
  have w_24 := hw _ (List.mem_of_getElem? (i := 24) rfl)
  have w_25 := hw _ (List.mem_of_getElem? (i := 25) rfl)
  have hx := Bd.exec
  have hby := Bd.bytes
  have hml : c.maxLocals = 7 := hml0
  have hown : s.vm.findClass "com/example/hailwise/hailwise/NodeQueue" = some m.cls := findClass_of_methodNamed Bd.named
  have hnm := (name_of_methodNamed Bd.named Bd.method).1
  have X0 : Stand p l e ({ frames := 0, cells := 0, slots := 0, locals := 0 } : Room) s m #[(.ref x0)] below meth c s₁ [] 0 0 := Stand.of_body Bd
  have e0 : s₁.heap = h0 := by rw [← hh, Bd.state]; rfl
  have N0 := Fr.nil n0
  have K0 : Keep h0 h0 [x0, nd, ky] := Keep.refl h0 _
  refine (?_ : Goes p e below s ({ frames := 0, cells := 0, slots := 0, locals := 0 } : Room).cells ({ frames := 0, cells := 0, slots := 0, locals := 0 } : Room).slots (fun v h L => Q5_1 Z x0 nd ky kn kd va0 va1 va2 va3 va4 va5 vb0 vb1 vb2 vb3 vb4 vb5 h0 n0 v h L) (s₁.setTop (entryFrame m #[(.ref x0)] 7)))
  rw [ef_5_1 m x0 nd ky kn kd va0 va1 va2 va3 va4 va5 vb0 vb1 vb2 vb3 vb4 vb5 ]
  show Goes _ _ _ _ _ _ _ (s₁.setTop (mkF m 0 #[.val (.ref x0), .unset, .unset, .unset, .unset, .unset, .unset] []))
  refine Goes.step (fun _ k => XS.aloadN X0.here hx rfl (hb hby d5_0) rfl rfl k) ?_
  obtain ⟨T1, X1, e1, st1⟩ := getF X0 hx hZ hown (host := "") (Or.inl w_14) Via.refl e0 F_nd (g := (mkF m 1 #[.val (.ref x0), .unset, .unset, .unset, .unset, .unset, .unset] [(.ref x0)])) rfl rfl (hb hby d5_1)
  refine Goes.step st1 ?_
  show Goes _ _ _ _ _ _ _ (T1.setTop (mkF m 4 _ [(.ref nd)]))
  refine Goes.step (fun _ k => XS.iconst X1.here hx rfl (hb hby d5_4) k) ?_
  obtain ⟨cl2, Ar2, q2, S2, P2, H2, G2⟩ := id V_nd
  have hin2 : ¬ ((0 : Int32) < 0 ∨ cl2.slots.size ≤ ((0 : Int32)).toNatClampNeg) := inb_of S2 ⟨by decide, by decide⟩
  have hat2 : cl2.slots[((0 : Int32)).toNatClampNeg]? = some (.int va0) := H2 _ (by rw [S2]; decide)
  refine Goes.step (fun _ k => X1.iaload hx (j := (0 : Int32)) (v := (.int va0)) (by rw [e1]; exact Ar2.1) (State.isArrayOf_alike hZ.alike Ar2.2.1) Ar2.2.2 hin2 hat2 (g := (mkF m 5 #[.val (.ref x0), .unset, .unset, .unset, .unset, .unset, .unset] [(.int (0 : Int32)), (.ref nd)])) rfl rfl (hb hby d5_5) _ k) ?_
  show Goes _ _ _ _ _ _ _ (T1.setTop (mkF m 6 _ [(.int va0)]))
  refine Goes.step (fun _ k => XS.istoreN X1.here hx rfl (hb hby d5_6) rfl (l' := #[.val (.ref x0), .val (.int va0), .unset, .unset, .unset, .unset, .unset]) rfl k) ?_
  show Goes _ _ _ _ _ _ _ (T1.setTop (mkF m 7 _ []))
  refine Goes.step (fun _ k => XS.aloadN X1.here hx rfl (hb hby d5_7) rfl rfl k) ?_
  refine Goes.step (fun _ k => XS.dup X1.here hx rfl (hb hby d5_8) rfl rfl k) ?_
  obtain ⟨T3, X3, e3, st3⟩ := getF X1 hx hZ hown (host := "") (Or.inl w_24) Via.refl e1 F_size (g := (mkF m 9 #[.val (.ref x0), .val (.int va0), .unset, .unset, .unset, .unset, .unset] [(.ref x0), (.ref x0)])) rfl rfl (hb hby d5_9)
  refine Goes.step st3 ?_
  show Goes _ _ _ _ _ _ _ (T3.setTop (mkF m 12 _ [(.int (1 : Int32)), (.ref x0)]))
  refine Goes.step (fun _ k => XS.iconst X3.here hx rfl (hb hby d5_12) k) ?_
  refine Goes.step (fun _ k => XS.isub X3.here hx rfl (hb hby d5_13) rfl k) ?_
  show Goes _ _ _ _ _ _ _ (T3.setTop (mkF m 14 _ [(.int (0 : Int32)), (.ref x0)]))
  obtain ⟨T4, h4, X4, e4, W4, st4⟩ := putF X3 hx hZ hown (host := "") (Or.inl w_24) Via.refl e3 F_size E_x0 (Or.inl w_25) w_6 (ty := .int) (by decide) rfl rfl (g := (mkF m 14 #[.val (.ref x0), .val (.int va0), .unset, .unset, .unset, .unset, .unset] [(.int (0 : Int32)), (.ref x0)])) rfl rfl (hb hby d5_14)
  refine Goes.step st4 ?_
  have f5 := F_size.same W4
  have f6 := F_nd.other W4 (Or.inr (slot_ne (Or.inl w_15) (Or.inl w_25) (by decide) (t := (.array .int)) (t' := .int) (by decide) (by decide)))
  have f7 := F_ky.other W4 (Or.inr (slot_ne (Or.inl w_18) (Or.inl w_25) (by decide) (t := (.array .double)) (t' := .int) (by decide) (by decide)))
  have f8 := E_x0.wr W4
  have f9 := V_nd.other W4 (Ne.symm ne1)
  have f10 := V_ky.other W4 (Ne.symm ne2)
  have K11 : Keep h0 h4 [x0, nd, ky] := K0.wr W4 (Or.inl (List.mem_of_getElem? (i := 0) rfl))
  have Z11 : n0 ≤ h4.size := by rw [Wr.size W4]; exact Z0
  have N11 := Fr.snoc X4 N0 g_x0
  show Goes _ _ _ _ _ _ _ (T4.setTop (mkF m 17 _ []))
  refine Goes.step (fun _ k => XS.aloadN X4.here hx rfl (hb hby d5_17) rfl rfl k) ?_
  obtain ⟨T12, X12, e12, st12⟩ := getF X4 hx hZ hown (host := "") (Or.inl w_14) Via.refl e4 f6 (g := (mkF m 18 #[.val (.ref x0), .val (.int va0), .unset, .unset, .unset, .unset, .unset] [(.ref x0)])) rfl rfl (hb hby d5_18)
  refine Goes.step st12 ?_
  show Goes _ _ _ _ _ _ _ (T12.setTop (mkF m 21 #[.val (.ref x0), .val (.int va0), .unset, .unset, .unset, .unset, .unset] [(.ref nd)]))
  refine Goes.step (fun _ k => XS.aloadN X12.here hx rfl (hb hby d5_21) rfl rfl k) ?_
  obtain ⟨T13, X13, e13, st13⟩ := getF X12 hx hZ hown (host := "") (Or.inl w_24) Via.refl e12 f5 (g := (mkF m 22 #[.val (.ref x0), .val (.int va0), .unset, .unset, .unset, .unset, .unset] [(.ref x0), (.ref nd)])) rfl rfl (hb hby d5_22)
  refine Goes.step st13 ?_
  show Goes _ _ _ _ _ _ _ (T13.setTop (mkF m 25 _ [(.int (0 : Int32)), (.ref nd)]))
  obtain ⟨cl14, Ar14, q14, S14, P14, H14, G14⟩ := id f9
  have hin14 : ¬ ((0 : Int32) < 0 ∨ cl14.slots.size ≤ ((0 : Int32)).toNatClampNeg) := inb_of S14 ⟨by decide, by decide⟩
  have hat14 : cl14.slots[((0 : Int32)).toNatClampNeg]? = some (.int va0) := H14 _ (by rw [S14]; decide)
  refine Goes.step (fun _ k => X13.iaload hx (j := (0 : Int32)) (v := (.int va0)) (by rw [e13]; exact Ar14.1) (State.isArrayOf_alike hZ.alike Ar14.2.1) Ar14.2.2 hin14 hat14 (g := (mkF m 25 #[.val (.ref x0), .val (.int va0), .unset, .unset, .unset, .unset, .unset] [(.int (0 : Int32)), (.ref nd)])) rfl rfl (hb hby d5_25) _ k) ?_
  show Goes _ _ _ _ _ _ _ (T13.setTop (mkF m 26 _ [(.int va0)]))
  refine Goes.step (fun _ k => XS.istoreN X13.here hx rfl (hb hby d5_26) rfl (l' := #[.val (.ref x0), .val (.int va0), .val (.int va0), .unset, .unset, .unset, .unset]) rfl k) ?_
  show Goes _ _ _ _ _ _ _ (T13.setTop (mkF m 27 _ []))
  refine Goes.step (fun _ k => XS.aloadN X13.here hx rfl (hb hby d5_27) rfl rfl k) ?_
  obtain ⟨T15, X15, e15, st15⟩ := getF X13 hx hZ hown (host := "") (Or.inl w_17) Via.refl e13 f7 (g := (mkF m 28 #[.val (.ref x0), .val (.int va0), .val (.int va0), .unset, .unset, .unset, .unset] [(.ref x0)])) rfl rfl (hb hby d5_28)
  refine Goes.step st15 ?_
  show Goes _ _ _ _ _ _ _ (T15.setTop (mkF m 31 _ [(.ref ky)]))
  refine Goes.step (fun _ k => XS.aloadN X15.here hx rfl (hb hby d5_31) rfl rfl k) ?_
  obtain ⟨T16, X16, e16, st16⟩ := getF X15 hx hZ hown (host := "") (Or.inl w_24) Via.refl e15 f5 (g := (mkF m 32 #[.val (.ref x0), .val (.int va0), .val (.int va0), .unset, .unset, .unset, .unset] [(.ref x0), (.ref ky)])) rfl rfl (hb hby d5_32)
  refine Goes.step st16 ?_
  show Goes _ _ _ _ _ _ _ (T16.setTop (mkF m 35 _ [(.int (0 : Int32)), (.ref ky)]))
  obtain ⟨cl17, Ar17, q17, S17, P17, H17, G17⟩ := id f10
  have hin17 : ¬ ((0 : Int32) < 0 ∨ cl17.slots.size ≤ ((0 : Int32)).toNatClampNeg) := inb_of S17 ⟨by decide, by decide⟩
  have hat17 : cl17.slots[((0 : Int32)).toNatClampNeg]? = some (.double (FP.i2d vb0)) := H17 _ (by rw [S17]; decide)
  refine Goes.step (fun _ k => X16.daload hx (j := (0 : Int32)) (v := (.double (FP.i2d vb0))) (by rw [e16]; exact Ar17.1) (State.isArrayOf_alike hZ.alike Ar17.2.1) Ar17.2.2 hin17 hat17 (g := (mkF m 35 #[.val (.ref x0), .val (.int va0), .val (.int va0), .unset, .unset, .unset, .unset] [(.int (0 : Int32)), (.ref ky)])) rfl rfl (hb hby d5_35) _ k) ?_
  show Goes _ _ _ _ _ _ _ (T16.setTop (mkF m 36 _ [(.double (FP.i2d vb0))]))
  refine Goes.step (fun _ k => XS.dstoreN X16.here hx rfl (hb hby d5_36) rfl (l' := #[.val (.ref x0), .val (.int va0), .val (.int va0), .val (.double (FP.i2d vb0)), .second, .unset, .unset]) rfl k) ?_
  show Goes _ _ _ _ _ _ _ (T16.setTop (mkF m 37 #[.val (.ref x0), .val (.int va0), .val (.int va0), .val (.double (FP.i2d vb0)), .second, .unset, .unset] []))
  refine Goes.step (fun _ k => XS.iconst X16.here hx rfl (hb hby d5_37) k) ?_
  refine Goes.step (fun _ k => XS.istore X16.here hx rfl (hb hby d5_38) rfl (l' := #[.val (.ref x0), .val (.int va0), .val (.int va0), .val (.double (FP.i2d vb0)), .second, .val (.int (0 : Int32)), .unset]) rfl k) ?_
  show Goes _ _ _ _ _ _ _ (T16.setTop (mkF m 40 _ []))
  refine Goes.step (fun _ k => XS.iconst X16.here hx rfl (hb hby d5_40) k) ?_
  refine Goes.step (fun _ k => XS.istore X16.here hx rfl (hb hby d5_41) rfl (l' := #[.val (.ref x0), .val (.int va0), .val (.int va0), .val (.double (FP.i2d vb0)), .second, .val (.int (0 : Int32)), .val (.int (1 : Int32))]) rfl k) ?_
  show Goes _ _ _ _ _ _ _ (T16.setTop (mkF m 43 _ []))
  refine Goes.step (fun _ k => XS.iload X16.here hx rfl (hb hby d5_43) rfl  k) ?_
  refine Goes.step (fun _ k => XS.aloadN X16.here hx rfl (hb hby d5_45) rfl rfl k) ?_
  obtain ⟨T18, X18, e18, st18⟩ := getF X16 hx hZ hown (host := "") (Or.inl w_24) Via.refl e16 f5 (g := (mkF m 46 #[.val (.ref x0), .val (.int va0), .val (.int va0), .val (.double (FP.i2d vb0)), .second, .val (.int (0 : Int32)), .val (.int (1 : Int32))] [(.ref x0), (.int (1 : Int32))])) rfl rfl (hb hby d5_46)
  refine Goes.step st18 ?_
  show Goes _ _ _ _ _ _ _ (T18.setTop (mkF m 49 _ [(.int (0 : Int32)), (.int (1 : Int32))]))
  refine Goes.step (fun _ k => XS.icmpYes X18.here hx rfl (pc0 := 49) (pc' := 144) rfl (hb hby d5_49) rfl (flt (by decide : ¬ ((1 : Int32) < (0 : Int32)))).2.1 (by decide) (by decide) k) ?_
  show Goes _ _ _ _ _ _ _ (T18.setTop (mkF m 144 _ []))
  refine Goes.step (fun _ k => XS.aloadN X18.here hx rfl (hb hby d5_144) rfl rfl k) ?_
  obtain ⟨T19, X19, e19, st19⟩ := getF X18 hx hZ hown (host := "") (Or.inl w_14) Via.refl e18 f6 (g := (mkF m 145 #[.val (.ref x0), .val (.int va0), .val (.int va0), .val (.double (FP.i2d vb0)), .second, .val (.int (0 : Int32)), .val (.int (1 : Int32))] [(.ref x0)])) rfl rfl (hb hby d5_145)
  refine Goes.step st19 ?_
  show Goes _ _ _ _ _ _ _ (T19.setTop (mkF m 148 _ [(.ref nd)]))
  refine Goes.step (fun _ k => XS.iload X19.here hx rfl (hb hby d5_148) rfl  k) ?_
  refine Goes.step (fun _ k => XS.iloadN X19.here hx rfl (hb hby d5_150) rfl  k) ?_
  obtain ⟨cl20, Ar20, q20, S20, P20, H20, G20⟩ := id f9
  have hin20 : ¬ ((0 : Int32) < 0 ∨ cl20.slots.size ≤ ((0 : Int32)).toNatClampNeg) := inb_of S20 ⟨by decide, by decide⟩
  obtain ⟨T21, h21, X21, e21, W21, st21⟩ := stI X19 hx hZ e19 Ar20 (j := (0 : Int32)) hin20 (g := (mkF m 151 #[.val (.ref x0), .val (.int va0), .val (.int va0), .val (.double (FP.i2d vb0)), .second, .val (.int (0 : Int32)), .val (.int (1 : Int32))] [(.int va0), (.int (0 : Int32)), (.ref nd)])) rfl rfl (hb hby d5_151)
  refine Goes.step st21 ?_
  have V21 := Arv.set Ar20 q20 S20 P20 H20 G20 rfl W21 0 rfl (Nat.le_of_ble_eq_true rfl)
  have f22 := f5.other W21 (Or.inl ne1)
  have f23 := f6.other W21 (Or.inl ne1)
  have f24 := f7.other W21 (Or.inl ne1)
  have f25 := f8.wr W21
  have f26 := V21
  have f27 := f10.other W21 (Ne.symm ne3)
  have K28 : Keep h0 h21 [x0, nd, ky] := K11.wr W21 (Or.inl (List.mem_of_getElem? (i := 1) rfl))
  have Z28 : n0 ≤ h21.size := by rw [Wr.size W21]; exact Z11
  have N28 := Fr.snoc X21 N11 g_nd
  show Goes _ _ _ _ _ _ _ (T21.setTop (mkF m 152 _ []))
  refine Goes.step (fun _ k => XS.aloadN X21.here hx rfl (hb hby d5_152) rfl rfl k) ?_
  obtain ⟨T29, X29, e29, st29⟩ := getF X21 hx hZ hown (host := "") (Or.inl w_17) Via.refl e21 f24 (g := (mkF m 153 #[.val (.ref x0), .val (.int va0), .val (.int va0), .val (.double (FP.i2d vb0)), .second, .val (.int (0 : Int32)), .val (.int (1 : Int32))] [(.ref x0)])) rfl rfl (hb hby d5_153)
  refine Goes.step st29 ?_
  show Goes _ _ _ _ _ _ _ (T29.setTop (mkF m 156 #[.val (.ref x0), .val (.int va0), .val (.int va0), .val (.double (FP.i2d vb0)), .second, .val (.int (0 : Int32)), .val (.int (1 : Int32))] [(.ref ky)]))
  refine Goes.step (fun _ k => XS.iload X29.here hx rfl (hb hby d5_156) rfl  k) ?_
  refine Goes.step (fun _ k => XS.dloadN X29.here hx rfl (hb hby d5_158) rfl k) ?_
  obtain ⟨cl30, Ar30, q30, S30, P30, H30, G30⟩ := id f27
  have hin30 : ¬ ((0 : Int32) < 0 ∨ cl30.slots.size ≤ ((0 : Int32)).toNatClampNeg) := inb_of S30 ⟨by decide, by decide⟩
  obtain ⟨T31, h31, X31, e31, W31, st31⟩ := stD X29 hx hZ e29 Ar30 (j := (0 : Int32)) hin30 (g := (mkF m 159 #[.val (.ref x0), .val (.int va0), .val (.int va0), .val (.double (FP.i2d vb0)), .second, .val (.int (0 : Int32)), .val (.int (1 : Int32))] [(.double (FP.i2d vb0)), (.int (0 : Int32)), (.ref ky)])) rfl rfl (hb hby d5_159)
  refine Goes.step st31 ?_
  have V31 := Arv.set Ar30 q30 S30 P30 H30 G30 rfl W31 0 rfl (Nat.le_of_ble_eq_true rfl)
  have f32 := f22.other W31 (Or.inl ne2)
  have f33 := f23.other W31 (Or.inl ne2)
  have f34 := f24.other W31 (Or.inl ne2)
  have f35 := f25.wr W31
  have f36 := f26.other W31 ne3
  have f37 := V31
  have K38 : Keep h0 h31 [x0, nd, ky] := K28.wr W31 (Or.inl (List.mem_of_getElem? (i := 2) rfl))
  have Z38 : n0 ≤ h31.size := by rw [Wr.size W31]; exact Z28
  have N38 := Fr.snoc X31 N28 g_ky
  show Goes _ _ _ _ _ _ _ (T31.setTop (mkF m 160 _ []))
  refine Goes.step (fun _ k => XS.iloadN X31.here hx rfl (hb hby d5_160) rfl  k) ?_
  exact Goes.ret X31 hx (BodyLoose.notSynchronized Bd) Bd.returns rfl (Or.inl ⟨rfl, by simp, _, rfl⟩) (hb hby d5_161) (by show Q5_1 Z x0 nd ky kn kd va0 va1 va2 va3 va4 va5 vb0 vb1 vb2 vb3 vb4 vb5 h0 n0 (some (.int va0)) T31.heap _; rw [e31]; exact ⟨N38, K38, rfl, f32, f33, f34, va0, va1, va2, va3, va4, va5, vb0, vb1, vb2, vb3, vb4, vb5, f36, f37, (List.Perm.map (fun i => ([] : List (Int32 × Int32)).getD i (0, 0)) (by decide : ([] : List Nat).Perm []))⟩) (by decide) (by decide)
theorem pn_0 : plainName "com/example/hailwise/hailwise/NodeQueuePollPinLaw" = true := by first | (simp [plainName, overriddenIn]; done) | decide +kernel
theorem ef_0 (m : MethodId) (p0 : Int32) (p1 : Int32)  : entryFrame m #[(.int p0), (.int p1)] maxLocals = mkF m 0 #[.val (.int p0), .val (.int p1), .unset, .unset, .unset, .unset, .unset, .unset, .unset, .unset, .unset] [] := by first | (simp [entryFrame, mkF, argsToLocals, Value.category, maxLocals]; done) | rfl
theorem pd_0 : parseMethodDescriptor "(II)I" = some ⟨[.int, .int], some .int⟩ := by decide +kernel
theorem pd_1 : parseMethodDescriptor "()V" = some ⟨[], none⟩ := by decide +kernel
theorem pd_2 : parseMethodDescriptor "(ID)V" = some ⟨[.int, .double], none⟩ := by decide +kernel
theorem pd_3 : parseMethodDescriptor "()I" = some ⟨[], some .int⟩ := by decide +kernel
theorem pd_4 : parseMethodDescriptor "(I)Z" = some ⟨[.int], some .boolean⟩ := by decide +kernel
def Q0 (Z : State) (p0 : Int32) (p1 : Int32) (h0 : Heap) (n0 : Nat) (v : Option Value) (h : Heap) (L : List Loc) : Prop := v = some (.int 1) ∧ Fr n0 L
set_option maxRecDepth 65536 in
set_option maxHeartbeats 40000000 in
theorem rm0 (l : Launch) (Z : State) (a0 : Array Value) (hw : ∀ d ∈ tables_1, d.before a0 Z = true) (ws : List Jvm.Cond) (p0 : Int32) (p1 : Int32) (h0 : Heap) (n0 : Nat) (Z0 : n0 ≤ h0.size) :
    MetFree l x (head1 (Jvm.Cond.code x code maxLocals ret :: ws) room_1) (fun a U => a = #[(.int p0), (.int p1)] ∧ Z.Warmed39 U.vm ∧ U.heap = h0) (fun _ _ _ _ _ => True) (fun _ U o U' => ∃ v L, o = .returned v ∧ Q0 Z p0 p1 h0 n0 v U'.heap L ∧ FrameEnd U o U' L room_1.cells room_1.slots) := by
  refine MetFree.of_bodySF (plainFor_of_name pn_0) hisR ?_
  intro p e s m args below meth c s₁ Bd hml0 hP hK
  obtain ⟨rfl, hZ, hh⟩ := hP
  have w_0 := hw _ (List.mem_of_getElem? (i := 0) rfl)
  have w_1 := hw _ (List.mem_of_getElem? (i := 1) rfl)
  have w_2 := hw _ (List.mem_of_getElem? (i := 2) rfl)
  have w_3 := hw _ (List.mem_of_getElem? (i := 3) rfl)
  have w_4 := hw _ (List.mem_of_getElem? (i := 4) rfl)
  have w_5 := hw _ (List.mem_of_getElem? (i := 5) rfl)
  have w_6 := hw _ (List.mem_of_getElem? (i := 6) rfl)
  have w_7 := hw _ (List.mem_of_getElem? (i := 7) rfl)
  have w_8 := hw _ (List.mem_of_getElem? (i := 8) rfl)
  have w_9 := hw _ (List.mem_of_getElem? (i := 9) rfl)
  have w_10 := hw _ (List.mem_of_getElem? (i := 10) rfl)
  have w_15 := hw _ (List.mem_of_getElem? (i := 15) rfl)
  have w_18 := hw _ (List.mem_of_getElem? (i := 18) rfl)
  have w_19 := hw _ (List.mem_of_getElem? (i := 19) rfl)
  have w_20 := hw _ (List.mem_of_getElem? (i := 20) rfl)
  have w_21 := hw _ (List.mem_of_getElem? (i := 21) rfl)
  have w_22 := hw _ (List.mem_of_getElem? (i := 22) rfl)
  have w_23 := hw _ (List.mem_of_getElem? (i := 23) rfl)
  have w_25 := hw _ (List.mem_of_getElem? (i := 25) rfl)
  have w_26 := hw _ (List.mem_of_getElem? (i := 26) rfl)
  have w_27 := hw _ (List.mem_of_getElem? (i := 27) rfl)
  have w_28 := hw _ (List.mem_of_getElem? (i := 28) rfl)
  have w_29 := hw _ (List.mem_of_getElem? (i := 29) rfl)
  have w_30 := hw _ (List.mem_of_getElem? (i := 30) rfl)
  have w_31 := hw _ (List.mem_of_getElem? (i := 31) rfl)
  have w_32 := hw _ (List.mem_of_getElem? (i := 32) rfl)
  have w_33 := hw _ (List.mem_of_getElem? (i := 33) rfl)
  have hx := Bd.exec
  have hby := Bd.bytes
  have hml : c.maxLocals = 11 := hml0
  have hown : s.vm.findClass "com/example/hailwise/hailwise/NodeQueuePollPinLaw" = some m.cls := findClass_of_methodNamed Bd.named
  have hnm := (name_of_methodNamed Bd.named Bd.method).1
  have X0 : Stand p l e room_1 s m #[(.int p0), (.int p1)] below meth c s₁ [] 0 0 := Stand.of_body Bd
  have e0 : s₁.heap = h0 := by rw [← hh, Bd.state]; rfl
  have N0 := Fr.nil n0
  have K0 : Keep h0 h0 [] := Keep.refl h0 _
  refine (?_ : Goes p e below s room_1.cells room_1.slots (fun v h L => Q0 Z p0 p1 h0 n0 v h L) (s₁.setTop (entryFrame m #[(.int p0), (.int p1)] maxLocals)))
  rw [ef_0 m p0 p1 ]
  show Goes _ _ _ _ _ _ _ (s₁.setTop (mkF m 0 #[.val (.int p0), .val (.int p1), .unset, .unset, .unset, .unset, .unset, .unset, .unset, .unset, .unset] []))
  refine Goes.step (fun _ k => XS.bipush X0.here hx rfl (hb hby at_0) k) ?_
  obtain ⟨T1, h1, k1, X1, e1, E1, A1, st1⟩ := newP X0 hx hZ (hw _ (List.mem_of_getElem? (i := 0) rfl)) e0 (g := (mkF m 2 #[.val (.int p0), .val (.int p1), .unset, .unset, .unset, .unset, .unset, .unset, .unset, .unset, .unset] [(.int (6 : Int32))])) rfl (hb hby at_2) rfl (by decide) (cap := 6) (by decide) (by decide) (by decide) (by decide)
  obtain ⟨b1, g1⟩ : ∃ z, z = h0.size := ⟨_, rfl⟩
  rw [← g1] at A1 st1
  refine Goes.step st1 ?_
  have g_b1 : n0 ≤ b1 := Nat.le_trans Z0 (Nat.le_of_eq g1.symm)
  have sz_b1 : h0.size ≤ b1 := Nat.le_trans K0.1 (Nat.le_of_eq g1.symm)
  have K2 : Keep h0 h1 [] := K0.ext E1
  have Z2 : n0 ≤ h1.size := Nat.le_trans Z0 E1.1
  have V_b1 : Arv Z h1 b1 k1 .int (6 : Int32) [(.int (0 : Int32)), (.int (0 : Int32)), (.int (0 : Int32)), (.int (0 : Int32)), (.int (0 : Int32)), (.int (0 : Int32))] (.int (0 : Int32)) := (Arv.new A1 (by decide)).pad (pad_rep [] (.int (0 : Int32)) 6)
  show Goes _ _ _ _ _ _ _ (T1.setTop (mkF m 4 _ [(.ref b1)]))
  refine Goes.step (fun _ k => XS.astoreN X1.here hx rfl (hb hby at_4) rfl rfl (l' := #[.val (.int p0), .val (.int p1), .val (.ref b1), .unset, .unset, .unset, .unset, .unset, .unset, .unset, .unset]) rfl k) ?_
  show Goes _ _ _ _ _ _ _ (T1.setTop (mkF m 5 _ []))
  refine Goes.step (fun _ k => XS.aloadN X1.here hx rfl (hb hby at_5) rfl rfl k) ?_
  refine Goes.step (fun _ k => XS.iconst X1.here hx rfl (hb hby at_6) k) ?_
  refine Goes.step (fun _ k => XS.iloadN X1.here hx rfl (hb hby at_7) rfl  k) ?_
  refine Goes.step (fun _ k => XS.iconst X1.here hx rfl (hb hby at_8) k) ?_
  show Goes _ _ _ _ _ _ _ (T1.setTop (mkF m 9 _ [(.int (0 : Int32)), (.int p0), (.int (0 : Int32)), (.ref b1)]))
  obtain ⟨_, _, ⟨T3, L3, k3, n3⟩, -, X3, ⟨Lc3, hQ3, l3, y3, z3⟩, st3⟩ := Jvm.LawKit.callS X1 hx (y := (⟨"com/example/hailwise/hailwise/NodeQueuePollPinLaw", "kk", "(II)I"⟩ : MethodName)) hown (mvT hZ w_1) (mvT hZ w_2) (mvT hZ w_3) (mvT hZ w_4) (by decide) (backOf (W := 2) (rm1 l Z a0 hw [] p0 (0 : Int32) h1 n0 Z2 ) hZ w_4 w_3 (by decide) (by decide)) (g := (mkF m 9 #[.val (.int p0), .val (.int p1), .val (.ref b1), .unset, .unset, .unset, .unset, .unset, .unset, .unset, .unset] [(.int (0 : Int32)), (.int p0), (.int (0 : Int32)), (.ref b1)])) rfl (by rw [hml]; rfl) (argsL := [(.int p0), (.int (0 : Int32))]) (rest := [(.int (0 : Int32)), (.ref b1)]) (lenOf pd_0 rfl) rfl (by show 2 * 0 + _ ≤ _; exact Nat.le_of_eq rfl) (hb hby at_9) (fun _ _ => ⟨rfl, e1, (by decide : 1 + 0 ≤ _), (by decide : 6 + 0 ≤ _)⟩)
  dsimp only [Pt.U, Pt.locs, Pt.cells, Pt.slots] at X3 l3 y3 z3 st3 hQ3
  rw [l3, y3, z3] at X3
  obtain ⟨N3, KK3, hR3⟩ := hQ3
  have NA3 := Fr.app N0 N3
  obtain ⟨rv3_0, rfl⟩ := hR3
  refine Goes.step st3 ?_
  show Goes _ _ _ _ _ _ _ (T3.setTop (mkF m 12 _ [(.int rv3_0), (.int (0 : Int32)), (.ref b1)]))
  obtain ⟨cl4, Ar4, q4, S4, P4, H4, G4⟩ := id V_b1
  have hin4 : ¬ ((0 : Int32) < 0 ∨ cl4.slots.size ≤ ((0 : Int32)).toNatClampNeg) := inb_of S4 ⟨by decide, by decide⟩
  obtain ⟨T5, h5, X5, e5, W5, st5⟩ := stI X3 hx hZ KK3 Ar4 (j := (0 : Int32)) hin4 (g := (mkF m 12 #[.val (.int p0), .val (.int p1), .val (.ref b1), .unset, .unset, .unset, .unset, .unset, .unset, .unset, .unset] [(.int rv3_0), (.int (0 : Int32)), (.ref b1)])) rfl rfl (hb hby at_12)
  refine Goes.step st5 ?_
  have V5 := Arv.set Ar4 q4 S4 P4 H4 G4 rfl W5 0 rfl (Nat.le_of_ble_eq_true rfl)
  have f6 := V5
  have K7 : Keep h0 h5 [] := K2.wr W5 (Or.inr sz_b1)
  have Z7 : n0 ≤ h5.size := by rw [Wr.size W5]; exact Z2
  have N7 := Fr.snoc X5 NA3 g_b1
  show Goes _ _ _ _ _ _ _ (T5.setTop (mkF m 13 _ []))
  refine Goes.step (fun _ k => XS.aloadN X5.here hx rfl (hb hby at_13) rfl rfl k) ?_
  refine Goes.step (fun _ k => XS.iconst X5.here hx rfl (hb hby at_14) k) ?_
  refine Goes.step (fun _ k => XS.iloadN X5.here hx rfl (hb hby at_15) rfl  k) ?_
  refine Goes.step (fun _ k => XS.iconst X5.here hx rfl (hb hby at_16) k) ?_
  show Goes _ _ _ _ _ _ _ (T5.setTop (mkF m 17 _ [(.int (1 : Int32)), (.int p0), (.int (1 : Int32)), (.ref b1)]))
  obtain ⟨_, _, ⟨T8, L8, k8, n8⟩, -, X8, ⟨Lc8, hQ8, l8, y8, z8⟩, st8⟩ := Jvm.LawKit.callS X5 hx (y := (⟨"com/example/hailwise/hailwise/NodeQueuePollPinLaw", "kk", "(II)I"⟩ : MethodName)) hown (mvT hZ w_1) (mvT hZ w_2) (mvT hZ w_3) (mvT hZ w_4) (by decide) (backOf (W := 2) (rm1 l Z a0 hw [] p0 (1 : Int32) h5 n0 Z7 ) hZ w_4 w_3 (by decide) (by decide)) (g := (mkF m 17 #[.val (.int p0), .val (.int p1), .val (.ref b1), .unset, .unset, .unset, .unset, .unset, .unset, .unset, .unset] [(.int (1 : Int32)), (.int p0), (.int (1 : Int32)), (.ref b1)])) rfl (by rw [hml]; rfl) (argsL := [(.int p0), (.int (1 : Int32))]) (rest := [(.int (1 : Int32)), (.ref b1)]) (lenOf pd_0 rfl) rfl (by show 2 * 0 + _ ≤ _; exact Nat.le_of_eq rfl) (hb hby at_17) (fun _ _ => ⟨rfl, e5, (by decide : 1 + 0 ≤ _), (by decide : 6 + 0 ≤ _)⟩)
  dsimp only [Pt.U, Pt.locs, Pt.cells, Pt.slots] at X8 l8 y8 z8 st8 hQ8
  rw [l8, y8, z8] at X8
  obtain ⟨N8, KK8, hR8⟩ := hQ8
  have NA8 := Fr.app N7 N8
  obtain ⟨rv8_0, rfl⟩ := hR8
  refine Goes.step st8 ?_
  show Goes _ _ _ _ _ _ _ (T8.setTop (mkF m 20 #[.val (.int p0), .val (.int p1), .val (.ref b1), .unset, .unset, .unset, .unset, .unset, .unset, .unset, .unset] [(.int rv8_0), (.int (1 : Int32)), (.ref b1)]))
  obtain ⟨cl9, Ar9, q9, S9, P9, H9, G9⟩ := id f6
  have hin9 : ¬ ((1 : Int32) < 0 ∨ cl9.slots.size ≤ ((1 : Int32)).toNatClampNeg) := inb_of S9 ⟨by decide, by decide⟩
  obtain ⟨T10, h10, X10, e10, W10, st10⟩ := stI X8 hx hZ KK8 Ar9 (j := (1 : Int32)) hin9 (g := (mkF m 20 #[.val (.int p0), .val (.int p1), .val (.ref b1), .unset, .unset, .unset, .unset, .unset, .unset, .unset, .unset] [(.int rv8_0), (.int (1 : Int32)), (.ref b1)])) rfl rfl (hb hby at_20)
  refine Goes.step st10 ?_
  have V10 := Arv.set Ar9 q9 S9 P9 H9 G9 rfl W10 1 rfl (Nat.le_of_ble_eq_true rfl)
  have f11 := V10
  have K12 : Keep h0 h10 [] := K7.wr W10 (Or.inr sz_b1)
  have Z12 : n0 ≤ h10.size := by rw [Wr.size W10]; exact Z7
  have N12 := Fr.snoc X10 NA8 g_b1
  show Goes _ _ _ _ _ _ _ (T10.setTop (mkF m 21 _ []))
  refine Goes.step (fun _ k => XS.aloadN X10.here hx rfl (hb hby at_21) rfl rfl k) ?_
  refine Goes.step (fun _ k => XS.iconst X10.here hx rfl (hb hby at_22) k) ?_
  refine Goes.step (fun _ k => XS.iloadN X10.here hx rfl (hb hby at_23) rfl  k) ?_
  refine Goes.step (fun _ k => XS.iconst X10.here hx rfl (hb hby at_24) k) ?_
  show Goes _ _ _ _ _ _ _ (T10.setTop (mkF m 25 _ [(.int (2 : Int32)), (.int p0), (.int (2 : Int32)), (.ref b1)]))
  obtain ⟨_, _, ⟨T13, L13, k13, n13⟩, -, X13, ⟨Lc13, hQ13, l13, y13, z13⟩, st13⟩ := Jvm.LawKit.callS X10 hx (y := (⟨"com/example/hailwise/hailwise/NodeQueuePollPinLaw", "kk", "(II)I"⟩ : MethodName)) hown (mvT hZ w_1) (mvT hZ w_2) (mvT hZ w_3) (mvT hZ w_4) (by decide) (backOf (W := 2) (rm1 l Z a0 hw [] p0 (2 : Int32) h10 n0 Z12 ) hZ w_4 w_3 (by decide) (by decide)) (g := (mkF m 25 #[.val (.int p0), .val (.int p1), .val (.ref b1), .unset, .unset, .unset, .unset, .unset, .unset, .unset, .unset] [(.int (2 : Int32)), (.int p0), (.int (2 : Int32)), (.ref b1)])) rfl (by rw [hml]; rfl) (argsL := [(.int p0), (.int (2 : Int32))]) (rest := [(.int (2 : Int32)), (.ref b1)]) (lenOf pd_0 rfl) rfl (by show 2 * 0 + _ ≤ _; exact Nat.le_of_eq rfl) (hb hby at_25) (fun _ _ => ⟨rfl, e10, (by decide : 1 + 0 ≤ _), (by decide : 6 + 0 ≤ _)⟩)
  dsimp only [Pt.U, Pt.locs, Pt.cells, Pt.slots] at X13 l13 y13 z13 st13 hQ13
  rw [l13, y13, z13] at X13
  obtain ⟨N13, KK13, hR13⟩ := hQ13
  have NA13 := Fr.app N12 N13
  obtain ⟨rv13_0, rfl⟩ := hR13
  refine Goes.step st13 ?_
  show Goes _ _ _ _ _ _ _ (T13.setTop (mkF m 28 _ [(.int rv13_0), (.int (2 : Int32)), (.ref b1)]))
  obtain ⟨cl14, Ar14, q14, S14, P14, H14, G14⟩ := id f11
  have hin14 : ¬ ((2 : Int32) < 0 ∨ cl14.slots.size ≤ ((2 : Int32)).toNatClampNeg) := inb_of S14 ⟨by decide, by decide⟩
  obtain ⟨T15, h15, X15, e15, W15, st15⟩ := stI X13 hx hZ KK13 Ar14 (j := (2 : Int32)) hin14 (g := (mkF m 28 #[.val (.int p0), .val (.int p1), .val (.ref b1), .unset, .unset, .unset, .unset, .unset, .unset, .unset, .unset] [(.int rv13_0), (.int (2 : Int32)), (.ref b1)])) rfl rfl (hb hby at_28)
  refine Goes.step st15 ?_
  have V15 := Arv.set Ar14 q14 S14 P14 H14 G14 rfl W15 2 rfl (Nat.le_of_ble_eq_true rfl)
  have f16 := V15
  have K17 : Keep h0 h15 [] := K12.wr W15 (Or.inr sz_b1)
  have Z17 : n0 ≤ h15.size := by rw [Wr.size W15]; exact Z12
  have N17 := Fr.snoc X15 NA13 g_b1
  show Goes _ _ _ _ _ _ _ (T15.setTop (mkF m 29 _ []))
  refine Goes.step (fun _ k => XS.aloadN X15.here hx rfl (hb hby at_29) rfl rfl k) ?_
  refine Goes.step (fun _ k => XS.iconst X15.here hx rfl (hb hby at_30) k) ?_
  refine Goes.step (fun _ k => XS.iloadN X15.here hx rfl (hb hby at_31) rfl  k) ?_
  refine Goes.step (fun _ k => XS.iconst X15.here hx rfl (hb hby at_32) k) ?_
  show Goes _ _ _ _ _ _ _ (T15.setTop (mkF m 33 _ [(.int (3 : Int32)), (.int p0), (.int (3 : Int32)), (.ref b1)]))
  obtain ⟨_, _, ⟨T18, L18, k18, n18⟩, -, X18, ⟨Lc18, hQ18, l18, y18, z18⟩, st18⟩ := Jvm.LawKit.callS X15 hx (y := (⟨"com/example/hailwise/hailwise/NodeQueuePollPinLaw", "kk", "(II)I"⟩ : MethodName)) hown (mvT hZ w_1) (mvT hZ w_2) (mvT hZ w_3) (mvT hZ w_4) (by decide) (backOf (W := 2) (rm1 l Z a0 hw [] p0 (3 : Int32) h15 n0 Z17 ) hZ w_4 w_3 (by decide) (by decide)) (g := (mkF m 33 #[.val (.int p0), .val (.int p1), .val (.ref b1), .unset, .unset, .unset, .unset, .unset, .unset, .unset, .unset] [(.int (3 : Int32)), (.int p0), (.int (3 : Int32)), (.ref b1)])) rfl (by rw [hml]; rfl) (argsL := [(.int p0), (.int (3 : Int32))]) (rest := [(.int (3 : Int32)), (.ref b1)]) (lenOf pd_0 rfl) rfl (by show 2 * 0 + _ ≤ _; exact Nat.le_of_eq rfl) (hb hby at_33) (fun _ _ => ⟨rfl, e15, (by decide : 1 + 0 ≤ _), (by decide : 6 + 0 ≤ _)⟩)
  dsimp only [Pt.U, Pt.locs, Pt.cells, Pt.slots] at X18 l18 y18 z18 st18 hQ18
  rw [l18, y18, z18] at X18
  obtain ⟨N18, KK18, hR18⟩ := hQ18
  have NA18 := Fr.app N17 N18
  obtain ⟨rv18_0, rfl⟩ := hR18
  refine Goes.step st18 ?_
  show Goes _ _ _ _ _ _ _ (T18.setTop (mkF m 36 _ [(.int rv18_0), (.int (3 : Int32)), (.ref b1)]))
  obtain ⟨cl19, Ar19, q19, S19, P19, H19, G19⟩ := id f16
  have hin19 : ¬ ((3 : Int32) < 0 ∨ cl19.slots.size ≤ ((3 : Int32)).toNatClampNeg) := inb_of S19 ⟨by decide, by decide⟩
  obtain ⟨T20, h20, X20, e20, W20, st20⟩ := stI X18 hx hZ KK18 Ar19 (j := (3 : Int32)) hin19 (g := (mkF m 36 #[.val (.int p0), .val (.int p1), .val (.ref b1), .unset, .unset, .unset, .unset, .unset, .unset, .unset, .unset] [(.int rv18_0), (.int (3 : Int32)), (.ref b1)])) rfl rfl (hb hby at_36)
  refine Goes.step st20 ?_
  have V20 := Arv.set Ar19 q19 S19 P19 H19 G19 rfl W20 3 rfl (Nat.le_of_ble_eq_true rfl)
  have f21 := V20
  have K22 : Keep h0 h20 [] := K17.wr W20 (Or.inr sz_b1)
  have Z22 : n0 ≤ h20.size := by rw [Wr.size W20]; exact Z17
  have N22 := Fr.snoc X20 NA18 g_b1
  show Goes _ _ _ _ _ _ _ (T20.setTop (mkF m 37 #[.val (.int p0), .val (.int p1), .val (.ref b1), .unset, .unset, .unset, .unset, .unset, .unset, .unset, .unset] []))
  refine Goes.step (fun _ k => XS.aloadN X20.here hx rfl (hb hby at_37) rfl rfl k) ?_
  refine Goes.step (fun _ k => XS.iconst X20.here hx rfl (hb hby at_38) k) ?_
  refine Goes.step (fun _ k => XS.iloadN X20.here hx rfl (hb hby at_39) rfl  k) ?_
  refine Goes.step (fun _ k => XS.iconst X20.here hx rfl (hb hby at_40) k) ?_
  show Goes _ _ _ _ _ _ _ (T20.setTop (mkF m 41 _ [(.int (4 : Int32)), (.int p0), (.int (4 : Int32)), (.ref b1)]))
  obtain ⟨_, _, ⟨T23, L23, k23, n23⟩, -, X23, ⟨Lc23, hQ23, l23, y23, z23⟩, st23⟩ := Jvm.LawKit.callS X20 hx (y := (⟨"com/example/hailwise/hailwise/NodeQueuePollPinLaw", "kk", "(II)I"⟩ : MethodName)) hown (mvT hZ w_1) (mvT hZ w_2) (mvT hZ w_3) (mvT hZ w_4) (by decide) (backOf (W := 2) (rm1 l Z a0 hw [] p0 (4 : Int32) h20 n0 Z22 ) hZ w_4 w_3 (by decide) (by decide)) (g := (mkF m 41 #[.val (.int p0), .val (.int p1), .val (.ref b1), .unset, .unset, .unset, .unset, .unset, .unset, .unset, .unset] [(.int (4 : Int32)), (.int p0), (.int (4 : Int32)), (.ref b1)])) rfl (by rw [hml]; rfl) (argsL := [(.int p0), (.int (4 : Int32))]) (rest := [(.int (4 : Int32)), (.ref b1)]) (lenOf pd_0 rfl) rfl (by show 2 * 0 + _ ≤ _; exact Nat.le_of_eq rfl) (hb hby at_41) (fun _ _ => ⟨rfl, e20, (by decide : 1 + 0 ≤ _), (by decide : 6 + 0 ≤ _)⟩)
  dsimp only [Pt.U, Pt.locs, Pt.cells, Pt.slots] at X23 l23 y23 z23 st23 hQ23
  rw [l23, y23, z23] at X23
  obtain ⟨N23, KK23, hR23⟩ := hQ23
  have NA23 := Fr.app N22 N23
  obtain ⟨rv23_0, rfl⟩ := hR23
  refine Goes.step st23 ?_
  show Goes _ _ _ _ _ _ _ (T23.setTop (mkF m 44 _ [(.int rv23_0), (.int (4 : Int32)), (.ref b1)]))
  obtain ⟨cl24, Ar24, q24, S24, P24, H24, G24⟩ := id f21
  have hin24 : ¬ ((4 : Int32) < 0 ∨ cl24.slots.size ≤ ((4 : Int32)).toNatClampNeg) := inb_of S24 ⟨by decide, by decide⟩
  obtain ⟨T25, h25, X25, e25, W25, st25⟩ := stI X23 hx hZ KK23 Ar24 (j := (4 : Int32)) hin24 (g := (mkF m 44 #[.val (.int p0), .val (.int p1), .val (.ref b1), .unset, .unset, .unset, .unset, .unset, .unset, .unset, .unset] [(.int rv23_0), (.int (4 : Int32)), (.ref b1)])) rfl rfl (hb hby at_44)
  refine Goes.step st25 ?_
  have V25 := Arv.set Ar24 q24 S24 P24 H24 G24 rfl W25 4 rfl (Nat.le_of_ble_eq_true rfl)
  have f26 := V25
  have K27 : Keep h0 h25 [] := K22.wr W25 (Or.inr sz_b1)
  have Z27 : n0 ≤ h25.size := by rw [Wr.size W25]; exact Z22
  have N27 := Fr.snoc X25 NA23 g_b1
  show Goes _ _ _ _ _ _ _ (T25.setTop (mkF m 45 _ []))
  refine Goes.step (fun _ k => XS.aloadN X25.here hx rfl (hb hby at_45) rfl rfl k) ?_
  refine Goes.step (fun _ k => XS.iconst X25.here hx rfl (hb hby at_46) k) ?_
  refine Goes.step (fun _ k => XS.iloadN X25.here hx rfl (hb hby at_47) rfl  k) ?_
  refine Goes.step (fun _ k => XS.iconst X25.here hx rfl (hb hby at_48) k) ?_
  show Goes _ _ _ _ _ _ _ (T25.setTop (mkF m 49 _ [(.int (5 : Int32)), (.int p0), (.int (5 : Int32)), (.ref b1)]))
  obtain ⟨_, _, ⟨T28, L28, k28, n28⟩, -, X28, ⟨Lc28, hQ28, l28, y28, z28⟩, st28⟩ := Jvm.LawKit.callS X25 hx (y := (⟨"com/example/hailwise/hailwise/NodeQueuePollPinLaw", "kk", "(II)I"⟩ : MethodName)) hown (mvT hZ w_1) (mvT hZ w_2) (mvT hZ w_3) (mvT hZ w_4) (by decide) (backOf (W := 2) (rm1 l Z a0 hw [] p0 (5 : Int32) h25 n0 Z27 ) hZ w_4 w_3 (by decide) (by decide)) (g := (mkF m 49 #[.val (.int p0), .val (.int p1), .val (.ref b1), .unset, .unset, .unset, .unset, .unset, .unset, .unset, .unset] [(.int (5 : Int32)), (.int p0), (.int (5 : Int32)), (.ref b1)])) rfl (by rw [hml]; rfl) (argsL := [(.int p0), (.int (5 : Int32))]) (rest := [(.int (5 : Int32)), (.ref b1)]) (lenOf pd_0 rfl) rfl (by show 2 * 0 + _ ≤ _; exact Nat.le_of_eq rfl) (hb hby at_49) (fun _ _ => ⟨rfl, e25, (by decide : 1 + 0 ≤ _), (by decide : 6 + 0 ≤ _)⟩)
  dsimp only [Pt.U, Pt.locs, Pt.cells, Pt.slots] at X28 l28 y28 z28 st28 hQ28
  rw [l28, y28, z28] at X28
  obtain ⟨N28, KK28, hR28⟩ := hQ28
  have NA28 := Fr.app N27 N28
  obtain ⟨rv28_0, rfl⟩ := hR28
  refine Goes.step st28 ?_
  show Goes _ _ _ _ _ _ _ (T28.setTop (mkF m 52 _ [(.int rv28_0), (.int (5 : Int32)), (.ref b1)]))
  obtain ⟨cl29, Ar29, q29, S29, P29, H29, G29⟩ := id f26
  have hin29 : ¬ ((5 : Int32) < 0 ∨ cl29.slots.size ≤ ((5 : Int32)).toNatClampNeg) := inb_of S29 ⟨by decide, by decide⟩
  obtain ⟨T30, h30, X30, e30, W30, st30⟩ := stI X28 hx hZ KK28 Ar29 (j := (5 : Int32)) hin29 (g := (mkF m 52 #[.val (.int p0), .val (.int p1), .val (.ref b1), .unset, .unset, .unset, .unset, .unset, .unset, .unset, .unset] [(.int rv28_0), (.int (5 : Int32)), (.ref b1)])) rfl rfl (hb hby at_52)
  refine Goes.step st30 ?_
  have V30 := Arv.set Ar29 q29 S29 P29 H29 G29 rfl W30 5 rfl (Nat.le_of_ble_eq_true rfl)
  have f31 := V30
  have K32 : Keep h0 h30 [] := K27.wr W30 (Or.inr sz_b1)
  have Z32 : n0 ≤ h30.size := by rw [Wr.size W30]; exact Z27
  have N32 := Fr.snoc X30 NA28 g_b1
  show Goes _ _ _ _ _ _ _ (T30.setTop (mkF m 53 _ []))
  obtain ⟨T33, h33, X33, e33, E33, A33, D33, -, st33⟩ := newO X30 hx hZ hown w_5 w_6 w_7 e30 (g := (mkF m 53 #[.val (.int p0), .val (.int p1), .val (.ref b1), .unset, .unset, .unset, .unset, .unset, .unset, .unset, .unset] [])) rfl (hb hby at_53) (by decide) (by decide)
  obtain ⟨b33, g33⟩ : ∃ z, z = h30.size := ⟨_, rfl⟩
  rw [← g33] at A33 D33 st33
  refine Goes.step st33 ?_
  have g_b33 : n0 ≤ b33 := Nat.le_trans Z32 (Nat.le_of_eq g33.symm)
  have sz_b33 : h0.size ≤ b33 := Nat.le_trans K32.1 (Nat.le_of_eq g33.symm)
  have ne34 : b1 ≠ b33 := Nat.ne_of_lt (Nat.lt_of_lt_of_le f31.lt (Nat.le_of_eq g33.symm))
  have f35 := f31.ext E33
  have K36 : Keep h0 h33 [] := K32.ext E33
  have Z36 : n0 ≤ h33.size := Nat.le_trans Z32 E33.1
  have E_b33 := A33
  have F_nodes_b33 : Fld Z h33 b33 "com/example/hailwise/hailwise/NodeQueue" "nodes" "[I" .null := D33 (Or.inl w_15) (ty := (.array .int)) (by decide)
  have F_keys_b33 : Fld Z h33 b33 "com/example/hailwise/hailwise/NodeQueue" "keys" "[D" .null := D33 (Or.inl w_18) (ty := (.array .double)) (by decide)
  have F_size_b33 : Fld Z h33 b33 "com/example/hailwise/hailwise/NodeQueue" "size" "I" (.int (0 : Int32)) := D33 (Or.inl w_25) (ty := .int) (by decide)
  show Goes _ _ _ _ _ _ _ (T33.setTop (mkF m 56 #[.val (.int p0), .val (.int p1), .val (.ref b1), .unset, .unset, .unset, .unset, .unset, .unset, .unset, .unset] [(.ref b33)]))
  refine Goes.step (fun _ k => XS.dup X33.here hx rfl (hb hby at_56) rfl rfl k) ?_
  obtain ⟨_, _, ⟨T37, L37, k37, n37⟩, -, X37, ⟨Lc37, hQ37, l37, y37, z37⟩, st37⟩ := X33.specialBack hx (y := (⟨"com/example/hailwise/hailwise/NodeQueue", "<init>", "()V"⟩ : MethodName)) rfl hown (mvT hZ w_8) (mvT hZ w_9) (mvT hZ w_10) (by decide) (backOf (W := 1) (rm2 l Z a0 hw [] b33 h33 n0 Z36 F_nodes_b33 F_keys_b33 F_size_b33 E_b33 g_b33) hZ w_10 w_7 (by decide) (by decide)) (g := (mkF m 57 #[.val (.int p0), .val (.int p1), .val (.ref b1), .unset, .unset, .unset, .unset, .unset, .unset, .unset, .unset] [(.ref b33), (.ref b33)])) rfl (by rw [hml]; rfl) (Steps.refl _) (a := b33) (argsL := []) (rest := [(.ref b33)]) (lenOf pd_1 rfl) rfl (by show 2 * 0 + _ ≤ _; exact Nat.le_of_eq rfl) (hb hby at_57) (fun _ _ => ⟨rfl, e33, (by decide : 2 + 2 ≤ _), (by decide : 9 + 128 ≤ _)⟩)
  dsimp only [Pt.U, Pt.locs, Pt.cells, Pt.slots] at X37 l37 y37 z37 st37 hQ37
  rw [l37, y37, z37] at X37
  obtain ⟨N37, KK37, hR37⟩ := hQ37
  have NA37 := Fr.app N32 N37
  have f38 := f35.keep KK37 (ninS ne34 nin0)
  have f39 := E_b33.keep KK37
  have K43 : Keep h0 T37.heap [] := K36.trans KK37 (allS (Or.inr sz_b33) all0)
  have Z43 : n0 ≤ T37.heap.size := Nat.le_trans Z36 KK37.1
  obtain ⟨r37_0_0, r37_0_1, kk37_0_0, kk37_0_1, rfl, g_r37_0_0, le_r37_0_0, g_r37_0_1, le_r37_0_1, nn37_0_0, v37_0_0, v37_0_1, v37_0_2, v37_0_3, v37_0_4, v37_0_5⟩ := hR37
  have ne44 : b1 ≠ r37_0_0 := Nat.ne_of_lt (Nat.lt_of_lt_of_le f35.lt le_r37_0_0)
  have ne45 : b33 ≠ r37_0_0 := Nat.ne_of_lt (Nat.lt_of_lt_of_le E_b33.lt le_r37_0_0)
  have sz_r37_0_0 : h0.size ≤ r37_0_0 := Nat.le_trans K36.1 le_r37_0_0
  have ne46 : b1 ≠ r37_0_1 := Nat.ne_of_lt (Nat.lt_of_lt_of_le f35.lt le_r37_0_1)
  have ne47 : b33 ≠ r37_0_1 := Nat.ne_of_lt (Nat.lt_of_lt_of_le E_b33.lt le_r37_0_1)
  have sz_r37_0_1 : h0.size ≤ r37_0_1 := Nat.le_trans K36.1 le_r37_0_1
  refine Goes.back st37 ?_
  show Goes _ _ _ _ _ _ _ (T37.setTop (mkF m 60 _ [(.ref b33)]))
  refine Goes.step (fun _ k => XS.astoreN X37.here hx rfl (hb hby at_60) rfl rfl (l' := #[.val (.int p0), .val (.int p1), .val (.ref b1), .val (.ref b33), .unset, .unset, .unset, .unset, .unset, .unset, .unset]) rfl k) ?_
  show Goes _ _ _ _ _ _ _ (T37.setTop (mkF m 61 _ []))
  refine Goes.step (fun _ k => XS.aloadN X37.here hx rfl (hb hby at_61) rfl rfl k) ?_
  refine Goes.step (fun _ k => XS.iloadN X37.here hx rfl (hb hby at_62) rfl  k) ?_
  refine Goes.step (fun _ k => XS.aloadN X37.here hx rfl (hb hby at_63) rfl rfl k) ?_
  refine Goes.step (fun _ k => XS.iconst X37.here hx rfl (hb hby at_64) k) ?_
  show Goes _ _ _ _ _ _ _ (T37.setTop (mkF m 65 _ [(.int (0 : Int32)), (.ref b1), (.int p1), (.ref b33)]))
  obtain ⟨cl48, Ar48, q48, S48, P48, H48, G48⟩ := id f38
  have hin48 : ¬ ((0 : Int32) < 0 ∨ cl48.slots.size ≤ ((0 : Int32)).toNatClampNeg) := inb_of S48 ⟨by decide, by decide⟩
  have hat48 : cl48.slots[((0 : Int32)).toNatClampNeg]? = some (.int rv3_0) := H48 _ (by rw [S48]; decide)
  refine Goes.step (fun _ k => X37.iaload hx (j := (0 : Int32)) (v := (.int rv3_0)) (by exact Ar48.1) (State.isArrayOf_alike hZ.alike Ar48.2.1) Ar48.2.2 hin48 hat48 (g := (mkF m 65 #[.val (.int p0), .val (.int p1), .val (.ref b1), .val (.ref b33), .unset, .unset, .unset, .unset, .unset, .unset, .unset] [(.int (0 : Int32)), (.ref b1), (.int p1), (.ref b33)])) rfl rfl (hb hby at_65) _ k) ?_
  show Goes _ _ _ _ _ _ _ (T37.setTop (mkF m 66 _ [(.int rv3_0), (.int p1), (.ref b33)]))
  refine Goes.step (fun _ k => XS.i2dS X37.here hx rfl (hb hby at_66) rfl rfl k) ?_
  show Goes _ _ _ _ _ _ _ (T37.setTop (mkF m 67 _ [(.double (FP.i2d rv3_0)), (.int p1), (.ref b33)]))
  obtain ⟨cq49, kq49, q49a, q49b, q49c⟩ := isOf hZ rfl v37_0_3
  obtain ⟨_, _, ⟨T49, L49, k49, n49⟩, -, X49, ⟨Lc49, hQ49, l49, y49, z49⟩, st49⟩ := X37.virtualBack hx (y := (⟨"com/example/hailwise/hailwise/NodeQueue", "add", "(ID)V"⟩ : MethodName)) (z := (⟨"com/example/hailwise/hailwise/NodeQueue", "add", "(ID)V"⟩ : MethodName)) hown (mvT hZ w_19) (mvT hZ w_20) (notFace_of_selects (args := #[]) (mvT hZ w_22)) (mvT hZ w_22) (mvT hZ w_21) (by decide) (backOf (W := 0) (rm4_0 l Z a0 hw [] b33 p1 rv3_0 r37_0_0 r37_0_1 kk37_0_0 kk37_0_1 T37.heap n0 Z43 v37_0_2 v37_0_0 v37_0_1 v37_0_3 v37_0_4 v37_0_5 g_b33 g_r37_0_0 g_r37_0_1 ne45 ne47 (Ne.symm nn37_0_0)) hZ w_23 w_7 (by decide) (by decide)) q49a q49c (g := (mkF m 67 #[.val (.int p0), .val (.int p1), .val (.ref b1), .val (.ref b33), .unset, .unset, .unset, .unset, .unset, .unset, .unset] [(.double (FP.i2d rv3_0)), (.int p1), (.ref b33)])) rfl (by rw [hml]; rfl) (Steps.refl _) (argsL := [(.int p1), (.double (FP.i2d rv3_0))]) (rest := []) (lenOf pd_2 rfl) rfl (by show 2 * 0 + _ ≤ _; exact Nat.le_of_eq rfl) (hb hby at_67) (fun _ _ => ⟨rfl, rfl, (by decide : 4 + 0 ≤ _), (by decide : 137 + 0 ≤ _)⟩)
  dsimp only [Pt.U, Pt.locs, Pt.cells, Pt.slots] at X49 l49 y49 z49 st49 hQ49
  rw [l49, y49, z49] at X49
  obtain ⟨N49, KK49, rfl, Fs49, Fn49, Fk49, qa49_0, qb49_0, Vn49, Vk49, PP49⟩ := hQ49
  have NA49 := Fr.app NA37 N49
  have f50 := f38.keep KK49 (ninS ne34 (ninS ne44 (ninS ne46 nin0)))
  have f51 := v37_0_3.keep KK49
  have K57 : Keep h0 T49.heap [] := K43.trans KK49 (allS (Or.inr sz_b33) (allS (Or.inr sz_r37_0_0) (allS (Or.inr sz_r37_0_1) all0)))
  have Z57 : n0 ≤ T49.heap.size := Nat.le_trans Z43 KK49.1
  refine Goes.back st49 ?_
  show Goes _ _ _ _ _ _ _ (T49.setTop (mkF m 70 _ []))
  refine Goes.step (fun _ k => XS.aloadN X49.here hx rfl (hb hby at_70) rfl rfl k) ?_
  refine Goes.step (fun _ k => XS.iloadN X49.here hx rfl (hb hby at_71) rfl  k) ?_
  refine Goes.step (fun _ k => XS.iconst X49.here hx rfl (hb hby at_72) k) ?_
  refine Goes.step (fun _ k => XS.iadd X49.here hx rfl (hb hby at_73) rfl k) ?_
  show Goes _ _ _ _ _ _ _ (T49.setTop (mkF m 74 #[.val (.int p0), .val (.int p1), .val (.ref b1), .val (.ref b33), .unset, .unset, .unset, .unset, .unset, .unset, .unset] [(.int (p1 + (1 : Int32))), (.ref b33)]))
  refine Goes.step (fun _ k => XS.aloadN X49.here hx rfl (hb hby at_74) rfl rfl k) ?_
  refine Goes.step (fun _ k => XS.iconst X49.here hx rfl (hb hby at_75) k) ?_
  obtain ⟨cl58, Ar58, q58, S58, P58, H58, G58⟩ := id f50
  have hin58 : ¬ ((1 : Int32) < 0 ∨ cl58.slots.size ≤ ((1 : Int32)).toNatClampNeg) := inb_of S58 ⟨by decide, by decide⟩
  have hat58 : cl58.slots[((1 : Int32)).toNatClampNeg]? = some (.int rv8_0) := H58 _ (by rw [S58]; decide)
  refine Goes.step (fun _ k => X49.iaload hx (j := (1 : Int32)) (v := (.int rv8_0)) (by exact Ar58.1) (State.isArrayOf_alike hZ.alike Ar58.2.1) Ar58.2.2 hin58 hat58 (g := (mkF m 76 #[.val (.int p0), .val (.int p1), .val (.ref b1), .val (.ref b33), .unset, .unset, .unset, .unset, .unset, .unset, .unset] [(.int (1 : Int32)), (.ref b1), (.int (p1 + (1 : Int32))), (.ref b33)])) rfl rfl (hb hby at_76) _ k) ?_
  show Goes _ _ _ _ _ _ _ (T49.setTop (mkF m 77 _ [(.int rv8_0), (.int (p1 + (1 : Int32))), (.ref b33)]))
  refine Goes.step (fun _ k => XS.i2dS X49.here hx rfl (hb hby at_77) rfl rfl k) ?_
  show Goes _ _ _ _ _ _ _ (T49.setTop (mkF m 78 _ [(.double (FP.i2d rv8_0)), (.int (p1 + (1 : Int32))), (.ref b33)]))
  obtain ⟨cq59, kq59, q59a, q59b, q59c⟩ := isOf hZ rfl f51
  obtain ⟨_, _, ⟨T59, L59, k59, n59⟩, -, X59, ⟨Lc59, hQ59, l59, y59, z59⟩, st59⟩ := X49.virtualBack hx (y := (⟨"com/example/hailwise/hailwise/NodeQueue", "add", "(ID)V"⟩ : MethodName)) (z := (⟨"com/example/hailwise/hailwise/NodeQueue", "add", "(ID)V"⟩ : MethodName)) hown (mvT hZ w_19) (mvT hZ w_20) (notFace_of_selects (args := #[]) (mvT hZ w_22)) (mvT hZ w_22) (mvT hZ w_21) (by decide) (backOf (W := 0) (rm4_1 l Z a0 hw [] b33 (p1 + (1 : Int32)) rv8_0 r37_0_0 r37_0_1 kk37_0_0 kk37_0_1 qa49_0 qb49_0 T49.heap n0 Z57 Fs49 Fn49 Fk49 f51 Vn49 Vk49 g_b33 g_r37_0_0 g_r37_0_1 ne45 ne47 (Ne.symm nn37_0_0)) hZ w_23 w_7 (by decide) (by decide)) q59a q59c (g := (mkF m 78 #[.val (.int p0), .val (.int p1), .val (.ref b1), .val (.ref b33), .unset, .unset, .unset, .unset, .unset, .unset, .unset] [(.double (FP.i2d rv8_0)), (.int (p1 + (1 : Int32))), (.ref b33)])) rfl (by rw [hml]; rfl) (Steps.refl _) (argsL := [(.int (p1 + (1 : Int32))), (.double (FP.i2d rv8_0))]) (rest := []) (lenOf pd_2 rfl) rfl (by show 2 * 0 + _ ≤ _; exact Nat.le_of_eq rfl) (hb hby at_78) (fun _ _ => ⟨rfl, rfl, (by decide : 4 + 0 ≤ _), (by decide : 137 + 0 ≤ _)⟩)
  dsimp only [Pt.U, Pt.locs, Pt.cells, Pt.slots] at X59 l59 y59 z59 st59 hQ59
  rw [l59, y59, z59] at X59
  obtain ⟨N59, KK59, rfl, Fs59, Fn59, Fk59, qa59_0, qa59_1, qb59_0, qb59_1, Vn59, Vk59, PP59, ho59_01⟩ := hQ59
  have NA59 := Fr.app NA49 N59
  have f60 := f50.keep KK59 (ninS ne34 (ninS ne44 (ninS ne46 nin0)))
  have f61 := f51.keep KK59
  have K67 : Keep h0 T59.heap [] := K57.trans KK59 (allS (Or.inr sz_b33) (allS (Or.inr sz_r37_0_0) (allS (Or.inr sz_r37_0_1) all0)))
  have Z67 : n0 ≤ T59.heap.size := Nat.le_trans Z57 KK59.1
  refine Goes.back st59 ?_
  show Goes _ _ _ _ _ _ _ (T59.setTop (mkF m 81 _ []))
  refine Goes.step (fun _ k => XS.aloadN X59.here hx rfl (hb hby at_81) rfl rfl k) ?_
  refine Goes.step (fun _ k => XS.iloadN X59.here hx rfl (hb hby at_82) rfl  k) ?_
  refine Goes.step (fun _ k => XS.iconst X59.here hx rfl (hb hby at_83) k) ?_
  refine Goes.step (fun _ k => XS.iadd X59.here hx rfl (hb hby at_84) rfl k) ?_
  show Goes _ _ _ _ _ _ _ (T59.setTop (mkF m 85 _ [(.int (p1 + (2 : Int32))), (.ref b33)]))
  refine Goes.step (fun _ k => XS.aloadN X59.here hx rfl (hb hby at_85) rfl rfl k) ?_
  refine Goes.step (fun _ k => XS.iconst X59.here hx rfl (hb hby at_86) k) ?_
  obtain ⟨cl68, Ar68, q68, S68, P68, H68, G68⟩ := id f60
  have hin68 : ¬ ((2 : Int32) < 0 ∨ cl68.slots.size ≤ ((2 : Int32)).toNatClampNeg) := inb_of S68 ⟨by decide, by decide⟩
  have hat68 : cl68.slots[((2 : Int32)).toNatClampNeg]? = some (.int rv13_0) := H68 _ (by rw [S68]; decide)
  refine Goes.step (fun _ k => X59.iaload hx (j := (2 : Int32)) (v := (.int rv13_0)) (by exact Ar68.1) (State.isArrayOf_alike hZ.alike Ar68.2.1) Ar68.2.2 hin68 hat68 (g := (mkF m 87 #[.val (.int p0), .val (.int p1), .val (.ref b1), .val (.ref b33), .unset, .unset, .unset, .unset, .unset, .unset, .unset] [(.int (2 : Int32)), (.ref b1), (.int (p1 + (2 : Int32))), (.ref b33)])) rfl rfl (hb hby at_87) _ k) ?_
  show Goes _ _ _ _ _ _ _ (T59.setTop (mkF m 88 _ [(.int rv13_0), (.int (p1 + (2 : Int32))), (.ref b33)]))
  refine Goes.step (fun _ k => XS.i2dS X59.here hx rfl (hb hby at_88) rfl rfl k) ?_
  show Goes _ _ _ _ _ _ _ (T59.setTop (mkF m 89 _ [(.double (FP.i2d rv13_0)), (.int (p1 + (2 : Int32))), (.ref b33)]))
  obtain ⟨cq69, kq69, q69a, q69b, q69c⟩ := isOf hZ rfl f61
  obtain ⟨_, _, ⟨T69, L69, k69, n69⟩, -, X69, ⟨Lc69, hQ69, l69, y69, z69⟩, st69⟩ := X59.virtualBack hx (y := (⟨"com/example/hailwise/hailwise/NodeQueue", "add", "(ID)V"⟩ : MethodName)) (z := (⟨"com/example/hailwise/hailwise/NodeQueue", "add", "(ID)V"⟩ : MethodName)) hown (mvT hZ w_19) (mvT hZ w_20) (notFace_of_selects (args := #[]) (mvT hZ w_22)) (mvT hZ w_22) (mvT hZ w_21) (by decide) (backOf (W := 0) (rm4_2 l Z a0 hw [] b33 (p1 + (2 : Int32)) rv13_0 r37_0_0 r37_0_1 kk37_0_0 kk37_0_1 qa59_0 qa59_1 qb59_0 qb59_1 T59.heap n0 Z67 Fs59 Fn59 Fk59 f61 Vn59 Vk59 g_b33 g_r37_0_0 g_r37_0_1 ne45 ne47 (Ne.symm nn37_0_0) ho59_01) hZ w_23 w_7 (by decide) (by decide)) q69a q69c (g := (mkF m 89 #[.val (.int p0), .val (.int p1), .val (.ref b1), .val (.ref b33), .unset, .unset, .unset, .unset, .unset, .unset, .unset] [(.double (FP.i2d rv13_0)), (.int (p1 + (2 : Int32))), (.ref b33)])) rfl (by rw [hml]; rfl) (Steps.refl _) (argsL := [(.int (p1 + (2 : Int32))), (.double (FP.i2d rv13_0))]) (rest := []) (lenOf pd_2 rfl) rfl (by show 2 * 0 + _ ≤ _; exact Nat.le_of_eq rfl) (hb hby at_89) (fun _ _ => ⟨rfl, rfl, (by decide : 4 + 0 ≤ _), (by decide : 137 + 0 ≤ _)⟩)
  dsimp only [Pt.U, Pt.locs, Pt.cells, Pt.slots] at X69 l69 y69 z69 st69 hQ69
  rw [l69, y69, z69] at X69
  obtain ⟨N69, KK69, rfl, Fs69, Fn69, Fk69, qa69_0, qa69_1, qa69_2, qb69_0, qb69_1, qb69_2, Vn69, Vk69, PP69, ho69_01, ho69_02⟩ := hQ69
  have NA69 := Fr.app NA59 N69
  have f70 := f60.keep KK69 (ninS ne34 (ninS ne44 (ninS ne46 nin0)))
  have f71 := f61.keep KK69
  have K77 : Keep h0 T69.heap [] := K67.trans KK69 (allS (Or.inr sz_b33) (allS (Or.inr sz_r37_0_0) (allS (Or.inr sz_r37_0_1) all0)))
  have Z77 : n0 ≤ T69.heap.size := Nat.le_trans Z67 KK69.1
  refine Goes.back st69 ?_
  show Goes _ _ _ _ _ _ _ (T69.setTop (mkF m 92 #[.val (.int p0), .val (.int p1), .val (.ref b1), .val (.ref b33), .unset, .unset, .unset, .unset, .unset, .unset, .unset] []))
  refine Goes.step (fun _ k => XS.aloadN X69.here hx rfl (hb hby at_92) rfl rfl k) ?_
  refine Goes.step (fun _ k => XS.iloadN X69.here hx rfl (hb hby at_93) rfl  k) ?_
  refine Goes.step (fun _ k => XS.iconst X69.here hx rfl (hb hby at_94) k) ?_
  refine Goes.step (fun _ k => XS.iadd X69.here hx rfl (hb hby at_95) rfl k) ?_
  show Goes _ _ _ _ _ _ _ (T69.setTop (mkF m 96 _ [(.int (p1 + (3 : Int32))), (.ref b33)]))
  refine Goes.step (fun _ k => XS.aloadN X69.here hx rfl (hb hby at_96) rfl rfl k) ?_
  refine Goes.step (fun _ k => XS.iconst X69.here hx rfl (hb hby at_97) k) ?_
  obtain ⟨cl78, Ar78, q78, S78, P78, H78, G78⟩ := id f70
  have hin78 : ¬ ((3 : Int32) < 0 ∨ cl78.slots.size ≤ ((3 : Int32)).toNatClampNeg) := inb_of S78 ⟨by decide, by decide⟩
  have hat78 : cl78.slots[((3 : Int32)).toNatClampNeg]? = some (.int rv18_0) := H78 _ (by rw [S78]; decide)
  refine Goes.step (fun _ k => X69.iaload hx (j := (3 : Int32)) (v := (.int rv18_0)) (by exact Ar78.1) (State.isArrayOf_alike hZ.alike Ar78.2.1) Ar78.2.2 hin78 hat78 (g := (mkF m 98 #[.val (.int p0), .val (.int p1), .val (.ref b1), .val (.ref b33), .unset, .unset, .unset, .unset, .unset, .unset, .unset] [(.int (3 : Int32)), (.ref b1), (.int (p1 + (3 : Int32))), (.ref b33)])) rfl rfl (hb hby at_98) _ k) ?_
  show Goes _ _ _ _ _ _ _ (T69.setTop (mkF m 99 _ [(.int rv18_0), (.int (p1 + (3 : Int32))), (.ref b33)]))
  refine Goes.step (fun _ k => XS.i2dS X69.here hx rfl (hb hby at_99) rfl rfl k) ?_
  show Goes _ _ _ _ _ _ _ (T69.setTop (mkF m 100 _ [(.double (FP.i2d rv18_0)), (.int (p1 + (3 : Int32))), (.ref b33)]))
  obtain ⟨cq79, kq79, q79a, q79b, q79c⟩ := isOf hZ rfl f71
  obtain ⟨_, _, ⟨T79, L79, k79, n79⟩, -, X79, ⟨Lc79, hQ79, l79, y79, z79⟩, st79⟩ := X69.virtualBack hx (y := (⟨"com/example/hailwise/hailwise/NodeQueue", "add", "(ID)V"⟩ : MethodName)) (z := (⟨"com/example/hailwise/hailwise/NodeQueue", "add", "(ID)V"⟩ : MethodName)) hown (mvT hZ w_19) (mvT hZ w_20) (notFace_of_selects (args := #[]) (mvT hZ w_22)) (mvT hZ w_22) (mvT hZ w_21) (by decide) (backOf (W := 0) (rm4_3 l Z a0 hw [] b33 (p1 + (3 : Int32)) rv18_0 r37_0_0 r37_0_1 kk37_0_0 kk37_0_1 qa69_0 qa69_1 qa69_2 qb69_0 qb69_1 qb69_2 T69.heap n0 Z77 Fs69 Fn69 Fk69 f71 Vn69 Vk69 g_b33 g_r37_0_0 g_r37_0_1 ne45 ne47 (Ne.symm nn37_0_0) ho69_01 ho69_02) hZ w_23 w_7 (by decide) (by decide)) q79a q79c (g := (mkF m 100 #[.val (.int p0), .val (.int p1), .val (.ref b1), .val (.ref b33), .unset, .unset, .unset, .unset, .unset, .unset, .unset] [(.double (FP.i2d rv18_0)), (.int (p1 + (3 : Int32))), (.ref b33)])) rfl (by rw [hml]; rfl) (Steps.refl _) (argsL := [(.int (p1 + (3 : Int32))), (.double (FP.i2d rv18_0))]) (rest := []) (lenOf pd_2 rfl) rfl (by show 2 * 0 + _ ≤ _; exact Nat.le_of_eq rfl) (hb hby at_100) (fun _ _ => ⟨rfl, rfl, (by decide : 4 + 0 ≤ _), (by decide : 137 + 0 ≤ _)⟩)
  dsimp only [Pt.U, Pt.locs, Pt.cells, Pt.slots] at X79 l79 y79 z79 st79 hQ79
  rw [l79, y79, z79] at X79
  obtain ⟨N79, KK79, rfl, Fs79, Fn79, Fk79, qa79_0, qa79_1, qa79_2, qa79_3, qb79_0, qb79_1, qb79_2, qb79_3, Vn79, Vk79, PP79, ho79_01, ho79_02, ho79_13⟩ := hQ79
  have NA79 := Fr.app NA69 N79
  have f80 := f70.keep KK79 (ninS ne34 (ninS ne44 (ninS ne46 nin0)))
  have f81 := f71.keep KK79
  have K87 : Keep h0 T79.heap [] := K77.trans KK79 (allS (Or.inr sz_b33) (allS (Or.inr sz_r37_0_0) (allS (Or.inr sz_r37_0_1) all0)))
  have Z87 : n0 ≤ T79.heap.size := Nat.le_trans Z77 KK79.1
  refine Goes.back st79 ?_
  show Goes _ _ _ _ _ _ _ (T79.setTop (mkF m 103 _ []))
  refine Goes.step (fun _ k => XS.aloadN X79.here hx rfl (hb hby at_103) rfl rfl k) ?_
  refine Goes.step (fun _ k => XS.iloadN X79.here hx rfl (hb hby at_104) rfl  k) ?_
  refine Goes.step (fun _ k => XS.iconst X79.here hx rfl (hb hby at_105) k) ?_
  refine Goes.step (fun _ k => XS.iadd X79.here hx rfl (hb hby at_106) rfl k) ?_
  show Goes _ _ _ _ _ _ _ (T79.setTop (mkF m 107 _ [(.int (p1 + (4 : Int32))), (.ref b33)]))
  refine Goes.step (fun _ k => XS.aloadN X79.here hx rfl (hb hby at_107) rfl rfl k) ?_
  refine Goes.step (fun _ k => XS.iconst X79.here hx rfl (hb hby at_108) k) ?_
  obtain ⟨cl88, Ar88, q88, S88, P88, H88, G88⟩ := id f80
  have hin88 : ¬ ((4 : Int32) < 0 ∨ cl88.slots.size ≤ ((4 : Int32)).toNatClampNeg) := inb_of S88 ⟨by decide, by decide⟩
  have hat88 : cl88.slots[((4 : Int32)).toNatClampNeg]? = some (.int rv23_0) := H88 _ (by rw [S88]; decide)
  refine Goes.step (fun _ k => X79.iaload hx (j := (4 : Int32)) (v := (.int rv23_0)) (by exact Ar88.1) (State.isArrayOf_alike hZ.alike Ar88.2.1) Ar88.2.2 hin88 hat88 (g := (mkF m 109 #[.val (.int p0), .val (.int p1), .val (.ref b1), .val (.ref b33), .unset, .unset, .unset, .unset, .unset, .unset, .unset] [(.int (4 : Int32)), (.ref b1), (.int (p1 + (4 : Int32))), (.ref b33)])) rfl rfl (hb hby at_109) _ k) ?_
  show Goes _ _ _ _ _ _ _ (T79.setTop (mkF m 110 _ [(.int rv23_0), (.int (p1 + (4 : Int32))), (.ref b33)]))
  refine Goes.step (fun _ k => XS.i2dS X79.here hx rfl (hb hby at_110) rfl rfl k) ?_
  show Goes _ _ _ _ _ _ _ (T79.setTop (mkF m 111 #[.val (.int p0), .val (.int p1), .val (.ref b1), .val (.ref b33), .unset, .unset, .unset, .unset, .unset, .unset, .unset] [(.double (FP.i2d rv23_0)), (.int (p1 + (4 : Int32))), (.ref b33)]))
  obtain ⟨cq89, kq89, q89a, q89b, q89c⟩ := isOf hZ rfl f81
  obtain ⟨_, _, ⟨T89, L89, k89, n89⟩, -, X89, ⟨Lc89, hQ89, l89, y89, z89⟩, st89⟩ := X79.virtualBack hx (y := (⟨"com/example/hailwise/hailwise/NodeQueue", "add", "(ID)V"⟩ : MethodName)) (z := (⟨"com/example/hailwise/hailwise/NodeQueue", "add", "(ID)V"⟩ : MethodName)) hown (mvT hZ w_19) (mvT hZ w_20) (notFace_of_selects (args := #[]) (mvT hZ w_22)) (mvT hZ w_22) (mvT hZ w_21) (by decide) (backOf (W := 0) (rm4_4 l Z a0 hw [] b33 (p1 + (4 : Int32)) rv23_0 r37_0_0 r37_0_1 kk37_0_0 kk37_0_1 qa79_0 qa79_1 qa79_2 qa79_3 qb79_0 qb79_1 qb79_2 qb79_3 T79.heap n0 Z87 Fs79 Fn79 Fk79 f81 Vn79 Vk79 g_b33 g_r37_0_0 g_r37_0_1 ne45 ne47 (Ne.symm nn37_0_0) ho79_01 ho79_02 ho79_13) hZ w_23 w_7 (by decide) (by decide)) q89a q89c (g := (mkF m 111 #[.val (.int p0), .val (.int p1), .val (.ref b1), .val (.ref b33), .unset, .unset, .unset, .unset, .unset, .unset, .unset] [(.double (FP.i2d rv23_0)), (.int (p1 + (4 : Int32))), (.ref b33)])) rfl (by rw [hml]; rfl) (Steps.refl _) (argsL := [(.int (p1 + (4 : Int32))), (.double (FP.i2d rv23_0))]) (rest := []) (lenOf pd_2 rfl) rfl (by show 2 * 0 + _ ≤ _; exact Nat.le_of_eq rfl) (hb hby at_111) (fun _ _ => ⟨rfl, rfl, (by decide : 4 + 0 ≤ _), (by decide : 137 + 0 ≤ _)⟩)
  dsimp only [Pt.U, Pt.locs, Pt.cells, Pt.slots] at X89 l89 y89 z89 st89 hQ89
  rw [l89, y89, z89] at X89
  obtain ⟨N89, KK89, rfl, Fs89, Fn89, Fk89, qa89_0, qa89_1, qa89_2, qa89_3, qa89_4, qb89_0, qb89_1, qb89_2, qb89_3, qb89_4, Vn89, Vk89, PP89, ho89_01, ho89_02, ho89_13, ho89_14⟩ := hQ89
  have NA89 := Fr.app NA79 N89
  have f90 := f80.keep KK89 (ninS ne34 (ninS ne44 (ninS ne46 nin0)))
  have f91 := f81.keep KK89
  have K97 : Keep h0 T89.heap [] := K87.trans KK89 (allS (Or.inr sz_b33) (allS (Or.inr sz_r37_0_0) (allS (Or.inr sz_r37_0_1) all0)))
  have Z97 : n0 ≤ T89.heap.size := Nat.le_trans Z87 KK89.1
  refine Goes.back st89 ?_
  show Goes _ _ _ _ _ _ _ (T89.setTop (mkF m 114 _ []))
  refine Goes.step (fun _ k => XS.aloadN X89.here hx rfl (hb hby at_114) rfl rfl k) ?_
  refine Goes.step (fun _ k => XS.iloadN X89.here hx rfl (hb hby at_115) rfl  k) ?_
  refine Goes.step (fun _ k => XS.iconst X89.here hx rfl (hb hby at_116) k) ?_
  refine Goes.step (fun _ k => XS.iadd X89.here hx rfl (hb hby at_117) rfl k) ?_
  show Goes _ _ _ _ _ _ _ (T89.setTop (mkF m 118 _ [(.int (p1 + (5 : Int32))), (.ref b33)]))
  refine Goes.step (fun _ k => XS.aloadN X89.here hx rfl (hb hby at_118) rfl rfl k) ?_
  refine Goes.step (fun _ k => XS.iconst X89.here hx rfl (hb hby at_119) k) ?_
  obtain ⟨cl98, Ar98, q98, S98, P98, H98, G98⟩ := id f90
  have hin98 : ¬ ((5 : Int32) < 0 ∨ cl98.slots.size ≤ ((5 : Int32)).toNatClampNeg) := inb_of S98 ⟨by decide, by decide⟩
  have hat98 : cl98.slots[((5 : Int32)).toNatClampNeg]? = some (.int rv28_0) := H98 _ (by rw [S98]; decide)
  refine Goes.step (fun _ k => X89.iaload hx (j := (5 : Int32)) (v := (.int rv28_0)) (by exact Ar98.1) (State.isArrayOf_alike hZ.alike Ar98.2.1) Ar98.2.2 hin98 hat98 (g := (mkF m 120 #[.val (.int p0), .val (.int p1), .val (.ref b1), .val (.ref b33), .unset, .unset, .unset, .unset, .unset, .unset, .unset] [(.int (5 : Int32)), (.ref b1), (.int (p1 + (5 : Int32))), (.ref b33)])) rfl rfl (hb hby at_120) _ k) ?_
  show Goes _ _ _ _ _ _ _ (T89.setTop (mkF m 121 _ [(.int rv28_0), (.int (p1 + (5 : Int32))), (.ref b33)]))
  refine Goes.step (fun _ k => XS.i2dS X89.here hx rfl (hb hby at_121) rfl rfl k) ?_
  show Goes _ _ _ _ _ _ _ (T89.setTop (mkF m 122 _ [(.double (FP.i2d rv28_0)), (.int (p1 + (5 : Int32))), (.ref b33)]))
  obtain ⟨cq99, kq99, q99a, q99b, q99c⟩ := isOf hZ rfl f91
  obtain ⟨_, _, ⟨T99, L99, k99, n99⟩, -, X99, ⟨Lc99, hQ99, l99, y99, z99⟩, st99⟩ := X89.virtualBack hx (y := (⟨"com/example/hailwise/hailwise/NodeQueue", "add", "(ID)V"⟩ : MethodName)) (z := (⟨"com/example/hailwise/hailwise/NodeQueue", "add", "(ID)V"⟩ : MethodName)) hown (mvT hZ w_19) (mvT hZ w_20) (notFace_of_selects (args := #[]) (mvT hZ w_22)) (mvT hZ w_22) (mvT hZ w_21) (by decide) (backOf (W := 0) (rm4_5 l Z a0 hw [] b33 (p1 + (5 : Int32)) rv28_0 r37_0_0 r37_0_1 kk37_0_0 kk37_0_1 qa89_0 qa89_1 qa89_2 qa89_3 qa89_4 qb89_0 qb89_1 qb89_2 qb89_3 qb89_4 T89.heap n0 Z97 Fs89 Fn89 Fk89 f91 Vn89 Vk89 g_b33 g_r37_0_0 g_r37_0_1 ne45 ne47 (Ne.symm nn37_0_0) ho89_01 ho89_02 ho89_13 ho89_14) hZ w_23 w_7 (by decide) (by decide)) q99a q99c (g := (mkF m 122 #[.val (.int p0), .val (.int p1), .val (.ref b1), .val (.ref b33), .unset, .unset, .unset, .unset, .unset, .unset, .unset] [(.double (FP.i2d rv28_0)), (.int (p1 + (5 : Int32))), (.ref b33)])) rfl (by rw [hml]; rfl) (Steps.refl _) (argsL := [(.int (p1 + (5 : Int32))), (.double (FP.i2d rv28_0))]) (rest := []) (lenOf pd_2 rfl) rfl (by show 2 * 0 + _ ≤ _; exact Nat.le_of_eq rfl) (hb hby at_122) (fun _ _ => ⟨rfl, rfl, (by decide : 4 + 0 ≤ _), (by decide : 137 + 0 ≤ _)⟩)
  dsimp only [Pt.U, Pt.locs, Pt.cells, Pt.slots] at X99 l99 y99 z99 st99 hQ99
  rw [l99, y99, z99] at X99
  obtain ⟨N99, KK99, rfl, Fs99, Fn99, Fk99, qa99_0, qa99_1, qa99_2, qa99_3, qa99_4, qa99_5, qb99_0, qb99_1, qb99_2, qb99_3, qb99_4, qb99_5, Vn99, Vk99, PP99, ho99_01, ho99_02, ho99_13, ho99_14, ho99_25⟩ := hQ99
  have NA99 := Fr.app NA89 N99
  have f100 := f90.keep KK99 (ninS ne34 (ninS ne44 (ninS ne46 nin0)))
  have f101 := f91.keep KK99
  have K107 : Keep h0 T99.heap [] := K97.trans KK99 (allS (Or.inr sz_b33) (allS (Or.inr sz_r37_0_0) (allS (Or.inr sz_r37_0_1) all0)))
  have Z107 : n0 ≤ T99.heap.size := Nat.le_trans Z97 KK99.1
  refine Goes.back st99 ?_
  show Goes _ _ _ _ _ _ _ (T99.setTop (mkF m 125 _ []))
  refine Goes.step (fun _ k => XS.aloadN X99.here hx rfl (hb hby at_125) rfl rfl k) ?_
  obtain ⟨cq108, kq108, q108a, q108b, q108c⟩ := isOf hZ rfl f101
  obtain ⟨_, _, ⟨T108, L108, k108, n108⟩, -, X108, ⟨Lc108, hQ108, l108, y108, z108⟩, st108⟩ := X99.virtualBack hx (y := (⟨"com/example/hailwise/hailwise/NodeQueue", "poll", "()I"⟩ : MethodName)) (z := (⟨"com/example/hailwise/hailwise/NodeQueue", "poll", "()I"⟩ : MethodName)) hown (mvT hZ w_26) (mvT hZ w_27) (notFace_of_selects (args := #[]) (mvT hZ w_29)) (mvT hZ w_29) (mvT hZ w_28) (by decide) (backOf (W := 0) (rm5_6 l Z a0 hw [] b33 r37_0_0 r37_0_1 kk37_0_0 kk37_0_1 qa99_0 qa99_1 qa99_2 qa99_3 qa99_4 qa99_5 qb99_0 qb99_1 qb99_2 qb99_3 qb99_4 qb99_5 T99.heap n0 Z107 Fs99 Fn99 Fk99 f101 Vn99 Vk99 g_b33 g_r37_0_0 g_r37_0_1 ne45 ne47 (Ne.symm nn37_0_0) ho99_01 ho99_02 ho99_13 ho99_14 ho99_25) hZ w_30 w_7 (by decide) (by decide)) q108a q108c (g := (mkF m 126 #[.val (.int p0), .val (.int p1), .val (.ref b1), .val (.ref b33), .unset, .unset, .unset, .unset, .unset, .unset, .unset] [(.ref b33)])) rfl (by rw [hml]; rfl) (Steps.refl _) (argsL := []) (rest := []) (lenOf pd_3 rfl) rfl (by show 2 * 0 + _ ≤ _; exact Nat.le_of_eq rfl) (hb hby at_126) (fun _ _ => ⟨rfl, rfl, (by decide : 4 + 0 ≤ _), (by decide : 137 + 0 ≤ _)⟩)
  dsimp only [Pt.U, Pt.locs, Pt.cells, Pt.slots] at X108 l108 y108 z108 st108 hQ108
  rw [l108, y108, z108] at X108
  obtain ⟨N108, KK108, rfl, Fs108, Fn108, Fk108, qa108_0, qa108_1, qa108_2, qa108_3, qa108_4, qa108_5, qb108_0, qb108_1, qb108_2, qb108_3, qb108_4, qb108_5, Vn108, Vk108, PP108, ho108_01, ho108_02, ho108_13, ho108_14, hr108⟩ := hQ108
  have NA108 := Fr.app NA99 N108
  have f109 := f100.keep KK108 (ninS ne34 (ninS ne44 (ninS ne46 nin0)))
  have f110 := f101.keep KK108
  have K116 : Keep h0 T108.heap [] := K107.trans KK108 (allS (Or.inr sz_b33) (allS (Or.inr sz_r37_0_0) (allS (Or.inr sz_r37_0_1) all0)))
  have Z116 : n0 ≤ T108.heap.size := Nat.le_trans Z107 KK108.1
  refine Goes.back st108 ?_
  show Goes _ _ _ _ _ _ _ (T108.setTop (mkF m 129 _ [(.int qa99_0)]))
  refine Goes.step (fun _ k => XS.iloadN X108.here hx rfl (hb hby at_129) rfl  k) ?_
  refine Goes.step (fun _ k => XS.isub X108.here hx rfl (hb hby at_130) rfl k) ?_
  show Goes _ _ _ _ _ _ _ (T108.setTop (mkF m 131 #[.val (.int p0), .val (.int p1), .val (.ref b1), .val (.ref b33), .unset, .unset, .unset, .unset, .unset, .unset, .unset] [(.int (qa99_0 - p1))]))
  refine Goes.step (fun _ k => XS.istore X108.here hx rfl (hb hby at_131) rfl (l' := #[.val (.int p0), .val (.int p1), .val (.ref b1), .val (.ref b33), .val (.int (qa99_0 - p1)), .unset, .unset, .unset, .unset, .unset, .unset]) rfl k) ?_
  show Goes _ _ _ _ _ _ _ (T108.setTop (mkF m 133 _ []))
  refine Goes.step (fun _ k => XS.aloadN X108.here hx rfl (hb hby at_133) rfl rfl k) ?_
  obtain ⟨cq117, kq117, q117a, q117b, q117c⟩ := isOf hZ rfl f110
  obtain ⟨_, _, ⟨T117, L117, k117, n117⟩, -, X117, ⟨Lc117, hQ117, l117, y117, z117⟩, st117⟩ := X108.virtualBack hx (y := (⟨"com/example/hailwise/hailwise/NodeQueue", "poll", "()I"⟩ : MethodName)) (z := (⟨"com/example/hailwise/hailwise/NodeQueue", "poll", "()I"⟩ : MethodName)) hown (mvT hZ w_26) (mvT hZ w_27) (notFace_of_selects (args := #[]) (mvT hZ w_29)) (mvT hZ w_29) (mvT hZ w_28) (by decide) (backOf (W := 0) (rm5_5 l Z a0 hw [] b33 r37_0_0 r37_0_1 kk37_0_0 kk37_0_1 qa108_0 qa108_1 qa108_2 qa108_3 qa108_4 qa108_5 qb108_0 qb108_1 qb108_2 qb108_3 qb108_4 qb108_5 T108.heap n0 Z116 Fs108 Fn108 Fk108 f110 Vn108 Vk108 g_b33 g_r37_0_0 g_r37_0_1 ne45 ne47 (Ne.symm nn37_0_0) ho108_01 ho108_02 ho108_13 ho108_14) hZ w_30 w_7 (by decide) (by decide)) q117a q117c (g := (mkF m 134 #[.val (.int p0), .val (.int p1), .val (.ref b1), .val (.ref b33), .val (.int (qa99_0 - p1)), .unset, .unset, .unset, .unset, .unset, .unset] [(.ref b33)])) rfl (by rw [hml]; rfl) (Steps.refl _) (argsL := []) (rest := []) (lenOf pd_3 rfl) rfl (by show 2 * 0 + _ ≤ _; exact Nat.le_of_eq rfl) (hb hby at_134) (fun _ _ => ⟨rfl, rfl, (by decide : 4 + 0 ≤ _), (by decide : 137 + 0 ≤ _)⟩)
  dsimp only [Pt.U, Pt.locs, Pt.cells, Pt.slots] at X117 l117 y117 z117 st117 hQ117
  rw [l117, y117, z117] at X117
  obtain ⟨N117, KK117, rfl, Fs117, Fn117, Fk117, qa117_0, qa117_1, qa117_2, qa117_3, qa117_4, qa117_5, qb117_0, qb117_1, qb117_2, qb117_3, qb117_4, qb117_5, Vn117, Vk117, PP117, ho117_01, ho117_02, ho117_13, hr117⟩ := hQ117
  have NA117 := Fr.app NA108 N117
  have f118 := f109.keep KK117 (ninS ne34 (ninS ne44 (ninS ne46 nin0)))
  have f119 := f110.keep KK117
  have K125 : Keep h0 T117.heap [] := K116.trans KK117 (allS (Or.inr sz_b33) (allS (Or.inr sz_r37_0_0) (allS (Or.inr sz_r37_0_1) all0)))
  have Z125 : n0 ≤ T117.heap.size := Nat.le_trans Z116 KK117.1
  refine Goes.back st117 ?_
  show Goes _ _ _ _ _ _ _ (T117.setTop (mkF m 137 _ [(.int qa108_0)]))
  refine Goes.step (fun _ k => XS.iloadN X117.here hx rfl (hb hby at_137) rfl  k) ?_
  refine Goes.step (fun _ k => XS.isub X117.here hx rfl (hb hby at_138) rfl k) ?_
  show Goes _ _ _ _ _ _ _ (T117.setTop (mkF m 139 _ [(.int (qa108_0 - p1))]))
  refine Goes.step (fun _ k => XS.istore X117.here hx rfl (hb hby at_139) rfl (l' := #[.val (.int p0), .val (.int p1), .val (.ref b1), .val (.ref b33), .val (.int (qa99_0 - p1)), .val (.int (qa108_0 - p1)), .unset, .unset, .unset, .unset, .unset]) rfl k) ?_
  show Goes _ _ _ _ _ _ _ (T117.setTop (mkF m 141 _ []))
  refine Goes.step (fun _ k => XS.aloadN X117.here hx rfl (hb hby at_141) rfl rfl k) ?_
  obtain ⟨cq126, kq126, q126a, q126b, q126c⟩ := isOf hZ rfl f119
  obtain ⟨_, _, ⟨T126, L126, k126, n126⟩, -, X126, ⟨Lc126, hQ126, l126, y126, z126⟩, st126⟩ := X117.virtualBack hx (y := (⟨"com/example/hailwise/hailwise/NodeQueue", "poll", "()I"⟩ : MethodName)) (z := (⟨"com/example/hailwise/hailwise/NodeQueue", "poll", "()I"⟩ : MethodName)) hown (mvT hZ w_26) (mvT hZ w_27) (notFace_of_selects (args := #[]) (mvT hZ w_29)) (mvT hZ w_29) (mvT hZ w_28) (by decide) (backOf (W := 0) (rm5_4 l Z a0 hw [] b33 r37_0_0 r37_0_1 kk37_0_0 kk37_0_1 qa117_0 qa117_1 qa117_2 qa117_3 qa117_4 qa117_5 qb117_0 qb117_1 qb117_2 qb117_3 qb117_4 qb117_5 T117.heap n0 Z125 Fs117 Fn117 Fk117 f119 Vn117 Vk117 g_b33 g_r37_0_0 g_r37_0_1 ne45 ne47 (Ne.symm nn37_0_0) ho117_01 ho117_02 ho117_13) hZ w_30 w_7 (by decide) (by decide)) q126a q126c (g := (mkF m 142 #[.val (.int p0), .val (.int p1), .val (.ref b1), .val (.ref b33), .val (.int (qa99_0 - p1)), .val (.int (qa108_0 - p1)), .unset, .unset, .unset, .unset, .unset] [(.ref b33)])) rfl (by rw [hml]; rfl) (Steps.refl _) (argsL := []) (rest := []) (lenOf pd_3 rfl) rfl (by show 2 * 0 + _ ≤ _; exact Nat.le_of_eq rfl) (hb hby at_142) (fun _ _ => ⟨rfl, rfl, (by decide : 4 + 0 ≤ _), (by decide : 137 + 0 ≤ _)⟩)
  dsimp only [Pt.U, Pt.locs, Pt.cells, Pt.slots] at X126 l126 y126 z126 st126 hQ126
  rw [l126, y126, z126] at X126
  obtain ⟨N126, KK126, rfl, Fs126, Fn126, Fk126, qa126_0, qa126_1, qa126_2, qa126_3, qa126_4, qa126_5, qb126_0, qb126_1, qb126_2, qb126_3, qb126_4, qb126_5, Vn126, Vk126, PP126, ho126_01, ho126_02, hr126⟩ := hQ126
  have NA126 := Fr.app NA117 N126
  have f127 := f118.keep KK126 (ninS ne34 (ninS ne44 (ninS ne46 nin0)))
  have f128 := f119.keep KK126
  have K134 : Keep h0 T126.heap [] := K125.trans KK126 (allS (Or.inr sz_b33) (allS (Or.inr sz_r37_0_0) (allS (Or.inr sz_r37_0_1) all0)))
  have Z134 : n0 ≤ T126.heap.size := Nat.le_trans Z125 KK126.1
  refine Goes.back st126 ?_
  show Goes _ _ _ _ _ _ _ (T126.setTop (mkF m 145 _ [(.int qa117_0)]))
  refine Goes.step (fun _ k => XS.iloadN X126.here hx rfl (hb hby at_145) rfl  k) ?_
  refine Goes.step (fun _ k => XS.isub X126.here hx rfl (hb hby at_146) rfl k) ?_
  show Goes _ _ _ _ _ _ _ (T126.setTop (mkF m 147 _ [(.int (qa117_0 - p1))]))
  refine Goes.step (fun _ k => XS.istore X126.here hx rfl (hb hby at_147) rfl (l' := #[.val (.int p0), .val (.int p1), .val (.ref b1), .val (.ref b33), .val (.int (qa99_0 - p1)), .val (.int (qa108_0 - p1)), .val (.int (qa117_0 - p1)), .unset, .unset, .unset, .unset]) rfl k) ?_
  show Goes _ _ _ _ _ _ _ (T126.setTop (mkF m 149 #[.val (.int p0), .val (.int p1), .val (.ref b1), .val (.ref b33), .val (.int (qa99_0 - p1)), .val (.int (qa108_0 - p1)), .val (.int (qa117_0 - p1)), .unset, .unset, .unset, .unset] []))
  refine Goes.step (fun _ k => XS.aloadN X126.here hx rfl (hb hby at_149) rfl rfl k) ?_
  obtain ⟨cq135, kq135, q135a, q135b, q135c⟩ := isOf hZ rfl f128
  obtain ⟨_, _, ⟨T135, L135, k135, n135⟩, -, X135, ⟨Lc135, hQ135, l135, y135, z135⟩, st135⟩ := X126.virtualBack hx (y := (⟨"com/example/hailwise/hailwise/NodeQueue", "poll", "()I"⟩ : MethodName)) (z := (⟨"com/example/hailwise/hailwise/NodeQueue", "poll", "()I"⟩ : MethodName)) hown (mvT hZ w_26) (mvT hZ w_27) (notFace_of_selects (args := #[]) (mvT hZ w_29)) (mvT hZ w_29) (mvT hZ w_28) (by decide) (backOf (W := 0) (rm5_3 l Z a0 hw [] b33 r37_0_0 r37_0_1 kk37_0_0 kk37_0_1 qa126_0 qa126_1 qa126_2 qa126_3 qa126_4 qa126_5 qb126_0 qb126_1 qb126_2 qb126_3 qb126_4 qb126_5 T126.heap n0 Z134 Fs126 Fn126 Fk126 f128 Vn126 Vk126 g_b33 g_r37_0_0 g_r37_0_1 ne45 ne47 (Ne.symm nn37_0_0) ho126_01 ho126_02) hZ w_30 w_7 (by decide) (by decide)) q135a q135c (g := (mkF m 150 #[.val (.int p0), .val (.int p1), .val (.ref b1), .val (.ref b33), .val (.int (qa99_0 - p1)), .val (.int (qa108_0 - p1)), .val (.int (qa117_0 - p1)), .unset, .unset, .unset, .unset] [(.ref b33)])) rfl (by rw [hml]; rfl) (Steps.refl _) (argsL := []) (rest := []) (lenOf pd_3 rfl) rfl (by show 2 * 0 + _ ≤ _; exact Nat.le_of_eq rfl) (hb hby at_150) (fun _ _ => ⟨rfl, rfl, (by decide : 4 + 0 ≤ _), (by decide : 137 + 0 ≤ _)⟩)
  dsimp only [Pt.U, Pt.locs, Pt.cells, Pt.slots] at X135 l135 y135 z135 st135 hQ135
  rw [l135, y135, z135] at X135
  obtain ⟨N135, KK135, rfl, Fs135, Fn135, Fk135, qa135_0, qa135_1, qa135_2, qa135_3, qa135_4, qa135_5, qb135_0, qb135_1, qb135_2, qb135_3, qb135_4, qb135_5, Vn135, Vk135, PP135, ho135_01, hr135⟩ := hQ135
  have NA135 := Fr.app NA126 N135
  have f136 := f127.keep KK135 (ninS ne34 (ninS ne44 (ninS ne46 nin0)))
  have f137 := f128.keep KK135
  have K143 : Keep h0 T135.heap [] := K134.trans KK135 (allS (Or.inr sz_b33) (allS (Or.inr sz_r37_0_0) (allS (Or.inr sz_r37_0_1) all0)))
  have Z143 : n0 ≤ T135.heap.size := Nat.le_trans Z134 KK135.1
  refine Goes.back st135 ?_
  show Goes _ _ _ _ _ _ _ (T135.setTop (mkF m 153 _ [(.int qa126_0)]))
  refine Goes.step (fun _ k => XS.iloadN X135.here hx rfl (hb hby at_153) rfl  k) ?_
  refine Goes.step (fun _ k => XS.isub X135.here hx rfl (hb hby at_154) rfl k) ?_
  show Goes _ _ _ _ _ _ _ (T135.setTop (mkF m 155 _ [(.int (qa126_0 - p1))]))
  refine Goes.step (fun _ k => XS.istore X135.here hx rfl (hb hby at_155) rfl (l' := #[.val (.int p0), .val (.int p1), .val (.ref b1), .val (.ref b33), .val (.int (qa99_0 - p1)), .val (.int (qa108_0 - p1)), .val (.int (qa117_0 - p1)), .val (.int (qa126_0 - p1)), .unset, .unset, .unset]) rfl k) ?_
  show Goes _ _ _ _ _ _ _ (T135.setTop (mkF m 157 _ []))
  refine Goes.step (fun _ k => XS.aloadN X135.here hx rfl (hb hby at_157) rfl rfl k) ?_
  obtain ⟨cq144, kq144, q144a, q144b, q144c⟩ := isOf hZ rfl f137
  obtain ⟨_, _, ⟨T144, L144, k144, n144⟩, -, X144, ⟨Lc144, hQ144, l144, y144, z144⟩, st144⟩ := X135.virtualBack hx (y := (⟨"com/example/hailwise/hailwise/NodeQueue", "poll", "()I"⟩ : MethodName)) (z := (⟨"com/example/hailwise/hailwise/NodeQueue", "poll", "()I"⟩ : MethodName)) hown (mvT hZ w_26) (mvT hZ w_27) (notFace_of_selects (args := #[]) (mvT hZ w_29)) (mvT hZ w_29) (mvT hZ w_28) (by decide) (backOf (W := 0) (rm5_2 l Z a0 hw [] b33 r37_0_0 r37_0_1 kk37_0_0 kk37_0_1 qa135_0 qa135_1 qa135_2 qa135_3 qa135_4 qa135_5 qb135_0 qb135_1 qb135_2 qb135_3 qb135_4 qb135_5 T135.heap n0 Z143 Fs135 Fn135 Fk135 f137 Vn135 Vk135 g_b33 g_r37_0_0 g_r37_0_1 ne45 ne47 (Ne.symm nn37_0_0) ho135_01) hZ w_30 w_7 (by decide) (by decide)) q144a q144c (g := (mkF m 158 #[.val (.int p0), .val (.int p1), .val (.ref b1), .val (.ref b33), .val (.int (qa99_0 - p1)), .val (.int (qa108_0 - p1)), .val (.int (qa117_0 - p1)), .val (.int (qa126_0 - p1)), .unset, .unset, .unset] [(.ref b33)])) rfl (by rw [hml]; rfl) (Steps.refl _) (argsL := []) (rest := []) (lenOf pd_3 rfl) rfl (by show 2 * 0 + _ ≤ _; exact Nat.le_of_eq rfl) (hb hby at_158) (fun _ _ => ⟨rfl, rfl, (by decide : 4 + 0 ≤ _), (by decide : 137 + 0 ≤ _)⟩)
  dsimp only [Pt.U, Pt.locs, Pt.cells, Pt.slots] at X144 l144 y144 z144 st144 hQ144
  rw [l144, y144, z144] at X144
  obtain ⟨N144, KK144, rfl, Fs144, Fn144, Fk144, qa144_0, qa144_1, qa144_2, qa144_3, qa144_4, qa144_5, qb144_0, qb144_1, qb144_2, qb144_3, qb144_4, qb144_5, Vn144, Vk144, PP144, hr144⟩ := hQ144
  have NA144 := Fr.app NA135 N144
  have f145 := f136.keep KK144 (ninS ne34 (ninS ne44 (ninS ne46 nin0)))
  have f146 := f137.keep KK144
  have K152 : Keep h0 T144.heap [] := K143.trans KK144 (allS (Or.inr sz_b33) (allS (Or.inr sz_r37_0_0) (allS (Or.inr sz_r37_0_1) all0)))
  have Z152 : n0 ≤ T144.heap.size := Nat.le_trans Z143 KK144.1
  refine Goes.back st144 ?_
  show Goes _ _ _ _ _ _ _ (T144.setTop (mkF m 161 _ [(.int qa135_0)]))
  refine Goes.step (fun _ k => XS.iloadN X144.here hx rfl (hb hby at_161) rfl  k) ?_
  refine Goes.step (fun _ k => XS.isub X144.here hx rfl (hb hby at_162) rfl k) ?_
  show Goes _ _ _ _ _ _ _ (T144.setTop (mkF m 163 _ [(.int (qa135_0 - p1))]))
  refine Goes.step (fun _ k => XS.istore X144.here hx rfl (hb hby at_163) rfl (l' := #[.val (.int p0), .val (.int p1), .val (.ref b1), .val (.ref b33), .val (.int (qa99_0 - p1)), .val (.int (qa108_0 - p1)), .val (.int (qa117_0 - p1)), .val (.int (qa126_0 - p1)), .val (.int (qa135_0 - p1)), .unset, .unset]) rfl k) ?_
  show Goes _ _ _ _ _ _ _ (T144.setTop (mkF m 165 _ []))
  refine Goes.step (fun _ k => XS.aloadN X144.here hx rfl (hb hby at_165) rfl rfl k) ?_
  obtain ⟨cq153, kq153, q153a, q153b, q153c⟩ := isOf hZ rfl f146
  obtain ⟨_, _, ⟨T153, L153, k153, n153⟩, -, X153, ⟨Lc153, hQ153, l153, y153, z153⟩, st153⟩ := X144.virtualBack hx (y := (⟨"com/example/hailwise/hailwise/NodeQueue", "poll", "()I"⟩ : MethodName)) (z := (⟨"com/example/hailwise/hailwise/NodeQueue", "poll", "()I"⟩ : MethodName)) hown (mvT hZ w_26) (mvT hZ w_27) (notFace_of_selects (args := #[]) (mvT hZ w_29)) (mvT hZ w_29) (mvT hZ w_28) (by decide) (backOf (W := 0) (rm5_1 l Z a0 hw [] b33 r37_0_0 r37_0_1 kk37_0_0 kk37_0_1 qa144_0 qa144_1 qa144_2 qa144_3 qa144_4 qa144_5 qb144_0 qb144_1 qb144_2 qb144_3 qb144_4 qb144_5 T144.heap n0 Z152 Fs144 Fn144 Fk144 f146 Vn144 Vk144 g_b33 g_r37_0_0 g_r37_0_1 ne45 ne47 (Ne.symm nn37_0_0)) hZ w_30 w_7 (by decide) (by decide)) q153a q153c (g := (mkF m 166 #[.val (.int p0), .val (.int p1), .val (.ref b1), .val (.ref b33), .val (.int (qa99_0 - p1)), .val (.int (qa108_0 - p1)), .val (.int (qa117_0 - p1)), .val (.int (qa126_0 - p1)), .val (.int (qa135_0 - p1)), .unset, .unset] [(.ref b33)])) rfl (by rw [hml]; rfl) (Steps.refl _) (argsL := []) (rest := []) (lenOf pd_3 rfl) rfl (by show 2 * 0 + _ ≤ _; exact Nat.le_of_eq rfl) (hb hby at_166) (fun _ _ => ⟨rfl, rfl, (by decide : 4 + 0 ≤ _), (by decide : 137 + 0 ≤ _)⟩)
  dsimp only [Pt.U, Pt.locs, Pt.cells, Pt.slots] at X153 l153 y153 z153 st153 hQ153
  rw [l153, y153, z153] at X153
  obtain ⟨N153, KK153, rfl, Fs153, Fn153, Fk153, qa153_0, qa153_1, qa153_2, qa153_3, qa153_4, qa153_5, qb153_0, qb153_1, qb153_2, qb153_3, qb153_4, qb153_5, Vn153, Vk153, PP153⟩ := hQ153
  have NA153 := Fr.app NA144 N153
  have f154 := f145.keep KK153 (ninS ne34 (ninS ne44 (ninS ne46 nin0)))
  have f155 := f146.keep KK153
  have K161 : Keep h0 T153.heap [] := K152.trans KK153 (allS (Or.inr sz_b33) (allS (Or.inr sz_r37_0_0) (allS (Or.inr sz_r37_0_1) all0)))
  have Z161 : n0 ≤ T153.heap.size := Nat.le_trans Z152 KK153.1
  refine Goes.back st153 ?_
  show Goes _ _ _ _ _ _ _ (T153.setTop (mkF m 169 #[.val (.int p0), .val (.int p1), .val (.ref b1), .val (.ref b33), .val (.int (qa99_0 - p1)), .val (.int (qa108_0 - p1)), .val (.int (qa117_0 - p1)), .val (.int (qa126_0 - p1)), .val (.int (qa135_0 - p1)), .unset, .unset] [(.int qa144_0)]))
  refine Goes.step (fun _ k => XS.iloadN X153.here hx rfl (hb hby at_169) rfl  k) ?_
  refine Goes.step (fun _ k => XS.isub X153.here hx rfl (hb hby at_170) rfl k) ?_
  show Goes _ _ _ _ _ _ _ (T153.setTop (mkF m 171 _ [(.int (qa144_0 - p1))]))
  refine Goes.step (fun _ k => XS.istore X153.here hx rfl (hb hby at_171) rfl (l' := #[.val (.int p0), .val (.int p1), .val (.ref b1), .val (.ref b33), .val (.int (qa99_0 - p1)), .val (.int (qa108_0 - p1)), .val (.int (qa117_0 - p1)), .val (.int (qa126_0 - p1)), .val (.int (qa135_0 - p1)), .val (.int (qa144_0 - p1)), .unset]) rfl k) ?_
  show Goes _ _ _ _ _ _ _ (T153.setTop (mkF m 173 _ []))
  show Goes _ _ _ _ _ _ _ (T153.setTop (mkF m 173 #[.val (.int p0), .val (.int p1), .val (.ref b1), .val (.ref b33), .val (.int (qa99_0 - p1)), .val (.int (qa108_0 - p1)), .val (.int (qa117_0 - p1)), .val (.int (qa126_0 - p1)), .val (.int (qa135_0 - p1)), .val (.int (qa144_0 - p1)), .unset] []))
  have hE : ([(qa99_0, qb99_0), (qa108_0, qb108_0), (qa117_0, qb117_0), (qa126_0, qb126_0), (qa135_0, qb135_0), (qa144_0, qb144_0)] : List (Int32 × Int32)).Perm ([(p1 + (5 : Int32), rv28_0), (p1 + (4 : Int32), rv23_0), (p1 + (3 : Int32), rv18_0), (p1 + (2 : Int32), rv13_0), (p1 + (1 : Int32), rv8_0), (p1, rv3_0)] : List (Int32 × Int32)) := (List.Perm.cons _ ((List.Perm.cons _ ((List.Perm.cons _ ((List.Perm.cons _ ((List.Perm.cons _ ((List.Perm.refl _).trans PP144)).trans PP135)).trans PP126)).trans PP117)).trans PP108)).trans (PP99.trans (List.Perm.cons _ (PP89.trans (List.Perm.cons _ (PP79.trans (List.Perm.cons _ (PP69.trans (List.Perm.cons _ (PP59.trans (List.Perm.cons _ PP49))))))))))
  have hseen := own_seen hE
  obtain ⟨hi0a, hi0b, hi0c⟩ := own_one (hE.mem_iff.mp (List.mem_of_getElem? (i := 0) rfl))
  obtain ⟨hi1a, hi1b, hi1c⟩ := own_one (hE.mem_iff.mp (List.mem_of_getElem? (i := 1) rfl))
  obtain ⟨hi2a, hi2b, hi2c⟩ := own_one (hE.mem_iff.mp (List.mem_of_getElem? (i := 2) rfl))
  obtain ⟨hi3a, hi3b, hi3c⟩ := own_one (hE.mem_iff.mp (List.mem_of_getElem? (i := 3) rfl))
  obtain ⟨hi4a, hi4b, hi4c⟩ := own_one (hE.mem_iff.mp (List.mem_of_getElem? (i := 4) rfl))
  obtain ⟨hi5a, hi5b, hi5c⟩ := own_one (hE.mem_iff.mp (List.mem_of_getElem? (i := 5) rfl))
  refine Goes.step (fun _ k => XS.iload X153.here hx rfl (hb hby at_173) rfl  k) ?_
  obtain ⟨_, _, ⟨T162, L162, k162, n162⟩, -, X162, ⟨Lc162, hQ162, l162, y162, z162⟩, st162⟩ := Jvm.LawKit.callS X153 hx (y := (⟨"com/example/hailwise/hailwise/NodeQueuePollPinLaw", "in", "(I)Z"⟩ : MethodName)) hown (mvT hZ w_31) (mvT hZ w_32) (mvT hZ w_3) (mvT hZ w_33) (by decide) (backOf (W := 0) (rm6 l Z a0 hw [] (qa99_0 - p1) T153.heap n0 Z161 ) hZ w_33 w_3 (by decide) (by decide)) (g := (mkF m 175 #[.val (.int p0), .val (.int p1), .val (.ref b1), .val (.ref b33), .val (.int (qa99_0 - p1)), .val (.int (qa108_0 - p1)), .val (.int (qa117_0 - p1)), .val (.int (qa126_0 - p1)), .val (.int (qa135_0 - p1)), .val (.int (qa144_0 - p1)), .unset] [(.int (qa99_0 - p1))])) rfl (by rw [hml]; rfl) (argsL := [(.int (qa99_0 - p1))]) (rest := []) (lenOf pd_4 rfl) rfl (by show 2 * 0 + _ ≤ _; exact Nat.le_of_eq rfl) (hb hby at_175) (fun _ _ => ⟨rfl, rfl, (by decide : 4 + 0 ≤ _), (by decide : 137 + 0 ≤ _)⟩)
  dsimp only [Pt.U, Pt.locs, Pt.cells, Pt.slots] at X162 l162 y162 z162 st162 hQ162
  rw [l162, y162, z162] at X162
  obtain ⟨N162, eh162, hR162⟩ := hQ162
  have NA162 := Fr.app NA153 N162
  rcases hR162 with ⟨rfl, u162_0_0⟩ | ⟨rfl, u162_1_0, u162_1_1⟩ | ⟨rfl, u162_2_0, u162_2_1⟩
  · exact absurd u162_0_0 hi0a
  · refine Goes.step st162 ?_
    show Goes _ _ _ _ _ _ _ (T162.setTop (mkF m 178 _ [(.int (1 : Int32))]))
    refine Goes.step (fun _ k => XS.ifNo X162.here hx rfl (hb hby at_178) rfl ((if0 _ _).trans (feq (by decide : ¬ ((1 : Int32) = (0 : Int32)))).1) k) ?_
    show Goes _ _ _ _ _ _ _ (T162.setTop (mkF m 181 _ []))
    refine Goes.step (fun _ k => XS.iload X162.here hx rfl (hb hby at_181) rfl  k) ?_
    obtain ⟨_, _, ⟨T163, L163, k163, n163⟩, -, X163, ⟨Lc163, hQ163, l163, y163, z163⟩, st163⟩ := Jvm.LawKit.callS X162 hx (y := (⟨"com/example/hailwise/hailwise/NodeQueuePollPinLaw", "in", "(I)Z"⟩ : MethodName)) hown (mvT hZ w_31) (mvT hZ w_32) (mvT hZ w_3) (mvT hZ w_33) (by decide) (backOf (W := 0) (rm6 l Z a0 hw [] (qa108_0 - p1) T153.heap n0 Z161 ) hZ w_33 w_3 (by decide) (by decide)) (g := (mkF m 183 #[.val (.int p0), .val (.int p1), .val (.ref b1), .val (.ref b33), .val (.int (qa99_0 - p1)), .val (.int (qa108_0 - p1)), .val (.int (qa117_0 - p1)), .val (.int (qa126_0 - p1)), .val (.int (qa135_0 - p1)), .val (.int (qa144_0 - p1)), .unset] [(.int (qa108_0 - p1))])) rfl (by rw [hml]; rfl) (argsL := [(.int (qa108_0 - p1))]) (rest := []) (lenOf pd_4 rfl) rfl (by show 2 * 0 + _ ≤ _; exact Nat.le_of_eq rfl) (hb hby at_183) (fun _ _ => ⟨rfl, eh162, (by decide : 4 + 0 ≤ _), (by decide : 137 + 0 ≤ _)⟩)
    dsimp only [Pt.U, Pt.locs, Pt.cells, Pt.slots] at X163 l163 y163 z163 st163 hQ163
    rw [l163, y163, z163] at X163
    obtain ⟨N163, eh163, hR163⟩ := hQ163
    have NA163 := Fr.app NA162 N163
    rcases hR163 with ⟨rfl, u163_0_0⟩ | ⟨rfl, u163_1_0, u163_1_1⟩ | ⟨rfl, u163_2_0, u163_2_1⟩
    · exact absurd u163_0_0 hi1a
    · refine Goes.step st163 ?_
      show Goes _ _ _ _ _ _ _ (T163.setTop (mkF m 186 _ [(.int (1 : Int32))]))
      refine Goes.step (fun _ k => XS.ifNo X163.here hx rfl (hb hby at_186) rfl ((if0 _ _).trans (feq (by decide : ¬ ((1 : Int32) = (0 : Int32)))).1) k) ?_
      show Goes _ _ _ _ _ _ _ (T163.setTop (mkF m 189 _ []))
      refine Goes.step (fun _ k => XS.iload X163.here hx rfl (hb hby at_189) rfl  k) ?_
      obtain ⟨_, _, ⟨T164, L164, k164, n164⟩, -, X164, ⟨Lc164, hQ164, l164, y164, z164⟩, st164⟩ := Jvm.LawKit.callS X163 hx (y := (⟨"com/example/hailwise/hailwise/NodeQueuePollPinLaw", "in", "(I)Z"⟩ : MethodName)) hown (mvT hZ w_31) (mvT hZ w_32) (mvT hZ w_3) (mvT hZ w_33) (by decide) (backOf (W := 0) (rm6 l Z a0 hw [] (qa117_0 - p1) T153.heap n0 Z161 ) hZ w_33 w_3 (by decide) (by decide)) (g := (mkF m 191 #[.val (.int p0), .val (.int p1), .val (.ref b1), .val (.ref b33), .val (.int (qa99_0 - p1)), .val (.int (qa108_0 - p1)), .val (.int (qa117_0 - p1)), .val (.int (qa126_0 - p1)), .val (.int (qa135_0 - p1)), .val (.int (qa144_0 - p1)), .unset] [(.int (qa117_0 - p1))])) rfl (by rw [hml]; rfl) (argsL := [(.int (qa117_0 - p1))]) (rest := []) (lenOf pd_4 rfl) rfl (by show 2 * 0 + _ ≤ _; exact Nat.le_of_eq rfl) (hb hby at_191) (fun _ _ => ⟨rfl, eh163, (by decide : 4 + 0 ≤ _), (by decide : 137 + 0 ≤ _)⟩)
      dsimp only [Pt.U, Pt.locs, Pt.cells, Pt.slots] at X164 l164 y164 z164 st164 hQ164
      rw [l164, y164, z164] at X164
      obtain ⟨N164, eh164, hR164⟩ := hQ164
      have NA164 := Fr.app NA163 N164
      rcases hR164 with ⟨rfl, u164_0_0⟩ | ⟨rfl, u164_1_0, u164_1_1⟩ | ⟨rfl, u164_2_0, u164_2_1⟩
      · exact absurd u164_0_0 hi2a
      · refine Goes.step st164 ?_
        show Goes _ _ _ _ _ _ _ (T164.setTop (mkF m 194 _ [(.int (1 : Int32))]))
        refine Goes.step (fun _ k => XS.ifNo X164.here hx rfl (hb hby at_194) rfl ((if0 _ _).trans (feq (by decide : ¬ ((1 : Int32) = (0 : Int32)))).1) k) ?_
        show Goes _ _ _ _ _ _ _ (T164.setTop (mkF m 197 _ []))
        refine Goes.step (fun _ k => XS.iload X164.here hx rfl (hb hby at_197) rfl  k) ?_
        obtain ⟨_, _, ⟨T165, L165, k165, n165⟩, -, X165, ⟨Lc165, hQ165, l165, y165, z165⟩, st165⟩ := Jvm.LawKit.callS X164 hx (y := (⟨"com/example/hailwise/hailwise/NodeQueuePollPinLaw", "in", "(I)Z"⟩ : MethodName)) hown (mvT hZ w_31) (mvT hZ w_32) (mvT hZ w_3) (mvT hZ w_33) (by decide) (backOf (W := 0) (rm6 l Z a0 hw [] (qa126_0 - p1) T153.heap n0 Z161 ) hZ w_33 w_3 (by decide) (by decide)) (g := (mkF m 199 #[.val (.int p0), .val (.int p1), .val (.ref b1), .val (.ref b33), .val (.int (qa99_0 - p1)), .val (.int (qa108_0 - p1)), .val (.int (qa117_0 - p1)), .val (.int (qa126_0 - p1)), .val (.int (qa135_0 - p1)), .val (.int (qa144_0 - p1)), .unset] [(.int (qa126_0 - p1))])) rfl (by rw [hml]; rfl) (argsL := [(.int (qa126_0 - p1))]) (rest := []) (lenOf pd_4 rfl) rfl (by show 2 * 0 + _ ≤ _; exact Nat.le_of_eq rfl) (hb hby at_199) (fun _ _ => ⟨rfl, eh164, (by decide : 4 + 0 ≤ _), (by decide : 137 + 0 ≤ _)⟩)
        dsimp only [Pt.U, Pt.locs, Pt.cells, Pt.slots] at X165 l165 y165 z165 st165 hQ165
        rw [l165, y165, z165] at X165
        obtain ⟨N165, eh165, hR165⟩ := hQ165
        have NA165 := Fr.app NA164 N165
        rcases hR165 with ⟨rfl, u165_0_0⟩ | ⟨rfl, u165_1_0, u165_1_1⟩ | ⟨rfl, u165_2_0, u165_2_1⟩
        · exact absurd u165_0_0 hi3a
        · refine Goes.step st165 ?_
          show Goes _ _ _ _ _ _ _ (T165.setTop (mkF m 202 #[.val (.int p0), .val (.int p1), .val (.ref b1), .val (.ref b33), .val (.int (qa99_0 - p1)), .val (.int (qa108_0 - p1)), .val (.int (qa117_0 - p1)), .val (.int (qa126_0 - p1)), .val (.int (qa135_0 - p1)), .val (.int (qa144_0 - p1)), .unset] [(.int (1 : Int32))]))
          refine Goes.step (fun _ k => XS.ifNo X165.here hx rfl (hb hby at_202) rfl ((if0 _ _).trans (feq (by decide : ¬ ((1 : Int32) = (0 : Int32)))).1) k) ?_
          show Goes _ _ _ _ _ _ _ (T165.setTop (mkF m 205 _ []))
          refine Goes.step (fun _ k => XS.iload X165.here hx rfl (hb hby at_205) rfl  k) ?_
          obtain ⟨_, _, ⟨T166, L166, k166, n166⟩, -, X166, ⟨Lc166, hQ166, l166, y166, z166⟩, st166⟩ := Jvm.LawKit.callS X165 hx (y := (⟨"com/example/hailwise/hailwise/NodeQueuePollPinLaw", "in", "(I)Z"⟩ : MethodName)) hown (mvT hZ w_31) (mvT hZ w_32) (mvT hZ w_3) (mvT hZ w_33) (by decide) (backOf (W := 0) (rm6 l Z a0 hw [] (qa135_0 - p1) T153.heap n0 Z161 ) hZ w_33 w_3 (by decide) (by decide)) (g := (mkF m 207 #[.val (.int p0), .val (.int p1), .val (.ref b1), .val (.ref b33), .val (.int (qa99_0 - p1)), .val (.int (qa108_0 - p1)), .val (.int (qa117_0 - p1)), .val (.int (qa126_0 - p1)), .val (.int (qa135_0 - p1)), .val (.int (qa144_0 - p1)), .unset] [(.int (qa135_0 - p1))])) rfl (by rw [hml]; rfl) (argsL := [(.int (qa135_0 - p1))]) (rest := []) (lenOf pd_4 rfl) rfl (by show 2 * 0 + _ ≤ _; exact Nat.le_of_eq rfl) (hb hby at_207) (fun _ _ => ⟨rfl, eh165, (by decide : 4 + 0 ≤ _), (by decide : 137 + 0 ≤ _)⟩)
          dsimp only [Pt.U, Pt.locs, Pt.cells, Pt.slots] at X166 l166 y166 z166 st166 hQ166
          rw [l166, y166, z166] at X166
          obtain ⟨N166, eh166, hR166⟩ := hQ166
          have NA166 := Fr.app NA165 N166
          rcases hR166 with ⟨rfl, u166_0_0⟩ | ⟨rfl, u166_1_0, u166_1_1⟩ | ⟨rfl, u166_2_0, u166_2_1⟩
          · exact absurd u166_0_0 hi4a
          · refine Goes.step st166 ?_
            show Goes _ _ _ _ _ _ _ (T166.setTop (mkF m 210 _ [(.int (1 : Int32))]))
            refine Goes.step (fun _ k => XS.ifNo X166.here hx rfl (hb hby at_210) rfl ((if0 _ _).trans (feq (by decide : ¬ ((1 : Int32) = (0 : Int32)))).1) k) ?_
            show Goes _ _ _ _ _ _ _ (T166.setTop (mkF m 213 _ []))
            refine Goes.step (fun _ k => XS.iload X166.here hx rfl (hb hby at_213) rfl  k) ?_
            obtain ⟨_, _, ⟨T167, L167, k167, n167⟩, -, X167, ⟨Lc167, hQ167, l167, y167, z167⟩, st167⟩ := Jvm.LawKit.callS X166 hx (y := (⟨"com/example/hailwise/hailwise/NodeQueuePollPinLaw", "in", "(I)Z"⟩ : MethodName)) hown (mvT hZ w_31) (mvT hZ w_32) (mvT hZ w_3) (mvT hZ w_33) (by decide) (backOf (W := 0) (rm6 l Z a0 hw [] (qa144_0 - p1) T153.heap n0 Z161 ) hZ w_33 w_3 (by decide) (by decide)) (g := (mkF m 215 #[.val (.int p0), .val (.int p1), .val (.ref b1), .val (.ref b33), .val (.int (qa99_0 - p1)), .val (.int (qa108_0 - p1)), .val (.int (qa117_0 - p1)), .val (.int (qa126_0 - p1)), .val (.int (qa135_0 - p1)), .val (.int (qa144_0 - p1)), .unset] [(.int (qa144_0 - p1))])) rfl (by rw [hml]; rfl) (argsL := [(.int (qa144_0 - p1))]) (rest := []) (lenOf pd_4 rfl) rfl (by show 2 * 0 + _ ≤ _; exact Nat.le_of_eq rfl) (hb hby at_215) (fun _ _ => ⟨rfl, eh166, (by decide : 4 + 0 ≤ _), (by decide : 137 + 0 ≤ _)⟩)
            dsimp only [Pt.U, Pt.locs, Pt.cells, Pt.slots] at X167 l167 y167 z167 st167 hQ167
            rw [l167, y167, z167] at X167
            obtain ⟨N167, eh167, hR167⟩ := hQ167
            have NA167 := Fr.app NA166 N167
            rcases hR167 with ⟨rfl, u167_0_0⟩ | ⟨rfl, u167_1_0, u167_1_1⟩ | ⟨rfl, u167_2_0, u167_2_1⟩
            · exact absurd u167_0_0 hi5a
            · refine Goes.step st167 ?_
              show Goes _ _ _ _ _ _ _ (T167.setTop (mkF m 218 _ [(.int (1 : Int32))]))
              refine Goes.step (fun _ k => XS.ifYes X167.here hx rfl (pc0 := 218) (pc' := 223) rfl (hb hby at_218) rfl ((if0 _ _).trans (feq (by decide : ¬ ((1 : Int32) = (0 : Int32)))).2) (by decide) (by decide) k) ?_
              show Goes _ _ _ _ _ _ _ (T167.setTop (mkF m 223 _ []))
              refine Goes.step (fun _ k => XS.iconst X167.here hx rfl (hb hby at_223) k) ?_
              refine Goes.step (fun _ k => XS.iload X167.here hx rfl (hb hby at_224) rfl  k) ?_
              refine Goes.step (fun _ k => XS.ishl X167.here hx rfl (hb hby at_226) rfl k) ?_
              show Goes _ _ _ _ _ _ _ (T167.setTop (mkF m 227 _ [(.int ((1 : Int32) <<< ((qa99_0 - p1) &&& 31)))]))
              refine Goes.step (fun _ k => XS.iconst X167.here hx rfl (hb hby at_227) k) ?_
              refine Goes.step (fun _ k => XS.iload X167.here hx rfl (hb hby at_228) rfl  k) ?_
              refine Goes.step (fun _ k => XS.ishl X167.here hx rfl (hb hby at_230) rfl k) ?_
              show Goes _ _ _ _ _ _ _ (T167.setTop (mkF m 231 #[.val (.int p0), .val (.int p1), .val (.ref b1), .val (.ref b33), .val (.int (qa99_0 - p1)), .val (.int (qa108_0 - p1)), .val (.int (qa117_0 - p1)), .val (.int (qa126_0 - p1)), .val (.int (qa135_0 - p1)), .val (.int (qa144_0 - p1)), .unset] [(.int ((1 : Int32) <<< ((qa108_0 - p1) &&& 31))), (.int ((1 : Int32) <<< ((qa99_0 - p1) &&& 31)))]))
              refine Goes.step (fun _ k => XS.ior X167.here hx rfl (hb hby at_231) rfl k) ?_
              show Goes _ _ _ _ _ _ _ (T167.setTop (mkF m 232 _ [(.int (((1 : Int32) <<< ((qa99_0 - p1) &&& 31)) ||| ((1 : Int32) <<< ((qa108_0 - p1) &&& 31))))]))
              refine Goes.step (fun _ k => XS.iconst X167.here hx rfl (hb hby at_232) k) ?_
              refine Goes.step (fun _ k => XS.iload X167.here hx rfl (hb hby at_233) rfl  k) ?_
              refine Goes.step (fun _ k => XS.ishl X167.here hx rfl (hb hby at_235) rfl k) ?_
              show Goes _ _ _ _ _ _ _ (T167.setTop (mkF m 236 _ [(.int ((1 : Int32) <<< ((qa117_0 - p1) &&& 31))), (.int (((1 : Int32) <<< ((qa99_0 - p1) &&& 31)) ||| ((1 : Int32) <<< ((qa108_0 - p1) &&& 31))))]))
              refine Goes.step (fun _ k => XS.ior X167.here hx rfl (hb hby at_236) rfl k) ?_
              show Goes _ _ _ _ _ _ _ (T167.setTop (mkF m 237 _ [(.int ((((1 : Int32) <<< ((qa99_0 - p1) &&& 31)) ||| ((1 : Int32) <<< ((qa108_0 - p1) &&& 31))) ||| ((1 : Int32) <<< ((qa117_0 - p1) &&& 31))))]))
              refine Goes.step (fun _ k => XS.iconst X167.here hx rfl (hb hby at_237) k) ?_
              refine Goes.step (fun _ k => XS.iload X167.here hx rfl (hb hby at_238) rfl  k) ?_
              refine Goes.step (fun _ k => XS.ishl X167.here hx rfl (hb hby at_240) rfl k) ?_
              show Goes _ _ _ _ _ _ _ (T167.setTop (mkF m 241 _ [(.int ((1 : Int32) <<< ((qa126_0 - p1) &&& 31))), (.int ((((1 : Int32) <<< ((qa99_0 - p1) &&& 31)) ||| ((1 : Int32) <<< ((qa108_0 - p1) &&& 31))) ||| ((1 : Int32) <<< ((qa117_0 - p1) &&& 31))))]))
              refine Goes.step (fun _ k => XS.ior X167.here hx rfl (hb hby at_241) rfl k) ?_
              show Goes _ _ _ _ _ _ _ (T167.setTop (mkF m 242 _ [(.int (((((1 : Int32) <<< ((qa99_0 - p1) &&& 31)) ||| ((1 : Int32) <<< ((qa108_0 - p1) &&& 31))) ||| ((1 : Int32) <<< ((qa117_0 - p1) &&& 31))) ||| ((1 : Int32) <<< ((qa126_0 - p1) &&& 31))))]))
              refine Goes.step (fun _ k => XS.iconst X167.here hx rfl (hb hby at_242) k) ?_
              refine Goes.step (fun _ k => XS.iload X167.here hx rfl (hb hby at_243) rfl  k) ?_
              refine Goes.step (fun _ k => XS.ishl X167.here hx rfl (hb hby at_245) rfl k) ?_
              show Goes _ _ _ _ _ _ _ (T167.setTop (mkF m 246 _ [(.int ((1 : Int32) <<< ((qa135_0 - p1) &&& 31))), (.int (((((1 : Int32) <<< ((qa99_0 - p1) &&& 31)) ||| ((1 : Int32) <<< ((qa108_0 - p1) &&& 31))) ||| ((1 : Int32) <<< ((qa117_0 - p1) &&& 31))) ||| ((1 : Int32) <<< ((qa126_0 - p1) &&& 31))))]))
              refine Goes.step (fun _ k => XS.ior X167.here hx rfl (hb hby at_246) rfl k) ?_
              show Goes _ _ _ _ _ _ _ (T167.setTop (mkF m 247 #[.val (.int p0), .val (.int p1), .val (.ref b1), .val (.ref b33), .val (.int (qa99_0 - p1)), .val (.int (qa108_0 - p1)), .val (.int (qa117_0 - p1)), .val (.int (qa126_0 - p1)), .val (.int (qa135_0 - p1)), .val (.int (qa144_0 - p1)), .unset] [(.int ((((((1 : Int32) <<< ((qa99_0 - p1) &&& 31)) ||| ((1 : Int32) <<< ((qa108_0 - p1) &&& 31))) ||| ((1 : Int32) <<< ((qa117_0 - p1) &&& 31))) ||| ((1 : Int32) <<< ((qa126_0 - p1) &&& 31))) ||| ((1 : Int32) <<< ((qa135_0 - p1) &&& 31))))]))
              refine Goes.step (fun _ k => XS.iconst X167.here hx rfl (hb hby at_247) k) ?_
              refine Goes.step (fun _ k => XS.iload X167.here hx rfl (hb hby at_248) rfl  k) ?_
              refine Goes.step (fun _ k => XS.ishl X167.here hx rfl (hb hby at_250) rfl k) ?_
              show Goes _ _ _ _ _ _ _ (T167.setTop (mkF m 251 _ [(.int ((1 : Int32) <<< ((qa144_0 - p1) &&& 31))), (.int ((((((1 : Int32) <<< ((qa99_0 - p1) &&& 31)) ||| ((1 : Int32) <<< ((qa108_0 - p1) &&& 31))) ||| ((1 : Int32) <<< ((qa117_0 - p1) &&& 31))) ||| ((1 : Int32) <<< ((qa126_0 - p1) &&& 31))) ||| ((1 : Int32) <<< ((qa135_0 - p1) &&& 31))))]))
              refine Goes.step (fun _ k => XS.ior X167.here hx rfl (hb hby at_251) rfl k) ?_
              show Goes _ _ _ _ _ _ _ (T167.setTop (mkF m 252 _ [(.int (((((((1 : Int32) <<< ((qa99_0 - p1) &&& 31)) ||| ((1 : Int32) <<< ((qa108_0 - p1) &&& 31))) ||| ((1 : Int32) <<< ((qa117_0 - p1) &&& 31))) ||| ((1 : Int32) <<< ((qa126_0 - p1) &&& 31))) ||| ((1 : Int32) <<< ((qa135_0 - p1) &&& 31))) ||| ((1 : Int32) <<< ((qa144_0 - p1) &&& 31))))]))
              refine Goes.step (fun _ k => XS.istore X167.here hx rfl (hb hby at_252) rfl (l' := #[.val (.int p0), .val (.int p1), .val (.ref b1), .val (.ref b33), .val (.int (qa99_0 - p1)), .val (.int (qa108_0 - p1)), .val (.int (qa117_0 - p1)), .val (.int (qa126_0 - p1)), .val (.int (qa135_0 - p1)), .val (.int (qa144_0 - p1)), .val (.int (((((((1 : Int32) <<< ((qa99_0 - p1) &&& 31)) ||| ((1 : Int32) <<< ((qa108_0 - p1) &&& 31))) ||| ((1 : Int32) <<< ((qa117_0 - p1) &&& 31))) ||| ((1 : Int32) <<< ((qa126_0 - p1) &&& 31))) ||| ((1 : Int32) <<< ((qa135_0 - p1) &&& 31))) ||| ((1 : Int32) <<< ((qa144_0 - p1) &&& 31))))]) rfl k) ?_
              show Goes _ _ _ _ _ _ _ (T167.setTop (mkF m 254 _ []))
              refine Goes.step (fun _ k => XS.iload X167.here hx rfl (hb hby at_254) rfl  k) ?_
              refine Goes.step (fun _ k => XS.bipush X167.here hx rfl (hb hby at_256) k) ?_
              refine Goes.step (fun _ k => XS.icmpYes X167.here hx rfl (pc0 := 258) (pc' := 263) rfl (hb hby at_258) rfl (teq hseen).1 (by decide) (by decide) k) ?_
              show Goes _ _ _ _ _ _ _ (T167.setTop (mkF m 263 _ []))
              refine Goes.step (fun _ k => XS.aloadN X167.here hx rfl (hb hby at_263) rfl rfl k) ?_
              refine Goes.step (fun _ k => XS.iload X167.here hx rfl (hb hby at_264) rfl  k) ?_
              obtain ⟨cl168, Ar168, q168, S168, P168, H168, G168⟩ := id f154
              have hin168 : ¬ ((qa99_0 - p1) < 0 ∨ cl168.slots.size ≤ ((qa99_0 - p1)).toNatClampNeg) := inb_of S168 ⟨hi0a, hi0b⟩
              have hat168 : cl168.slots[((qa99_0 - p1)).toNatClampNeg]? = some (.int qb99_0) := (H168 _ (Nat.lt_of_not_le fun q => hin168 (Or.inr q))).trans (congrArg some hi0c)
              refine Goes.step (fun _ k => X167.iaload hx (j := (qa99_0 - p1)) (v := (.int qb99_0)) (by rw [eh167]; exact Ar168.1) (State.isArrayOf_alike hZ.alike Ar168.2.1) Ar168.2.2 hin168 hat168 (g := (mkF m 266 #[.val (.int p0), .val (.int p1), .val (.ref b1), .val (.ref b33), .val (.int (qa99_0 - p1)), .val (.int (qa108_0 - p1)), .val (.int (qa117_0 - p1)), .val (.int (qa126_0 - p1)), .val (.int (qa135_0 - p1)), .val (.int (qa144_0 - p1)), .val (.int (((((((1 : Int32) <<< ((qa99_0 - p1) &&& 31)) ||| ((1 : Int32) <<< ((qa108_0 - p1) &&& 31))) ||| ((1 : Int32) <<< ((qa117_0 - p1) &&& 31))) ||| ((1 : Int32) <<< ((qa126_0 - p1) &&& 31))) ||| ((1 : Int32) <<< ((qa135_0 - p1) &&& 31))) ||| ((1 : Int32) <<< ((qa144_0 - p1) &&& 31))))] [(.int (qa99_0 - p1)), (.ref b1)])) rfl rfl (hb hby at_266) _ k) ?_
              show Goes _ _ _ _ _ _ _ (T167.setTop (mkF m 267 _ [(.int qb99_0)]))
              refine Goes.step (fun _ k => XS.aloadN X167.here hx rfl (hb hby at_267) rfl rfl k) ?_
              refine Goes.step (fun _ k => XS.iload X167.here hx rfl (hb hby at_268) rfl  k) ?_
              obtain ⟨cl169, Ar169, q169, S169, P169, H169, G169⟩ := id f154
              have hin169 : ¬ ((qa108_0 - p1) < 0 ∨ cl169.slots.size ≤ ((qa108_0 - p1)).toNatClampNeg) := inb_of S169 ⟨hi1a, hi1b⟩
              have hat169 : cl169.slots[((qa108_0 - p1)).toNatClampNeg]? = some (.int qb108_0) := (H169 _ (Nat.lt_of_not_le fun q => hin169 (Or.inr q))).trans (congrArg some hi1c)
              refine Goes.step (fun _ k => X167.iaload hx (j := (qa108_0 - p1)) (v := (.int qb108_0)) (by rw [eh167]; exact Ar169.1) (State.isArrayOf_alike hZ.alike Ar169.2.1) Ar169.2.2 hin169 hat169 (g := (mkF m 270 #[.val (.int p0), .val (.int p1), .val (.ref b1), .val (.ref b33), .val (.int (qa99_0 - p1)), .val (.int (qa108_0 - p1)), .val (.int (qa117_0 - p1)), .val (.int (qa126_0 - p1)), .val (.int (qa135_0 - p1)), .val (.int (qa144_0 - p1)), .val (.int (((((((1 : Int32) <<< ((qa99_0 - p1) &&& 31)) ||| ((1 : Int32) <<< ((qa108_0 - p1) &&& 31))) ||| ((1 : Int32) <<< ((qa117_0 - p1) &&& 31))) ||| ((1 : Int32) <<< ((qa126_0 - p1) &&& 31))) ||| ((1 : Int32) <<< ((qa135_0 - p1) &&& 31))) ||| ((1 : Int32) <<< ((qa144_0 - p1) &&& 31))))] [(.int (qa108_0 - p1)), (.ref b1), (.int qb99_0)])) rfl rfl (hb hby at_270) _ k) ?_
              show Goes _ _ _ _ _ _ _ (T167.setTop (mkF m 271 _ [(.int qb108_0), (.int qb99_0)]))
              refine Goes.step (fun _ k => XS.icmpNo X167.here hx rfl (hb hby at_271) rfl (flt (own_gel hr108)).2.2.1 k) ?_
              show Goes _ _ _ _ _ _ _ (T167.setTop (mkF m 274 #[.val (.int p0), .val (.int p1), .val (.ref b1), .val (.ref b33), .val (.int (qa99_0 - p1)), .val (.int (qa108_0 - p1)), .val (.int (qa117_0 - p1)), .val (.int (qa126_0 - p1)), .val (.int (qa135_0 - p1)), .val (.int (qa144_0 - p1)), .val (.int (((((((1 : Int32) <<< ((qa99_0 - p1) &&& 31)) ||| ((1 : Int32) <<< ((qa108_0 - p1) &&& 31))) ||| ((1 : Int32) <<< ((qa117_0 - p1) &&& 31))) ||| ((1 : Int32) <<< ((qa126_0 - p1) &&& 31))) ||| ((1 : Int32) <<< ((qa135_0 - p1) &&& 31))) ||| ((1 : Int32) <<< ((qa144_0 - p1) &&& 31))))] []))
              refine Goes.step (fun _ k => XS.aloadN X167.here hx rfl (hb hby at_274) rfl rfl k) ?_
              refine Goes.step (fun _ k => XS.iload X167.here hx rfl (hb hby at_275) rfl  k) ?_
              obtain ⟨cl170, Ar170, q170, S170, P170, H170, G170⟩ := id f154
              have hin170 : ¬ ((qa108_0 - p1) < 0 ∨ cl170.slots.size ≤ ((qa108_0 - p1)).toNatClampNeg) := inb_of S170 ⟨hi1a, hi1b⟩
              have hat170 : cl170.slots[((qa108_0 - p1)).toNatClampNeg]? = some (.int qb108_0) := (H170 _ (Nat.lt_of_not_le fun q => hin170 (Or.inr q))).trans (congrArg some hi1c)
              refine Goes.step (fun _ k => X167.iaload hx (j := (qa108_0 - p1)) (v := (.int qb108_0)) (by rw [eh167]; exact Ar170.1) (State.isArrayOf_alike hZ.alike Ar170.2.1) Ar170.2.2 hin170 hat170 (g := (mkF m 277 #[.val (.int p0), .val (.int p1), .val (.ref b1), .val (.ref b33), .val (.int (qa99_0 - p1)), .val (.int (qa108_0 - p1)), .val (.int (qa117_0 - p1)), .val (.int (qa126_0 - p1)), .val (.int (qa135_0 - p1)), .val (.int (qa144_0 - p1)), .val (.int (((((((1 : Int32) <<< ((qa99_0 - p1) &&& 31)) ||| ((1 : Int32) <<< ((qa108_0 - p1) &&& 31))) ||| ((1 : Int32) <<< ((qa117_0 - p1) &&& 31))) ||| ((1 : Int32) <<< ((qa126_0 - p1) &&& 31))) ||| ((1 : Int32) <<< ((qa135_0 - p1) &&& 31))) ||| ((1 : Int32) <<< ((qa144_0 - p1) &&& 31))))] [(.int (qa108_0 - p1)), (.ref b1)])) rfl rfl (hb hby at_277) _ k) ?_
              show Goes _ _ _ _ _ _ _ (T167.setTop (mkF m 278 _ [(.int qb108_0)]))
              refine Goes.step (fun _ k => XS.aloadN X167.here hx rfl (hb hby at_278) rfl rfl k) ?_
              refine Goes.step (fun _ k => XS.iload X167.here hx rfl (hb hby at_279) rfl  k) ?_
              obtain ⟨cl171, Ar171, q171, S171, P171, H171, G171⟩ := id f154
              have hin171 : ¬ ((qa117_0 - p1) < 0 ∨ cl171.slots.size ≤ ((qa117_0 - p1)).toNatClampNeg) := inb_of S171 ⟨hi2a, hi2b⟩
              have hat171 : cl171.slots[((qa117_0 - p1)).toNatClampNeg]? = some (.int qb117_0) := (H171 _ (Nat.lt_of_not_le fun q => hin171 (Or.inr q))).trans (congrArg some hi2c)
              refine Goes.step (fun _ k => X167.iaload hx (j := (qa117_0 - p1)) (v := (.int qb117_0)) (by rw [eh167]; exact Ar171.1) (State.isArrayOf_alike hZ.alike Ar171.2.1) Ar171.2.2 hin171 hat171 (g := (mkF m 281 #[.val (.int p0), .val (.int p1), .val (.ref b1), .val (.ref b33), .val (.int (qa99_0 - p1)), .val (.int (qa108_0 - p1)), .val (.int (qa117_0 - p1)), .val (.int (qa126_0 - p1)), .val (.int (qa135_0 - p1)), .val (.int (qa144_0 - p1)), .val (.int (((((((1 : Int32) <<< ((qa99_0 - p1) &&& 31)) ||| ((1 : Int32) <<< ((qa108_0 - p1) &&& 31))) ||| ((1 : Int32) <<< ((qa117_0 - p1) &&& 31))) ||| ((1 : Int32) <<< ((qa126_0 - p1) &&& 31))) ||| ((1 : Int32) <<< ((qa135_0 - p1) &&& 31))) ||| ((1 : Int32) <<< ((qa144_0 - p1) &&& 31))))] [(.int (qa117_0 - p1)), (.ref b1), (.int qb108_0)])) rfl rfl (hb hby at_281) _ k) ?_
              show Goes _ _ _ _ _ _ _ (T167.setTop (mkF m 282 _ [(.int qb117_0), (.int qb108_0)]))
              refine Goes.step (fun _ k => XS.icmpNo X167.here hx rfl (hb hby at_282) rfl (flt (own_gel hr117)).2.2.1 k) ?_
              show Goes _ _ _ _ _ _ _ (T167.setTop (mkF m 285 _ []))
              refine Goes.step (fun _ k => XS.aloadN X167.here hx rfl (hb hby at_285) rfl rfl k) ?_
              refine Goes.step (fun _ k => XS.iload X167.here hx rfl (hb hby at_286) rfl  k) ?_
              obtain ⟨cl172, Ar172, q172, S172, P172, H172, G172⟩ := id f154
              have hin172 : ¬ ((qa117_0 - p1) < 0 ∨ cl172.slots.size ≤ ((qa117_0 - p1)).toNatClampNeg) := inb_of S172 ⟨hi2a, hi2b⟩
              have hat172 : cl172.slots[((qa117_0 - p1)).toNatClampNeg]? = some (.int qb117_0) := (H172 _ (Nat.lt_of_not_le fun q => hin172 (Or.inr q))).trans (congrArg some hi2c)
              refine Goes.step (fun _ k => X167.iaload hx (j := (qa117_0 - p1)) (v := (.int qb117_0)) (by rw [eh167]; exact Ar172.1) (State.isArrayOf_alike hZ.alike Ar172.2.1) Ar172.2.2 hin172 hat172 (g := (mkF m 288 #[.val (.int p0), .val (.int p1), .val (.ref b1), .val (.ref b33), .val (.int (qa99_0 - p1)), .val (.int (qa108_0 - p1)), .val (.int (qa117_0 - p1)), .val (.int (qa126_0 - p1)), .val (.int (qa135_0 - p1)), .val (.int (qa144_0 - p1)), .val (.int (((((((1 : Int32) <<< ((qa99_0 - p1) &&& 31)) ||| ((1 : Int32) <<< ((qa108_0 - p1) &&& 31))) ||| ((1 : Int32) <<< ((qa117_0 - p1) &&& 31))) ||| ((1 : Int32) <<< ((qa126_0 - p1) &&& 31))) ||| ((1 : Int32) <<< ((qa135_0 - p1) &&& 31))) ||| ((1 : Int32) <<< ((qa144_0 - p1) &&& 31))))] [(.int (qa117_0 - p1)), (.ref b1)])) rfl rfl (hb hby at_288) _ k) ?_
              show Goes _ _ _ _ _ _ _ (T167.setTop (mkF m 289 _ [(.int qb117_0)]))
              refine Goes.step (fun _ k => XS.aloadN X167.here hx rfl (hb hby at_289) rfl rfl k) ?_
              refine Goes.step (fun _ k => XS.iload X167.here hx rfl (hb hby at_290) rfl  k) ?_
              obtain ⟨cl173, Ar173, q173, S173, P173, H173, G173⟩ := id f154
              have hin173 : ¬ ((qa126_0 - p1) < 0 ∨ cl173.slots.size ≤ ((qa126_0 - p1)).toNatClampNeg) := inb_of S173 ⟨hi3a, hi3b⟩
              have hat173 : cl173.slots[((qa126_0 - p1)).toNatClampNeg]? = some (.int qb126_0) := (H173 _ (Nat.lt_of_not_le fun q => hin173 (Or.inr q))).trans (congrArg some hi3c)
              refine Goes.step (fun _ k => X167.iaload hx (j := (qa126_0 - p1)) (v := (.int qb126_0)) (by rw [eh167]; exact Ar173.1) (State.isArrayOf_alike hZ.alike Ar173.2.1) Ar173.2.2 hin173 hat173 (g := (mkF m 292 #[.val (.int p0), .val (.int p1), .val (.ref b1), .val (.ref b33), .val (.int (qa99_0 - p1)), .val (.int (qa108_0 - p1)), .val (.int (qa117_0 - p1)), .val (.int (qa126_0 - p1)), .val (.int (qa135_0 - p1)), .val (.int (qa144_0 - p1)), .val (.int (((((((1 : Int32) <<< ((qa99_0 - p1) &&& 31)) ||| ((1 : Int32) <<< ((qa108_0 - p1) &&& 31))) ||| ((1 : Int32) <<< ((qa117_0 - p1) &&& 31))) ||| ((1 : Int32) <<< ((qa126_0 - p1) &&& 31))) ||| ((1 : Int32) <<< ((qa135_0 - p1) &&& 31))) ||| ((1 : Int32) <<< ((qa144_0 - p1) &&& 31))))] [(.int (qa126_0 - p1)), (.ref b1), (.int qb117_0)])) rfl rfl (hb hby at_292) _ k) ?_
              show Goes _ _ _ _ _ _ _ (T167.setTop (mkF m 293 _ [(.int qb126_0), (.int qb117_0)]))
              refine Goes.step (fun _ k => XS.icmpNo X167.here hx rfl (hb hby at_293) rfl (flt (own_gel hr126)).2.2.1 k) ?_
              show Goes _ _ _ _ _ _ _ (T167.setTop (mkF m 296 _ []))
              refine Goes.step (fun _ k => XS.aloadN X167.here hx rfl (hb hby at_296) rfl rfl k) ?_
              refine Goes.step (fun _ k => XS.iload X167.here hx rfl (hb hby at_297) rfl  k) ?_
              obtain ⟨cl174, Ar174, q174, S174, P174, H174, G174⟩ := id f154
              have hin174 : ¬ ((qa126_0 - p1) < 0 ∨ cl174.slots.size ≤ ((qa126_0 - p1)).toNatClampNeg) := inb_of S174 ⟨hi3a, hi3b⟩
              have hat174 : cl174.slots[((qa126_0 - p1)).toNatClampNeg]? = some (.int qb126_0) := (H174 _ (Nat.lt_of_not_le fun q => hin174 (Or.inr q))).trans (congrArg some hi3c)
              refine Goes.step (fun _ k => X167.iaload hx (j := (qa126_0 - p1)) (v := (.int qb126_0)) (by rw [eh167]; exact Ar174.1) (State.isArrayOf_alike hZ.alike Ar174.2.1) Ar174.2.2 hin174 hat174 (g := (mkF m 299 #[.val (.int p0), .val (.int p1), .val (.ref b1), .val (.ref b33), .val (.int (qa99_0 - p1)), .val (.int (qa108_0 - p1)), .val (.int (qa117_0 - p1)), .val (.int (qa126_0 - p1)), .val (.int (qa135_0 - p1)), .val (.int (qa144_0 - p1)), .val (.int (((((((1 : Int32) <<< ((qa99_0 - p1) &&& 31)) ||| ((1 : Int32) <<< ((qa108_0 - p1) &&& 31))) ||| ((1 : Int32) <<< ((qa117_0 - p1) &&& 31))) ||| ((1 : Int32) <<< ((qa126_0 - p1) &&& 31))) ||| ((1 : Int32) <<< ((qa135_0 - p1) &&& 31))) ||| ((1 : Int32) <<< ((qa144_0 - p1) &&& 31))))] [(.int (qa126_0 - p1)), (.ref b1)])) rfl rfl (hb hby at_299) _ k) ?_
              show Goes _ _ _ _ _ _ _ (T167.setTop (mkF m 300 #[.val (.int p0), .val (.int p1), .val (.ref b1), .val (.ref b33), .val (.int (qa99_0 - p1)), .val (.int (qa108_0 - p1)), .val (.int (qa117_0 - p1)), .val (.int (qa126_0 - p1)), .val (.int (qa135_0 - p1)), .val (.int (qa144_0 - p1)), .val (.int (((((((1 : Int32) <<< ((qa99_0 - p1) &&& 31)) ||| ((1 : Int32) <<< ((qa108_0 - p1) &&& 31))) ||| ((1 : Int32) <<< ((qa117_0 - p1) &&& 31))) ||| ((1 : Int32) <<< ((qa126_0 - p1) &&& 31))) ||| ((1 : Int32) <<< ((qa135_0 - p1) &&& 31))) ||| ((1 : Int32) <<< ((qa144_0 - p1) &&& 31))))] [(.int qb126_0)]))
              refine Goes.step (fun _ k => XS.aloadN X167.here hx rfl (hb hby at_300) rfl rfl k) ?_
              refine Goes.step (fun _ k => XS.iload X167.here hx rfl (hb hby at_301) rfl  k) ?_
              obtain ⟨cl175, Ar175, q175, S175, P175, H175, G175⟩ := id f154
              have hin175 : ¬ ((qa135_0 - p1) < 0 ∨ cl175.slots.size ≤ ((qa135_0 - p1)).toNatClampNeg) := inb_of S175 ⟨hi4a, hi4b⟩
              have hat175 : cl175.slots[((qa135_0 - p1)).toNatClampNeg]? = some (.int qb135_0) := (H175 _ (Nat.lt_of_not_le fun q => hin175 (Or.inr q))).trans (congrArg some hi4c)
              refine Goes.step (fun _ k => X167.iaload hx (j := (qa135_0 - p1)) (v := (.int qb135_0)) (by rw [eh167]; exact Ar175.1) (State.isArrayOf_alike hZ.alike Ar175.2.1) Ar175.2.2 hin175 hat175 (g := (mkF m 303 #[.val (.int p0), .val (.int p1), .val (.ref b1), .val (.ref b33), .val (.int (qa99_0 - p1)), .val (.int (qa108_0 - p1)), .val (.int (qa117_0 - p1)), .val (.int (qa126_0 - p1)), .val (.int (qa135_0 - p1)), .val (.int (qa144_0 - p1)), .val (.int (((((((1 : Int32) <<< ((qa99_0 - p1) &&& 31)) ||| ((1 : Int32) <<< ((qa108_0 - p1) &&& 31))) ||| ((1 : Int32) <<< ((qa117_0 - p1) &&& 31))) ||| ((1 : Int32) <<< ((qa126_0 - p1) &&& 31))) ||| ((1 : Int32) <<< ((qa135_0 - p1) &&& 31))) ||| ((1 : Int32) <<< ((qa144_0 - p1) &&& 31))))] [(.int (qa135_0 - p1)), (.ref b1), (.int qb126_0)])) rfl rfl (hb hby at_303) _ k) ?_
              show Goes _ _ _ _ _ _ _ (T167.setTop (mkF m 304 _ [(.int qb135_0), (.int qb126_0)]))
              refine Goes.step (fun _ k => XS.icmpNo X167.here hx rfl (hb hby at_304) rfl (flt (own_gel hr135)).2.2.1 k) ?_
              show Goes _ _ _ _ _ _ _ (T167.setTop (mkF m 307 _ []))
              refine Goes.step (fun _ k => XS.aloadN X167.here hx rfl (hb hby at_307) rfl rfl k) ?_
              refine Goes.step (fun _ k => XS.iload X167.here hx rfl (hb hby at_308) rfl  k) ?_
              obtain ⟨cl176, Ar176, q176, S176, P176, H176, G176⟩ := id f154
              have hin176 : ¬ ((qa135_0 - p1) < 0 ∨ cl176.slots.size ≤ ((qa135_0 - p1)).toNatClampNeg) := inb_of S176 ⟨hi4a, hi4b⟩
              have hat176 : cl176.slots[((qa135_0 - p1)).toNatClampNeg]? = some (.int qb135_0) := (H176 _ (Nat.lt_of_not_le fun q => hin176 (Or.inr q))).trans (congrArg some hi4c)
              refine Goes.step (fun _ k => X167.iaload hx (j := (qa135_0 - p1)) (v := (.int qb135_0)) (by rw [eh167]; exact Ar176.1) (State.isArrayOf_alike hZ.alike Ar176.2.1) Ar176.2.2 hin176 hat176 (g := (mkF m 310 #[.val (.int p0), .val (.int p1), .val (.ref b1), .val (.ref b33), .val (.int (qa99_0 - p1)), .val (.int (qa108_0 - p1)), .val (.int (qa117_0 - p1)), .val (.int (qa126_0 - p1)), .val (.int (qa135_0 - p1)), .val (.int (qa144_0 - p1)), .val (.int (((((((1 : Int32) <<< ((qa99_0 - p1) &&& 31)) ||| ((1 : Int32) <<< ((qa108_0 - p1) &&& 31))) ||| ((1 : Int32) <<< ((qa117_0 - p1) &&& 31))) ||| ((1 : Int32) <<< ((qa126_0 - p1) &&& 31))) ||| ((1 : Int32) <<< ((qa135_0 - p1) &&& 31))) ||| ((1 : Int32) <<< ((qa144_0 - p1) &&& 31))))] [(.int (qa135_0 - p1)), (.ref b1)])) rfl rfl (hb hby at_310) _ k) ?_
              show Goes _ _ _ _ _ _ _ (T167.setTop (mkF m 311 _ [(.int qb135_0)]))
              refine Goes.step (fun _ k => XS.aloadN X167.here hx rfl (hb hby at_311) rfl rfl k) ?_
              refine Goes.step (fun _ k => XS.iload X167.here hx rfl (hb hby at_312) rfl  k) ?_
              obtain ⟨cl177, Ar177, q177, S177, P177, H177, G177⟩ := id f154
              have hin177 : ¬ ((qa144_0 - p1) < 0 ∨ cl177.slots.size ≤ ((qa144_0 - p1)).toNatClampNeg) := inb_of S177 ⟨hi5a, hi5b⟩
              have hat177 : cl177.slots[((qa144_0 - p1)).toNatClampNeg]? = some (.int qb144_0) := (H177 _ (Nat.lt_of_not_le fun q => hin177 (Or.inr q))).trans (congrArg some hi5c)
              refine Goes.step (fun _ k => X167.iaload hx (j := (qa144_0 - p1)) (v := (.int qb144_0)) (by rw [eh167]; exact Ar177.1) (State.isArrayOf_alike hZ.alike Ar177.2.1) Ar177.2.2 hin177 hat177 (g := (mkF m 314 #[.val (.int p0), .val (.int p1), .val (.ref b1), .val (.ref b33), .val (.int (qa99_0 - p1)), .val (.int (qa108_0 - p1)), .val (.int (qa117_0 - p1)), .val (.int (qa126_0 - p1)), .val (.int (qa135_0 - p1)), .val (.int (qa144_0 - p1)), .val (.int (((((((1 : Int32) <<< ((qa99_0 - p1) &&& 31)) ||| ((1 : Int32) <<< ((qa108_0 - p1) &&& 31))) ||| ((1 : Int32) <<< ((qa117_0 - p1) &&& 31))) ||| ((1 : Int32) <<< ((qa126_0 - p1) &&& 31))) ||| ((1 : Int32) <<< ((qa135_0 - p1) &&& 31))) ||| ((1 : Int32) <<< ((qa144_0 - p1) &&& 31))))] [(.int (qa144_0 - p1)), (.ref b1), (.int qb135_0)])) rfl rfl (hb hby at_314) _ k) ?_
              show Goes _ _ _ _ _ _ _ (T167.setTop (mkF m 315 _ [(.int qb144_0), (.int qb135_0)]))
              refine Goes.step (fun _ k => XS.icmpNo X167.here hx rfl (hb hby at_315) rfl (flt (own_gel hr144)).2.2.1 k) ?_
              show Goes _ _ _ _ _ _ _ (T167.setTop (mkF m 318 _ []))
              refine Goes.step (fun _ k => XS.iconst X167.here hx rfl (hb hby at_318) k) ?_
              refine Goes.step (fun _ k => XS.goto X167.here hx rfl (pc0 := 319) (pc' := 323) rfl (hb hby at_319) (by decide) (by decide) k) ?_
              show Goes _ _ _ _ _ _ _ (T167.setTop (mkF m 323 _ [(.int (1 : Int32))]))
              exact Goes.ret X167 hx (BodyLoose.notSynchronized Bd) Bd.returns rfl (Or.inl ⟨rfl, by simp, _, rfl⟩) (hb hby at_323) (by show Q0 Z p0 p1 h0 n0 (some (.int (1 : Int32))) T167.heap _; rw [eh167]; exact ⟨rfl, NA167⟩) (by decide) (by decide)
            · exact absurd hi5b u167_2_1
          · exact absurd hi4b u166_2_1
        · exact absurd hi3b u165_2_1
      · exact absurd hi2b u164_2_1
    · exact absurd hi1b u163_2_1
  · exact absurd hi0b u162_2_1
set_option maxRecDepth 65536 in
set_option maxHeartbeats 40000000 in
theorem comes_1 {Post : Tables → Env → Array Value → State → Outcome → State → Prop} (hpost : ∀ tb e args s v u, (limb_1_1.after args s (.returned v) u = true ∧ limb_1_2.after args s (.returned v) u = true ∧ True) → FrameEnd s (.returned v) u (Jvm.fieldLocs frame_1_writes args s ++ Jvm.arrayLocs frame_1_arrays args s ++ Jvm.staticLocs frame_1_statics s) 16 384 → Post tb e args s (.returned v) u) :
    ArmFor flags0 classFile x code maxLocals ret World_1 tables_1 room_1 Calls_1 rest_1 Pre_1 Post := by
  intro l hfl _ _ p e ha hc hk s m args below hf hA hF happ hP
  obtain ⟨hcalls, hrest, hpre⟩ := hP
  obtain ⟨-, -, -, hnamed, -, -, -, hat⟩ := (Spec.applies_iff hf).mp happ
  obtain ⟨hg, hn⟩ := and_e (Cond.before_iff.mp (show (Jvm.Cond.and given_1 narrow_1).before args s = true from hpre))
  obtain ⟨gg1, gg2⟩ := and_e hg
  obtain ⟨gg3, gg4⟩ := and_e gg2
  obtain ⟨w0, w1, rfl⟩ : ∃ w0 w1 : Value, args = #[w0, w1] := by
    have hs : args.size = 2 := by simpa [Cond.value, given_1] using gg1
    obtain ⟨L⟩ := args
    match L, hs with
    | [w0, w1], _ => exact ⟨w0, w1, rfl⟩
  have hw := fun d (hd : d ∈ tables_1) => atoms_spec (ws := Jvm.Cond.code x code maxLocals ret :: tables_1) hat d (List.mem_cons_of_mem _ hd)
  have hfit : Fit s := fun {y c} hc i hi => by
    obtain ⟨ha, rfl⟩ := Array.getElem?_eq_some_iff.mp hc
    have q := List.all_eq_true.mp ((Array.all_eq_true_iff_forall_mem.mp hF) _ (Array.getElem_mem ha)) i (List.mem_range.mpr hi)
    simpa [Array.getElem?_eq_getElem hi] using q
  obtain ⟨i0, ei0⟩ := is_v gg3
  obtain rfl : w0 = (.int i0) := Option.some.inj ei0
  obtain ⟨i1, ei1⟩ := is_v gg4
  obtain rfl : w1 = (.int i1) := Option.some.inj ei1
  obtain ⟨n, o, h1, h2, h3, _, L, rfl, ⟨rfl, N⟩, hq⟩ := rm0 l s _ hw tables_1 i0 i1 s.heap s.heap.size (Nat.le_refl _)  p e ha hc hk s m _ below hf ((Spec.applies_iff_loose hf).mp happ).1 ⟨rfl, State.Warmed39.refl s, rfl⟩ trivial
  refine ⟨n, _, h1, h2, h3, hpost _ _ _ _ _ _ ⟨Cond.after_iff.mpr rfl, Cond.after_iff.mpr (eq_i res_at (Term.int_eval (1)) rfl), trivial⟩ ⟨hq.1, hq.2.1, (hq.2.2.sift fun y hy => Or.inr (N y hy)).mono (by decide) (by decide)⟩⟩
theorem main_1_1 : Claimed_1_1 := comes_1 fun _ _ _ _ _ _ h hF => ⟨h.1, hF⟩
theorem main_1_2 : Claimed_1_2 := comes_1 fun _ _ _ _ _ _ h hF => ⟨h.2.1, hF⟩
end Jvm.Pilot.@@N@@
namespace Jvm.Pilot.@@N@@
open Jvm Jvm.ClassFile Sem Op Lib Jvm.Free Jvm.Stand Jvm.Pilot.@@N@@.Jvm.D
/-! MADE BY PROGRAM (witnessworld.py) out of the Statement's table words and the real class files: 9 classes; the members and pool entries that the words name. The judged class is class 1, her method 3. -/
namespace start1
open Jvm.ClassFile
def u (s : String) : CpInfo := .utf8 (stringToUtf16 s)
/-- a pool by its gaps: so many unusable entries, then the entry; so many at the end -/
def gap : Nat → List CpInfo → List CpInfo
  | 0, r => r
  | n + 1, r => .unusable :: gap n r
def poolList (es : List (Nat × CpInfo)) (last : Nat) : List CpInfo := es.foldr (fun e r => gap e.1 (e.2 :: r)) (gap last [])
def pool (es : List (Nat × CpInfo)) (last : Nat) : Array CpInfo := ⟨poolList es last⟩
def fileOf (pool : Array CpInfo) (this : Nat) (attrs : Array Attribute := #[]) (ms : Array MethodInfo := #[]) (fl : Nat := 33) (sup : Nat := 0) (ifs : Array Nat := #[]) (fds : Array FieldInfo := #[]) : ClassFile where
  minorVersion := 0
  majorVersion := 65
  constantPool := pool
  accessFlags := fl
  thisClass := this
  superClass := sup
  interfaces := ifs
  fields := fds
  methods := ms
  attributes := attrs
def plain (name : String) (sup : Option ClassId) : Class where
  name := name
  kind := .ordinary
  loader := none
  accessFlags := 33
  super := sup
  interfaces := #[]
  cf := none
  fields := #[]
  methods := #[]
  instanceTypes := #[]
  staticTypes := #[]
  resolved := #[]
  callSites := []
  init := .initialized
  statics := none
  mirror := none

def pool0 : Array CpInfo := pool [(5, u "<init>"), (0, u "()V"), (1, .class_ 10), (1, u "java/lang/Object")] 113

def k0c0 : Code := { maxStack := 0, maxLocals := 1, code := object_method_1_code, exceptionTable := #[], attributes := #[] }
def k0m0 : Method := { name := "<init>", desc := "()V", sig := { parameters := [], returnType := none }, accessFlags := 1, code := some k0c0 }
/-- java/lang/Object -/
def k0 : Class := { plain "java/lang/Object" none with
  accessFlags := 33
  interfaces := #[]
  cf := some (fileOf pool0 8 #[] #[{ accessFlags := 1, nameIndex := 5, descriptorIndex := 6, attributes := #[] }] 33 0 #[] #[])
  fields := #[]
  methods := #[k0m0]
  instanceTypes := #[]
  staticTypes := #[]
  resolved := Array.replicate 124 none
  statics := none }

def pool1 : Array CpInfo := pool [(2, .class_ 4), (0, .nameAndType 5 6), (0, u "java/lang/Object"), (0, u "<init>"), (0, u "()V"), (0, .methodref 8 9), (0, .class_ 10), (0, .nameAndType 11 12), (0, u "com/example/hailwise/hailwise/NodeQueuePollPinLaw"), (0, u "kk"), (0, u "(II)I"), (0, .class_ 14), (0, u "com/example/hailwise/hailwise/NodeQueue"), (0, .methodref 13 3), (0, .methodref 13 17), (0, .nameAndType 18 19), (0, u "add"), (0, u "(ID)V"), (0, .methodref 13 21), (0, .nameAndType 22 23), (0, u "poll"), (0, u "()I"), (0, .methodref 8 25), (0, .nameAndType 26 27), (0, u "in"), (0, u "(I)Z"), (3, u "law"), (0, u "(II)Z")] 4

def k1m0 : Method := { name := "<init>", desc := "()V", sig := { parameters := [], returnType := none }, accessFlags := 1, code := none }
def k1c1 : Code := { maxStack := 3, maxLocals := 2, code := method_2_code, exceptionTable := #[], attributes := #[] }
def k1m1 : Method := { name := "kk", desc := "(II)I", sig := { parameters := [.int, .int], returnType := some .int }, accessFlags := 10, code := some k1c1 }
def k1c2 : Code := { maxStack := 2, maxLocals := 1, code := method_3_code, exceptionTable := #[], attributes := #[] }
def k1m2 : Method := { name := "in", desc := "(I)Z", sig := { parameters := [.int], returnType := some .boolean }, accessFlags := 10, code := some k1c2 }
def k1c3 : Code := { maxStack := 4, maxLocals := 11, code := code, exceptionTable := #[], attributes := #[] }
def k1m3 : Method := { name := "law", desc := "(II)Z", sig := { parameters := [.int, .int], returnType := some .boolean }, accessFlags := 9, code := some k1c3 }
/-- com/example/hailwise/hailwise/NodeQueuePollPinLaw -/
def k1 : Class := { plain "com/example/hailwise/hailwise/NodeQueuePollPinLaw" (some 0) with
  accessFlags := 49
  interfaces := #[]
  cf := some (fileOf pool1 8 #[] #[{ accessFlags := 1, nameIndex := 5, descriptorIndex := 6, attributes := #[] }, { accessFlags := 10, nameIndex := 11, descriptorIndex := 12, attributes := #[] }, { accessFlags := 10, nameIndex := 26, descriptorIndex := 27, attributes := #[] }, { accessFlags := 9, nameIndex := 31, descriptorIndex := 32, attributes := #[] }] 49 2 #[] #[])
  fields := #[]
  methods := #[k1m0, k1m1, k1m2, k1m3]
  instanceTypes := #[]
  staticTypes := #[]
  resolved := Array.replicate 37 none
  statics := none }

def pool2 : Array CpInfo := pool [(1, .methodref 2 3), (0, .class_ 4), (0, .nameAndType 5 6), (0, u "java/lang/Object"), (0, u "<init>"), (0, u "()V"), (0, .fieldref 8 9), (0, .class_ 10), (0, .nameAndType 11 12), (0, u "com/example/hailwise/hailwise/NodeQueue"), (0, u "nodes"), (0, u "[I"), (0, .fieldref 8 14), (0, .nameAndType 15 16), (0, u "keys"), (0, u "[D"), (0, .fieldref 8 18), (0, .nameAndType 19 20), (0, u "size"), (0, u "I"), (15, u "add"), (0, u "(ID)V"), (2, u "poll"), (0, u "()I")] 2

def k2c0 : Code := { maxStack := 2, maxLocals := 1, code := prog_21_method_1_code, exceptionTable := #[], attributes := #[] }
def k2m0 : Method := { name := "<init>", desc := "()V", sig := { parameters := [], returnType := none }, accessFlags := 0, code := some k2c0 }
def k2c1 : Code := { maxStack := 4, maxLocals := 6, code := prog_21_method_4_code, exceptionTable := #[], attributes := #[] }
def k2m1 : Method := { name := "add", desc := "(ID)V", sig := { parameters := [.int, .double], returnType := none }, accessFlags := 0, code := some k2c1 }
def k2c2 : Code := { maxStack := 4, maxLocals := 7, code := prog_21_method_6_code, exceptionTable := #[], attributes := #[] }
def k2m2 : Method := { name := "poll", desc := "()I", sig := { parameters := [], returnType := some .int }, accessFlags := 0, code := some k2c2 }
/-- com/example/hailwise/hailwise/NodeQueue -/
def k2 : Class := { plain "com/example/hailwise/hailwise/NodeQueue" (some 0) with
  accessFlags := 48
  interfaces := #[]
  cf := some (fileOf pool2 8 #[] #[{ accessFlags := 0, nameIndex := 5, descriptorIndex := 6, attributes := #[] }, { accessFlags := 0, nameIndex := 36, descriptorIndex := 37, attributes := #[] }, { accessFlags := 0, nameIndex := 40, descriptorIndex := 41, attributes := #[] }] 48 2 #[] #[{ accessFlags := 2, nameIndex := 11, descriptorIndex := 12, attributes := #[] }, { accessFlags := 2, nameIndex := 15, descriptorIndex := 16, attributes := #[] }, { accessFlags := 2, nameIndex := 19, descriptorIndex := 20, attributes := #[] }])
  fields := #[{ name := "nodes", type := (.array .int), accessFlags := 2, slot := 0, constantValue := 0 }, { name := "keys", type := (.array .double), accessFlags := 2, slot := 1, constantValue := 0 }, { name := "size", type := .int, accessFlags := 2, slot := 2, constantValue := 0 }]
  methods := #[k2m0, k2m1, k2m2]
  instanceTypes := #[(.array .int), (.array .double), .int]
  staticTypes := #[]
  resolved := Array.replicate 44 none
  statics := none }

def pool3 : Array CpInfo := pool [(1, u "java/lang/Cloneable"), (0, .class_ 1), (0, u "java/lang/Object"), (0, .class_ 3)] 3

/-- java/lang/Cloneable -/
def k3 : Class := { plain "java/lang/Cloneable" (some 0) with
  accessFlags := 1537
  interfaces := #[]
  cf := some (fileOf pool3 2 #[] #[] 1537 4 #[] #[])
  fields := #[]
  methods := #[]
  instanceTypes := #[]
  staticTypes := #[]
  resolved := Array.replicate 8 none
  statics := none }

def pool4 : Array CpInfo := pool [(1, u "java/io/Serializable"), (0, .class_ 1), (0, u "java/lang/Object"), (0, .class_ 3)] 3

/-- java/io/Serializable -/
def k4 : Class := { plain "java/io/Serializable" (some 0) with
  accessFlags := 1537
  interfaces := #[]
  cf := some (fileOf pool4 2 #[] #[] 1537 4 #[] #[])
  fields := #[]
  methods := #[]
  instanceTypes := #[]
  staticTypes := #[]
  resolved := Array.replicate 8 none
  statics := none }

/-- the primitive byte -/
def k5 : Class := { plain "byte" none with kind := .primitive 'B', accessFlags := 0x411 }
/-- [B -/
def k6 : Class := { plain "[B" (some 0) with kind := .array 5 .byte, interfaces := #[3, 4], accessFlags := 1041 }

/-- the primitive int -/
def k7 : Class := { plain "int" none with kind := .primitive 'I', accessFlags := 0x411 }
/-- [I -/
def k8 : Class := { plain "[I" (some 0) with kind := .array 7 .int, interfaces := #[3, 4], accessFlags := 1041 }

/-- the primitive double -/
def k9 : Class := { plain "double" none with kind := .primitive 'D', accessFlags := 0x411 }
/-- [D -/
def k10 : Class := { plain "[D" (some 0) with kind := .array 9 .double, interfaces := #[3, 4], accessFlags := 1041 }

def heap : Heap := #[]
def classes : Array Class := #[k0, k1, k2, k3, k4, k5, k6, k7, k8, k9, k10]
def interned : List (Array UInt16 × Addr) := []
def slotsUsed : Nat := 0
def theMethod : MethodId := ⟨1, 3⟩
def args0 : Array Value := #[.int 5, .int 5]
def aboutOver (below : List Frame) : State where
  vm := { classes := classes, interned := interned.toArray }
  heap := heap
  slotsUsed := slotsUsed
  threads := #[{ frames := .invoking theMethod args0 :: below }]
def below0 : List Frame := [.native { method := ⟨0, 0⟩, args := #[] }]
def about1 : State := aboutOver below0
def p0 : Program := .bare "" "" ""
def e0 : Env := launch0.env 0 0 0
theorem w_frames : about1.frames = Frame.invoking theMethod args0 :: below0 := rfl
set_option maxRecDepth 65536 in
theorem w_args : argsFit about1.vm theMethod args0 = true := by decide +kernel
set_option maxRecDepth 65536 in
theorem w_heap : heapFits about1 = true := by decide +kernel
set_option maxRecDepth 65536 in
theorem w_runnable : about1.curStatus? = some .runnable := by decide +kernel
set_option maxRecDepth 65536 in
theorem w_alone : about1.alone = true := by decide +kernel
set_option maxRecDepth 65536 in
theorem w_named : about1.methodNamed? x = some theMethod := by decide +kernel
set_option maxRecDepth 65536 in
theorem w_hears : about1.hears theMethod below0 = true := by decide +kernel
set_option maxRecDepth 65536 in
theorem w_ripe : about1.ripe theMethod args0 below0 = true := by decide +kernel
theorem w_running : about1.status = .running := rfl
set_option maxRecDepth 65536 in
theorem w_room : about1.hasRoom e0.platform room_1 = true :=
  launch0.hasRoom_least _ room_1 (by decide +kernel) (by decide +kernel) (by decide +kernel) (by decide +kernel) (by decide +kernel) (by decide +kernel)
theorem allAtoms_all (ts : List Jvm.Cond) (a : Array Jvm.Value) (st : Jvm.State) : (allAtoms ts).before a st = ts.all (fun c => c.before a st) := by
  induction ts with
  | nil => rfl
  | cons c t ih =>
    show (Jvm.Cond.and c (allAtoms t)).before a st = _
    rw [Jvm.Cond.before_and, ih, List.all_cons]
def words1 : List Jvm.Cond := Jvm.Cond.code x code maxLocals ret :: tables_1
/-- a 'code' word, met by the world's own term for the bytes: nothing is compared byte by byte -/
theorem code_word {y : MethodName} {bytes : ByteArray} {mx : Nat} {rt : Option FieldType} {a : Array Value} {s : State} {m : MethodId} {meth : Method} {c : Code} (h1 : s.methodNamed? y = some m) (h2 : s.vm.method? m = some meth) (h3 : meth.code = some c) (h4 : c.code = bytes)
    (h5 : (c.maxLocals == mx && c.exceptionTable.isEmpty && decide (c.maxStack ≤ mostOperands) && decide (meth.sig.returnType = rt) && !meth.locks && decide (parseMethodDescriptor y.desc = some meth.sig)) = true) : (Jvm.Cond.code y bytes mx rt).before a s = true := by
  simp only [Bool.and_eq_true, beq_iff_eq, Bool.not_eq_true', decide_eq_true_eq] at h5
  obtain ⟨⟨⟨⟨⟨g1, g2⟩, g3⟩, g4⟩, g5⟩, g6⟩ := h5
  simp [Cond.before, Cond.holds, Cond.value, h1, h2, h3, h4, g1, g2, g3, g4, g5, g6]
def isCode : Jvm.Cond → Bool
  | .code _ _ _ _ => true
  | _ => false
theorem all_split {L : List Jvm.Cond} {P : Jvm.Cond → Bool} (h1 : L.all (fun c => isCode c || P c) = true) (h2 : ∀ c ∈ L.filter isCode, P c = true) : L.all P = true := by
  refine List.all_eq_true.mpr fun c hc => ?_
  have h := List.all_eq_true.mp h1 c hc
  rcases Bool.eq_false_or_eq_true (isCode c) with hi | hi
  · exact h2 c (List.mem_filter.mpr ⟨hc, hi⟩)
  · simpa [hi] using h
set_option maxRecDepth 65536 in
theorem w_c0 : (Jvm.Cond.code x code maxLocals ret).before args0 about1 = true := code_word (m := ⟨1, 3⟩) (meth := k1m3) (c := k1c3) (by decide +kernel) rfl rfl rfl (by decide +kernel)
set_option maxRecDepth 65536 in
theorem w_c1 : (Jvm.Cond.code ({ cls := "com/example/hailwise/hailwise/NodeQueuePollPinLaw", name := "kk", desc := "(II)I" } : Jvm.MethodName) method_2_code (2 : Nat) (Option.some Jvm.ClassFile.FieldType.int)).before args0 about1 = true := code_word (m := ⟨1, 1⟩) (meth := k1m1) (c := k1c1) (by decide +kernel) rfl rfl rfl (by decide +kernel)
set_option maxRecDepth 65536 in
theorem w_c2 : (Jvm.Cond.code ({ cls := "com/example/hailwise/hailwise/NodeQueue", name := "<init>", desc := "()V" } : Jvm.MethodName) prog_21_method_1_code (1 : Nat) (Option.none : Option Jvm.ClassFile.FieldType)).before args0 about1 = true := code_word (m := ⟨2, 0⟩) (meth := k2m0) (c := k2c0) (by decide +kernel) rfl rfl rfl (by decide +kernel)
set_option maxRecDepth 65536 in
theorem w_c3 : (Jvm.Cond.code ({ cls := "java/lang/Object", name := "<init>", desc := "()V" } : Jvm.MethodName) object_method_1_code (1 : Nat) (Option.none : Option Jvm.ClassFile.FieldType)).before args0 about1 = true := code_word (m := ⟨0, 0⟩) (meth := k0m0) (c := k0c0) (by decide +kernel) rfl rfl rfl (by decide +kernel)
set_option maxRecDepth 65536 in
theorem w_c4 : (Jvm.Cond.code ({ cls := "com/example/hailwise/hailwise/NodeQueue", name := "add", desc := "(ID)V" } : Jvm.MethodName) prog_21_method_4_code (6 : Nat) (Option.none : Option Jvm.ClassFile.FieldType)).before args0 about1 = true := code_word (m := ⟨2, 1⟩) (meth := k2m1) (c := k2c1) (by decide +kernel) rfl rfl rfl (by decide +kernel)
set_option maxRecDepth 65536 in
theorem w_c5 : (Jvm.Cond.code ({ cls := "com/example/hailwise/hailwise/NodeQueue", name := "poll", desc := "()I" } : Jvm.MethodName) prog_21_method_6_code (7 : Nat) (Option.some Jvm.ClassFile.FieldType.int)).before args0 about1 = true := code_word (m := ⟨2, 2⟩) (meth := k2m2) (c := k2c2) (by decide +kernel) rfl rfl rfl (by decide +kernel)
set_option maxRecDepth 65536 in
theorem w_c6 : (Jvm.Cond.code ({ cls := "com/example/hailwise/hailwise/NodeQueuePollPinLaw", name := "in", desc := "(I)Z" } : Jvm.MethodName) method_3_code (1 : Nat) (Option.some Jvm.ClassFile.FieldType.boolean)).before args0 about1 = true := code_word (m := ⟨1, 2⟩) (meth := k1m2) (c := k1c2) (by decide +kernel) rfl rfl rfl (by decide +kernel)
def codes1 : List Jvm.Cond := [Jvm.Cond.code x code maxLocals ret, Jvm.Cond.code ({ cls := "com/example/hailwise/hailwise/NodeQueuePollPinLaw", name := "kk", desc := "(II)I" } : Jvm.MethodName) method_2_code (2 : Nat) (Option.some Jvm.ClassFile.FieldType.int), Jvm.Cond.code ({ cls := "com/example/hailwise/hailwise/NodeQueue", name := "<init>", desc := "()V" } : Jvm.MethodName) prog_21_method_1_code (1 : Nat) (Option.none : Option Jvm.ClassFile.FieldType), Jvm.Cond.code ({ cls := "java/lang/Object", name := "<init>", desc := "()V" } : Jvm.MethodName) object_method_1_code (1 : Nat) (Option.none : Option Jvm.ClassFile.FieldType), Jvm.Cond.code ({ cls := "com/example/hailwise/hailwise/NodeQueue", name := "add", desc := "(ID)V" } : Jvm.MethodName) prog_21_method_4_code (6 : Nat) (Option.none : Option Jvm.ClassFile.FieldType), Jvm.Cond.code ({ cls := "com/example/hailwise/hailwise/NodeQueue", name := "poll", desc := "()I" } : Jvm.MethodName) prog_21_method_6_code (7 : Nat) (Option.some Jvm.ClassFile.FieldType.int), Jvm.Cond.code ({ cls := "com/example/hailwise/hailwise/NodeQueuePollPinLaw", name := "in", desc := "(I)Z" } : Jvm.MethodName) method_3_code (1 : Nat) (Option.some Jvm.ClassFile.FieldType.boolean)]
set_option maxRecDepth 65536 in
theorem codes_eq : words1.filter isCode = codes1 := rfl
theorem w_codes : ∀ c ∈ words1.filter isCode, c.before args0 about1 = true := by
  rw [codes_eq]
  intro c hc
  simp only [codes1, List.mem_cons, List.not_mem_nil, or_false] at hc
  rcases hc with rfl | rfl | rfl | rfl | rfl | rfl | rfl
  · exact w_c0
  · exact w_c1
  · exact w_c2
  · exact w_c3
  · exact w_c4
  · exact w_c5
  · exact w_c6
set_option maxRecDepth 65536 in
theorem w_t1 : (words1.take 24).all (fun c => isCode c || c.before args0 about1) = true := by decide +kernel
set_option maxRecDepth 65536 in
theorem w_t2 : (words1.drop 24).all (fun c => isCode c || c.before args0 about1) = true := by decide +kernel
theorem w_tables : (allAtoms (Jvm.Cond.code x code maxLocals ret :: tables_1)).before args0 about1 = true := by
  rw [allAtoms_all]
  show words1.all (fun c => c.before args0 about1) = true
  refine all_split ?_ w_codes
  rw [← List.take_append_drop 24 words1, List.all_append, w_t1, w_t2]
  rfl
set_option maxRecDepth 65536 in
theorem w_case : (Jvm.Cond.and given_1 narrow_1).before args0 about1 = true := by decide +kernel
theorem w_applies : (headSpec (Jvm.Cond.code x code maxLocals ret :: tables_1) room_1).applies x e0.platform about1 = true :=
  (Spec.applies_iff w_frames).mpr ⟨w_running, w_runnable, w_alone, w_named, w_hears, w_ripe, w_room, w_tables⟩
theorem atStart : AtStart classFile x code maxLocals ret World_1 tables_1 room_1 Calls_1 rest_1 Pre_1 launch0 p0 e0 about1 theMethod args0 below0 :=
  ⟨lists_1, trivial, launch0.admits_env _ _ _, launch0.least_env, fairChoices_fair.cas, fairChoices_fair.clock, w_frames, w_args, w_heap, w_applies, trivial, trivial, w_case⟩
end start1
theorem witness_1 : WitnessClaimed_1 := ⟨start1.p0, start1.e0, start1.about1, start1.theMethod, start1.args0, start1.below0, start1.atStart⟩
end Jvm.Pilot.@@N@@
