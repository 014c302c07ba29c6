import JvmDerived
import JvmDerived.Pilot.@@N@@Statement
import JvmDerived.Pilot.@@N@@Code
set_option linter.unusedVariables false
set_option linter.unusedSimpArgs false
namespace Jvm.Pilot.@@N@@
open Jvm Jvm.ClassFile Sem Op Lib Jvm.Free Jvm.Stand Jvm.LawKit Jvm.RoadKit Bundle Jvm.Pilot.@@N@@.Jvm.D
section Own
variable {p : Program} {l : Launch} {e : Env} {R : Room} {s : State} {m : MethodId} {args : Array Value} {below : List Frame} {meth : Method} {c : Code} {T : State} {locs : List Loc} {cells slots cl sl : Nat} {Q : Option Value → Heap → List Loc → Prop}
/-- from the state S the invocation comes to its end, returns, and Q holds of what it returned and left -/
def Goes (p : Program) (e : Env) (below : List Frame) (s : State) (cl sl : Nat) (Q : Option Value → Heap → List Loc → Prop) (S : State) : Prop :=
  ∃ s₂ o, Steps p.tables e below S s₂ ∧ s₂.status = .running ∧ Ended s₂ below o ∧ ∃ v L, o = .returned v ∧ Q v s₂.heap L ∧ FrameEnd s o s₂ L cl sl
theorem Goes.step {S S' : State} (h : ∀ t, Steps p.tables e below S' t → Steps p.tables e below S t) (k : Goes p e below s cl sl Q S') : Goes p e below s cl sl Q S := by
  obtain ⟨s₂, o, a, b⟩ := k
  exact ⟨s₂, o, h _ a, b⟩
theorem Goes.back {S S' : State} (h : Steps p.tables e below S S') (k : Goes p e below s cl sl Q S') : Goes p e below s cl sl Q S := Goes.step (fun _ q => h.trans q) k
theorem Goes.ret (X : Stand p l e R s m args below meth c T locs cells slots) (hx : p.tables.exec = Jvm.exec) (hlk : meth.locks = false) {pc : Nat} {Ls : Array Slot} {w : Value} {t : FieldType} {i : Instr} {rest : List Value} (hret : meth.sig.returnType = some t) (hn : narrow t w = w)
    (hi : (i = .ireturn ∧ (t = .int ∨ t = .boolean ∨ t = .byte ∨ t = .char ∨ t = .short) ∧ ∃ z, w = .int z) ∨ (i = .lreturn ∧ t = .long ∧ ∃ z, w = .long z) ∨ (i = .dreturn ∧ t = .double ∧ ∃ z, w = .double z) ∨ (i = .freturn ∧ t = .float ∧ ∃ z, w = .float z) ∨ (i = .areturn ∧ t.isReference = true ∧ w.isRef = true))
    (hd : decode c.code pc = .ok (i, 1)) (hQ : Q (some w) T.heap locs) (hc : cells ≤ cl) (hs : slots ≤ sl) : Goes p e below s cl sl Q (T.setTop (mkF m pc Ls (w :: rest))) := by
  obtain ⟨fs, hr, hrun, hended, hW, hsame⟩ := X.leave (v := some w) (fun h => by rw [hret] at h; cases h) hlk
  exact ⟨_, _, retOut X hx hret hn hi hd hr, hrun, hended, _, _, rfl, hQ, ⟨_, rfl⟩, hW, hsame.mono hc hs⟩
theorem Goes.retV (X : Stand p l e R s m args below meth c T locs cells slots) (hx : p.tables.exec = Jvm.exec) (hlk : meth.locks = false) {pc : Nat} {Ls : Array Slot} (hret : meth.sig.returnType = none)
    (hd : decode c.code pc = .ok (.return_, 1)) (hQ : Q none T.heap locs) (hc : cells ≤ cl) (hs : slots ≤ sl) : Goes p e below s cl sl Q (T.setTop (mkF m pc Ls [])) := by
  obtain ⟨fs, hr, hrun, hended, hW, hsame⟩ := X.leave (v := none) (fun _ => rfl) hlk
  exact ⟨_, _, X.returnOut hx hret hd hr, hrun, hended, _, _, rfl, hQ, ⟨_, rfl⟩, hW, hsame.mono hc hs⟩
theorem own_eqInt {args : Array Value} {s : State} {t : Term} {k : Int32} (h : (Cond.eq t (.int k)).value args s none s [] = some true) : t.eval args s none [] s = some (.int k) := by
  obtain ⟨x, y, hx, hy, -, k2⟩ := cmp_v (Or.inl h)
  obtain rfl : y = .int k := (Option.some.inj hy).symm
  obtain ⟨z, rfl⟩ := k2
  have e : (Cond.eq t (.int k)).value args s none s [] = some (decide (z = k)) := by simp [Cond.value, hx, hy]
  rw [hx, gotT e h]
theorem own_eqLong {args : Array Value} {s : State} {t : Term} {k : Int64} (h : (Cond.eq t (.long k)).value args s none s [] = some true) : t.eval args s none [] s = some (.long k) := by
  obtain ⟨x, y, hx, hy, -, k2⟩ := cmp_v (Or.inl h)
  obtain rfl : y = .long k := (Option.some.inj hy).symm
  obtain ⟨z, rfl⟩ := k2
  rw [hx, gotT (eq_L hx hy) h]
theorem own_neFld {Z : State} {h : Heap} {a b : Addr} {C n d : String} {x y : Int32} (F : Fld Z h a C n d (.int x)) (G : Fld Z h b C n d (.int y)) (q : x ≠ y) : a ≠ b := fun e => by
  subst e
  obtain ⟨cell, cf, k, i, f, h1, h2, -, -, -, -, h7⟩ := F
  obtain ⟨cell', cf', k', i', f', g1, g2, -, -, -, -, g7⟩ := G
  cases h1.symm.trans g1
  cases h2.symm.trans g2
  rw [h7] at g7
  injection g7 with g8
  injection g8 with g9
  exact q g9
theorem own_miss1 {k : Int32} {a : Int} (b : Int32) (hb : b.toInt = a) (h : ¬ k = b) : a ≠ k.toInt := fun q => h (Int32.toInt_inj.mp (by rw [hb, q]))
theorem own_find3 {k : Int32} {a b c' o1 o2 o3 : Int} {a' b' d' : Int32} (ha : ¬ k = a') (hb : ¬ k = b') (hc : ¬ k = d') (ea : a'.toInt = a := by rfl) (eb : b'.toInt = b := by rfl) (ec : d'.toInt = c' := by rfl) : (#[(a, o1), (b, o2), (c', o3)] : Array (Int × Int)).find? (·.1 == k.toInt) = none :=
  find_miss fun p hp => by
    simp only [List.mem_cons, List.not_mem_nil, or_false] at hp
    rcases hp with rfl | rfl | rfl
    · exact own_miss1 _ ea ha
    · exact own_miss1 _ eb hb
    · exact own_miss1 _ ec hc
theorem own_insKeep {Z : State} {h h' : Heap} {a : Addr} {C : String} {b : Bool} {ws : List Addr} (F : Ins Z h a C b) (K : Keep h h' ws) : Ins Z h' a C b := by
  obtain ⟨cell, cT, h1, h2, h3⟩ := F
  obtain ⟨c', q, r1, r2, r3⟩ := K.2.2 a cell h1
  exact ⟨c', cT, q, h2, by rw [r1, r2]; exact h3⟩
theorem own_insLt {Z : State} {h : Heap} {a : Addr} {C : String} {b : Bool} (F : Ins Z h a C b) : a < h.size := by
  obtain ⟨cell, cT, h1, -⟩ := F
  exact (Array.getElem?_eq_some_iff.mp h1).1
theorem own_cat {v : Value} (h : v.isRef = true) : v.category = 1 := by cases v <;> first | rfl | (simp [Value.isRef] at h)
theorem own_nar {ty : FieldType} {v : Value} (h : v.isRef = true) : narrow ty v = v := by cases v <;> first | (simp [Value.isRef] at h; done) | (cases ty <;> rfl)
theorem own_fit {C : String} {v : Value} (h : v.isRef = true) : fits (.object C) v = true := by cases v <;> first | rfl | (simp [Value.isRef] at h)
/-- a private method is selected by its own type, which is no interface since another method of it is selected -/
theorem own_selPriv {s : State} {args : Array Value} {C : String} {x z y : MethodName} (w : (Cond.selects C x z).before args s = true) (hc : z.cls = y.cls) (hp : (Cond.privateMethod y).before args s = true) (hi : (Cond.instanceMethod y).before args s = true)
    (hy : y.cls ≠ "java/lang/invoke/MethodHandle" ∧ y.cls ≠ "java/lang/invoke/VarHandle") : (Cond.selects y.cls y y).before args s = true := by
  obtain ⟨c2, r2, m2, -, -, q3, -, kP, hkP, hkPi⟩ := Cond.selects_spec w
  have hf := findClass_of_methodNamed q3
  rw [hc] at hf
  exact selects_self_of_private hf hkP hkPi (Cond.privateMethod_at hp) hi hy
/-- an array whose contents aren't told -/
def Arx (Z : State) (h : Heap) (a : Addr) (k : ClassId) (ty : FieldType) (n : Int32) : Prop :=
  ∃ cl : Cell, Arr Z h a cl ty ∧ cl.cls = k ∧ cl.slots.size = n.toNatClampNeg ∧ ¬ n < 0 ∧ ∀ i, i < cl.slots.size → ∃ v, cl.slots[i]? = some v ∧ fits ty v = true
theorem Arx.lt {Z : State} {h : Heap} {a : Addr} {k : ClassId} {ty : FieldType} {n : Int32} (F : Arx Z h a k ty n) : a < h.size := by obtain ⟨cl, A, -⟩ := F; exact A.lt
theorem Arx.ext {Z : State} {h h' : Heap} {a : Addr} {k : ClassId} {ty : FieldType} {n : Int32} (F : Arx Z h a k ty n) (E : Ext h h') : Arx Z h' a k ty n := by obtain ⟨cl, A, r⟩ := F; exact ⟨cl, A.ext E, r⟩
theorem Arx.other {Z : State} {h h' : Heap} {a b : Addr} {k : ClassId} {ty : FieldType} {n : Int32} {sl : Nat} {v : Value} (F : Arx Z h b k ty n) (W : Wr h h' a sl v) (q : b ≠ a) : Arx Z h' b k ty n := by obtain ⟨cl, A, r⟩ := F; exact ⟨cl, A.other W q, r⟩
theorem Arx.keep {Z : State} {h h' : Heap} {a : Addr} {k : ClassId} {ty : FieldType} {n : Int32} {ws : List Addr} (F : Arx Z h a k ty n) (K : Keep h h' ws) (q : a ∉ ws) : Arx Z h' a k ty n := by obtain ⟨cl, A, r⟩ := F; exact ⟨cl, ⟨K.2.1 a cl A.1 q, A.2⟩, r⟩
theorem Arx.set {Z : State} {h h' : Heap} {a : Addr} {k : ClassId} {ty : FieldType} {n : Int32} {cl : Cell} {sl : Nat} {v : Value} (A : Arr Z h a cl ty) (q1 : cl.cls = k) (S : cl.slots.size = n.toNatClampNeg) (P : ¬ n < 0) (G : ∀ i, i < cl.slots.size → ∃ v, cl.slots[i]? = some v ∧ fits ty v = true) (hv : fits ty v = true) (W : Wr h h' a sl v) : Arx Z h' a k ty n := by
  refine ⟨_, A.same W, q1, by rw [sz_set]; exact S, P, fun i hi => ?_⟩
  rw [sz_set] at hi
  by_cases u : sl = i
  · subst u
    exact ⟨v, by simp [Cell.setSlot, hi], hv⟩
  · obtain ⟨w, e1, e2⟩ := G i hi
    refine ⟨w, ?_, e2⟩
    show (cl.slots.setIfInBounds sl v)[i]? = some w
    rw [Array.getElem?_setIfInBounds_ne u]
    exact e1
theorem own_arx {Z : State} {h : Heap} {a : Addr} {k : ClassId} {ty : FieldType} {n : Int32} {vs : List Value} {d : Value} (F : Arv Z h a k ty n vs d) : Arx Z h a k ty n := by
  obtain ⟨cl, A, r1, r2, r3, H, G⟩ := F
  exact ⟨cl, A, r1, r2, r3, fun i hi => ⟨_, H i hi, G i hi⟩⟩
theorem own_arI {cl : Cell} {j : Int32} (G : ∀ i, i < cl.slots.size → ∃ v, cl.slots[i]? = some v ∧ fits .int v = true) (hin : ¬ (j < 0 ∨ cl.slots.size ≤ j.toNatClampNeg)) : ∃ x : Int32, cl.slots[j.toNatClampNeg]? = some (.int x) := by
  obtain ⟨v, e1, e2⟩ := G _ (Nat.lt_of_not_le fun q => hin (Or.inr q))
  obtain ⟨x, rfl⟩ := fit_I e2 (Or.inl rfl)
  exact ⟨x, e1⟩
theorem own_arD {cl : Cell} {j : Int32} (G : ∀ i, i < cl.slots.size → ∃ v, cl.slots[i]? = some v ∧ fits .double v = true) (hin : ¬ (j < 0 ∨ cl.slots.size ≤ j.toNatClampNeg)) : ∃ x, cl.slots[j.toNatClampNeg]? = some (.double x) := by
  obtain ⟨v, e1, e2⟩ := G _ (Nat.lt_of_not_le fun q => hin (Or.inr q))
  obtain ⟨x, rfl⟩ := fit_D e2
  exact ⟨x, e1⟩
end Own
theorem own_arx0 {s : State} {args : Array Value} {t : Term} {a : Addr} {cl : Cell} {ty : FieldType} {n : Int32} (hfit : Fit s) (et : t.eval args s none [] s = some (.ref a)) (A : Arr s s.heap a cl ty) (hl : (Term.length t).eval args s none [] s = some (.int n)) (hn : ¬ n < 0) : Arx s s.heap a cl.cls ty n := by
  obtain ⟨x, c2, e1, e2, e4, e3⟩ := Jvm.Free.SB.Term.length_small hl
  cases et.symm.trans e1
  cases (A.fin (Vm.Alike.refl _)).symm.trans e2
  injection e4 with e5
  have hs : cl.slots.size = n.toNatClampNeg := by
    rw [e5]
    simp only [Int32.toNatClampNeg, len_toInt e3]
    rfl
  refine ⟨cl, A, rfl, hs, hn, fun i hi => ?_⟩
  have hq : ¬ (i.toInt32 < 0 ∨ cl.slots.size ≤ i.toInt32.toNatClampNeg) := idx_in hi e3
  obtain ⟨v, r1, r2⟩ := elem_fit hfit A hq
  refine ⟨v, ?_, r2⟩
  have hi2 : i.toInt32.toNatClampNeg = i := by simp only [Int32.toNatClampNeg, len_toInt (Nat.lt_trans hi e3)]; rfl
  rw [hi2] at r1
  exact r1
theorem d1_0 : decode prog_29_method_5_code 0 = .ok (.lload_n 0, 1) := by decide +kernel
theorem d1_1 : decode prog_29_method_5_code 1 = .ok (.getstatic 54, 3) := by decide +kernel
theorem d1_4 : decode prog_29_method_5_code 4 = .ok (.lcmp, 1) := by decide +kernel
theorem d1_5 : decode prog_29_method_5_code 5 = .ok (.ifCond .lt 15, 3) := by decide +kernel
theorem d1_8 : decode prog_29_method_5_code 8 = .ok (.lload_n 0, 1) := by decide +kernel
theorem d1_9 : decode prog_29_method_5_code 9 = .ok (.getstatic 58, 3) := by decide +kernel
theorem d1_12 : decode prog_29_method_5_code 12 = .ok (.lcmp, 1) := by decide +kernel
theorem d1_13 : decode prog_29_method_5_code 13 = .ok (.ifCond .gt 7, 3) := by decide +kernel
theorem d1_16 : decode prog_29_method_5_code 16 = .ok (.iconst 1, 1) := by decide +kernel
theorem d1_17 : decode prog_29_method_5_code 17 = .ok (.goto 4, 3) := by decide +kernel
theorem d1_20 : decode prog_29_method_5_code 20 = .ok (.iconst 0, 1) := by decide +kernel
theorem d1_21 : decode prog_29_method_5_code 21 = .ok (.ireturn, 1) := by decide +kernel
theorem pn_1 : plainName "com/example/nehaba/nehaba/input/JapanTime" = true := by first | (simp [plainName, overriddenIn]; done) | decide +kernel
theorem ef_1 (m : MethodId) (x0 : Int64)  : entryFrame m #[(.long x0)] 2 = mkF m 0 #[.val (.long x0), .second] [] := by first | (simp [entryFrame, mkF, argsToLocals, Value.category]; done) | rfl
def Q1 (Z : State) (x0 : Int64) (h0 : Heap) (n0 : Nat) (v : Option Value) (h : Heap) (L : List Loc) : Prop := Fr n0 L ∧ h = h0 ∧ ((v = some (.int (0 : Int32)) ∧ x0 < (-62135629200 : Int64)) ∨ (v = some (.int (0 : Int32)) ∧ ¬ (x0 < (-62135629200 : Int64)) ∧ (253402268399 : Int64) < x0) ∨ (v = some (.int (1 : Int32)) ∧ ¬ (x0 < (-62135629200 : Int64)) ∧ ¬ ((253402268399 : Int64) < x0)))
set_option maxRecDepth 65536 in
set_option maxHeartbeats 40000000 in
theorem rm1 (l : Launch) (Z : State) (a0 : Array Value) (hw : ∀ d ∈ tables_1, d.before a0 Z = true) (ws : List Jvm.Cond) (x0 : Int64) (h0 : Heap) (n0 : Nat) (Z0 : n0 ≤ h0.size) (S_FIRST : Sta Z Z.heap "com/example/nehaba/nehaba/input/JapanTime" "FIRST" "J" (.long (-62135629200 : Int64))) (S_LAST : Sta Z Z.heap "com/example/nehaba/nehaba/input/JapanTime" "LAST" "J" (.long (253402268399 : Int64))) (X00 : Old Z n0 h0) :
    MetFree l (⟨"com/example/nehaba/nehaba/input/JapanTime", "writable", "(J)Z"⟩ : MethodName) (head1 (Jvm.Cond.code (⟨"com/example/nehaba/nehaba/input/JapanTime", "writable", "(J)Z"⟩ : MethodName) prog_29_method_5_code 2 (some .boolean) :: ws) ({ frames := 0, cells := 0, slots := 0, locals := 0 } : Room)) (fun a U => a = #[(.long x0)] ∧ Z.Warmed39 U.vm ∧ U.heap = h0) (fun _ _ _ _ _ => True) (fun _ U o U' => ∃ v L, o = .returned v ∧ Q1 Z x0 h0 n0 v U'.heap L ∧ FrameEnd U o U' L ({ frames := 0, cells := 0, slots := 0, locals := 0 } : Room).cells ({ frames := 0, cells := 0, slots := 0, locals := 0 } : Room).slots) := by
  refine MetFree.of_bodySF (plainFor_of_name pn_1) hisR ?_
  intro p e s m args below meth c s₁ Bd hml0 hP hK
  obtain ⟨rfl, hZ, hh⟩ := hP
  have hx := Bd.exec
  have hby := Bd.bytes
  have hml : c.maxLocals = 2 := hml0
  have hown : s.vm.findClass "com/example/nehaba/nehaba/input/JapanTime" = some m.cls := findClass_of_methodNamed Bd.named
  have hnm := (name_of_methodNamed Bd.named Bd.method).1
  have X0 : Stand p l e ({ frames := 0, cells := 0, slots := 0, locals := 0 } : Room) s m #[(.long x0)] below meth c s₁ [] 0 0 := Stand.of_body Bd
  have e0 : s₁.heap = h0 := by rw [← hh, Bd.state]; rfl
  have N0 := Fr.nil n0
  have K0 : Keep h0 h0 [] := Keep.refl h0 _
  refine (?_ : Goes p e below s ({ frames := 0, cells := 0, slots := 0, locals := 0 } : Room).cells ({ frames := 0, cells := 0, slots := 0, locals := 0 } : Room).slots (fun v h L => Q1 Z x0 h0 n0 v h L) (s₁.setTop (entryFrame m #[(.long x0)] 2)))
  rw [ef_1 m x0 ]
  show Goes _ _ _ _ _ _ _ (s₁.setTop (mkF m 0 #[.val (.long x0), .second] []))
  refine Goes.step (fun _ k => XS.lloadN X0.here hx rfl (hb hby d1_0) rfl  k) ?_
  show Goes _ _ _ _ _ _ _ (s₁.setTop (mkF m 1 #[.val (.long x0), .second] [(.long x0)]))
  obtain ⟨T1, X1, e1, st1⟩ := getS2 X0 hx hZ hown (host := "") (Or.inl (hw _ (List.mem_of_getElem? (i := 7) rfl))) Via.refl e0 (S_FIRST.ext X00.2) (g := (mkF m 1 #[.val (.long x0), .second] [(.long x0)])) rfl (hb hby d1_1)
  refine Goes.step st1 ?_
  show Goes _ _ _ _ _ _ _ (T1.setTop (mkF m 4 #[.val (.long x0), .second] [(.long (-62135629200 : Int64)), (.long x0)]))
  refine Goes.step (fun _ k => XS.lcmp X1.here hx rfl (hb hby d1_4) rfl k) ?_
  show Goes _ _ _ _ _ _ _ (T1.setTop (mkF m 5 #[.val (.long x0), .second] [(.int (lcmpW x0 (-62135629200 : Int64)))]))
  by_cases c5_2 : x0 < (-62135629200 : Int64)
  · refine Goes.step (fun _ k => XS.ifYes X1.here hx rfl (pc0 := 5) (pc' := 20) rfl (hb hby d1_5) rfl ((if0 _ _).trans (tlt ((lw_lt _ _).mpr c5_2)).1) (by decide) (by decide) k) ?_
    show Goes _ _ _ _ _ _ _ (T1.setTop (mkF m 20 #[.val (.long x0), .second] []))
    refine Goes.step (fun _ k => XS.iconst X1.here hx rfl (hb hby d1_20) k) ?_
    show Goes _ _ _ _ _ _ _ (T1.setTop (mkF m 21 #[.val (.long x0), .second] [(.int (0 : Int32))]))
    exact Goes.ret X1 hx (BodyLoose.notSynchronized Bd) Bd.returns rfl (Or.inl ⟨rfl, by simp, _, rfl⟩) (hb hby d1_21) (by show Q1 Z x0 h0 n0 (some (.int (0 : Int32))) T1.heap _; rw [e1]; exact ⟨N0, rfl, Or.inl (⟨rfl, c5_2⟩)⟩) (by decide) (by decide)
  · refine Goes.step (fun _ k => XS.ifNo X1.here hx rfl (hb hby d1_5) rfl ((if0 _ _).trans (flt (fun q => c5_2 ((lw_lt _ _).mp q))).1) k) ?_
    show Goes _ _ _ _ _ _ _ (T1.setTop (mkF m 8 #[.val (.long x0), .second] []))
    refine Goes.step (fun _ k => XS.lloadN X1.here hx rfl (hb hby d1_8) rfl  k) ?_
    show Goes _ _ _ _ _ _ _ (T1.setTop (mkF m 9 #[.val (.long x0), .second] [(.long x0)]))
    obtain ⟨T3, X3, e3, st3⟩ := getS2 X1 hx hZ hown (host := "") (Or.inl (hw _ (List.mem_of_getElem? (i := 9) rfl))) Via.refl e1 (S_LAST.ext X00.2) (g := (mkF m 9 #[.val (.long x0), .second] [(.long x0)])) rfl (hb hby d1_9)
    refine Goes.step st3 ?_
    show Goes _ _ _ _ _ _ _ (T3.setTop (mkF m 12 #[.val (.long x0), .second] [(.long (253402268399 : Int64)), (.long x0)]))
    refine Goes.step (fun _ k => XS.lcmp X3.here hx rfl (hb hby d1_12) rfl k) ?_
    show Goes _ _ _ _ _ _ _ (T3.setTop (mkF m 13 #[.val (.long x0), .second] [(.int (lcmpW x0 (253402268399 : Int64)))]))
    by_cases c13_4 : (253402268399 : Int64) < x0
    · refine Goes.step (fun _ k => XS.ifYes X3.here hx rfl (pc0 := 13) (pc' := 20) rfl (hb hby d1_13) rfl ((if0 _ _).trans (tlt ((lw_gt _ _).mpr c13_4)).2.2.1) (by decide) (by decide) k) ?_
      show Goes _ _ _ _ _ _ _ (T3.setTop (mkF m 20 #[.val (.long x0), .second] []))
      refine Goes.step (fun _ k => XS.iconst X3.here hx rfl (hb hby d1_20) k) ?_
      show Goes _ _ _ _ _ _ _ (T3.setTop (mkF m 21 #[.val (.long x0), .second] [(.int (0 : Int32))]))
      exact Goes.ret X3 hx (BodyLoose.notSynchronized Bd) Bd.returns rfl (Or.inl ⟨rfl, by simp, _, rfl⟩) (hb hby d1_21) (by show Q1 Z x0 h0 n0 (some (.int (0 : Int32))) T3.heap _; rw [e3]; exact ⟨N0, rfl, Or.inr (Or.inl (⟨rfl, c5_2, c13_4⟩))⟩) (by decide) (by decide)
    · refine Goes.step (fun _ k => XS.ifNo X3.here hx rfl (hb hby d1_13) rfl ((if0 _ _).trans (flt (fun q => c13_4 ((lw_gt _ _).mp q))).2.2.1) k) ?_
      show Goes _ _ _ _ _ _ _ (T3.setTop (mkF m 16 #[.val (.long x0), .second] []))
      refine Goes.step (fun _ k => XS.iconst X3.here hx rfl (hb hby d1_16) k) ?_
      show Goes _ _ _ _ _ _ _ (T3.setTop (mkF m 17 #[.val (.long x0), .second] [(.int (1 : Int32))]))
      refine Goes.step (fun _ k => XS.goto X3.here hx rfl (pc0 := 17) (pc' := 21) rfl (hb hby d1_17) (by decide) (by decide) k) ?_
      show Goes _ _ _ _ _ _ _ (T3.setTop (mkF m 21 #[.val (.long x0), .second] [(.int (1 : Int32))]))
      exact Goes.ret X3 hx (BodyLoose.notSynchronized Bd) Bd.returns rfl (Or.inl ⟨rfl, by simp, _, rfl⟩) (hb hby d1_21) (by show Q1 Z x0 h0 n0 (some (.int (1 : Int32))) T3.heap _; rw [e3]; exact ⟨N0, rfl, Or.inr (Or.inr (⟨rfl, c5_2, c13_4⟩))⟩) (by decide) (by decide)
theorem pn_0 : plainName "com/example/nehaba/nehaba/input/JapanTimeWritablePinLaw" = true := by first | (simp [plainName, overriddenIn]; done) | decide +kernel
theorem ef_0 (m : MethodId) (p0 : Int64) (p1 : Int32)  : entryFrame m #[(.long p0), (.int p1)] maxLocals = mkF m 0 #[.val (.long p0), .second, .val (.int p1), .unset, .unset, .unset, .unset] [] := by first | (simp [entryFrame, mkF, argsToLocals, Value.category, maxLocals]; done) | rfl
theorem pd_0 : parseMethodDescriptor "(J)Z" = some ⟨[.long], some .boolean⟩ := by decide +kernel
def Q0 (Z : State) (p0 : Int64) (p1 : Int32) (h0 : Heap) (n0 : Nat) (v : Option Value) (h : Heap) (L : List Loc) : Prop := v = some (.int 1) ∧ Fr n0 L
set_option maxRecDepth 65536 in
set_option maxHeartbeats 40000000 in
theorem rm0 (l : Launch) (Z : State) (a0 : Array Value) (hw : ∀ d ∈ tables_1, d.before a0 Z = true) (ws : List Jvm.Cond) (p0 : Int64) (p1 : Int32) (h0 : Heap) (n0 : Nat) (Z0 : n0 ≤ h0.size) (S_FIRST : Sta Z Z.heap "com/example/nehaba/nehaba/input/JapanTime" "FIRST" "J" (.long (-62135629200 : Int64))) (S_LAST : Sta Z Z.heap "com/example/nehaba/nehaba/input/JapanTime" "LAST" "J" (.long (253402268399 : Int64))) (X00 : Old Z n0 h0) :
    MetFree l x (head1 (Jvm.Cond.code x code maxLocals ret :: ws) room_1) (fun a U => a = #[(.long p0), (.int p1)] ∧ Z.Warmed39 U.vm ∧ U.heap = h0) (fun _ _ _ _ _ => True) (fun _ U o U' => ∃ v L, o = .returned v ∧ Q0 Z p0 p1 h0 n0 v U'.heap L ∧ FrameEnd U o U' L room_1.cells room_1.slots) := by
  refine MetFree.of_bodySF (plainFor_of_name pn_0) hisR ?_
  intro p e s m args below meth c s₁ Bd hml0 hP hK
  obtain ⟨rfl, hZ, hh⟩ := hP
  have hx := Bd.exec
  have hby := Bd.bytes
  have hml : c.maxLocals = 7 := hml0
  have hown : s.vm.findClass "com/example/nehaba/nehaba/input/JapanTimeWritablePinLaw" = some m.cls := findClass_of_methodNamed Bd.named
  have hnm := (name_of_methodNamed Bd.named Bd.method).1
  have X0 : Stand p l e room_1 s m #[(.long p0), (.int p1)] below meth c s₁ [] 0 0 := Stand.of_body Bd
  have e0 : s₁.heap = h0 := by rw [← hh, Bd.state]; rfl
  have N0 := Fr.nil n0
  have K0 : Keep h0 h0 [] := Keep.refl h0 _
  refine (?_ : Goes p e below s room_1.cells room_1.slots (fun v h L => Q0 Z p0 p1 h0 n0 v h L) (s₁.setTop (entryFrame m #[(.long p0), (.int p1)] maxLocals)))
  rw [ef_0 m p0 p1 ]
  show Goes _ _ _ _ _ _ _ (s₁.setTop (mkF m 0 #[.val (.long p0), .second, .val (.int p1), .unset, .unset, .unset, .unset] []))
  refine Goes.step (fun _ k => XS.iloadN X0.here hx rfl (hb hby at_0) rfl  k) ?_
  show Goes _ _ _ _ _ _ _ (s₁.setTop (mkF m 1 #[.val (.long p0), .second, .val (.int p1), .unset, .unset, .unset, .unset] [(.int p1)]))
  refine Goes.step (fun _ k => XS.iconst X0.here hx rfl (hb hby at_1) k) ?_
  show Goes _ _ _ _ _ _ _ (s₁.setTop (mkF m 2 #[.val (.long p0), .second, .val (.int p1), .unset, .unset, .unset, .unset] [(.int (3 : Int32)), (.int p1)]))
  refine Goes.step (fun _ k => XS.iand X0.here hx rfl (hb hby at_2) rfl k) ?_
  show Goes _ _ _ _ _ _ _ (s₁.setTop (mkF m 3 #[.val (.long p0), .second, .val (.int p1), .unset, .unset, .unset, .unset] [(.int (p1 &&& (3 : Int32)))]))
  refine Goes.step (fun _ k => XS.istoreN X0.here hx rfl (hb hby at_3) rfl (l' := #[.val (.long p0), .second, .val (.int p1), .val (.int (p1 &&& (3 : Int32))), .unset, .unset, .unset]) rfl k) ?_
  show Goes _ _ _ _ _ _ _ (s₁.setTop (mkF m 4 #[.val (.long p0), .second, .val (.int p1), .val (.int (p1 &&& (3 : Int32))), .unset, .unset, .unset] []))
  refine Goes.step (fun _ k => XS.iloadN X0.here hx rfl (hb hby at_4) rfl  k) ?_
  show Goes _ _ _ _ _ _ _ (s₁.setTop (mkF m 5 #[.val (.long p0), .second, .val (.int p1), .val (.int (p1 &&& (3 : Int32))), .unset, .unset, .unset] [(.int (p1 &&& (3 : Int32)))]))
  by_cases c5_1 : (p1 &&& (3 : Int32)) = (0 : Int32)
  · refine Goes.step (fun _ k => XS.ifNo X0.here hx rfl (hb hby at_5) rfl ((if0 _ _).trans (teq c5_1).2) k) ?_
    show Goes _ _ _ _ _ _ _ (s₁.setTop (mkF m 8 #[.val (.long p0), .second, .val (.int p1), .val (.int (p1 &&& (3 : Int32))), .unset, .unset, .unset] []))
    refine Goes.step (fun _ k => XS.lloadN X0.here hx rfl (hb hby at_8) rfl  k) ?_
    show Goes _ _ _ _ _ _ _ (s₁.setTop (mkF m 9 #[.val (.long p0), .second, .val (.int p1), .val (.int (p1 &&& (3 : Int32))), .unset, .unset, .unset] [(.long p0)]))
    refine Goes.step (fun _ k => XS.lstore X0.here hx rfl (hb hby at_9) rfl (l' := #[.val (.long p0), .second, .val (.int p1), .val (.int (p1 &&& (3 : Int32))), .val (.long p0), .second, .unset]) rfl k) ?_
    show Goes _ _ _ _ _ _ _ (s₁.setTop (mkF m 11 #[.val (.long p0), .second, .val (.int p1), .val (.int (p1 &&& (3 : Int32))), .val (.long p0), .second, .unset] []))
    refine Goes.step (fun _ k => XS.goto X0.here hx rfl (pc0 := 11) (pc' := 58) rfl (hb hby at_11) (by decide) (by decide) k) ?_
    show Goes _ _ _ _ _ _ _ (s₁.setTop (mkF m 58 #[.val (.long p0), .second, .val (.int p1), .val (.int (p1 &&& (3 : Int32))), .val (.long p0), .second, .unset] []))
    refine Goes.step (fun _ k => XS.lload X0.here hx rfl (hb hby at_58) rfl  k) ?_
    show Goes _ _ _ _ _ _ _ (s₁.setTop (mkF m 60 #[.val (.long p0), .second, .val (.int p1), .val (.int (p1 &&& (3 : Int32))), .val (.long p0), .second, .unset] [(.long p0)]))
    refine Goes.step (fun _ k => X0.ldc2Long hx hown (mvT hZ (hw _ (List.mem_of_getElem? (i := 2) rfl))) (g := (mkF m 60 #[.val (.long p0), .second, .val (.int p1), .val (.int (p1 &&& (3 : Int32))), .val (.long p0), .second, .unset] [(.long p0)])) rfl (hb hby at_60) _ k) ?_
    show Goes _ _ _ _ _ _ _ (s₁.setTop (mkF m 63 #[.val (.long p0), .second, .val (.int p1), .val (.int (p1 &&& (3 : Int32))), .val (.long p0), .second, .unset] [(.long (-62135629200 : Int64)), (.long p0)]))
    refine Goes.step (fun _ k => XS.lcmp X0.here hx rfl (hb hby at_63) rfl k) ?_
    show Goes _ _ _ _ _ _ _ (s₁.setTop (mkF m 64 #[.val (.long p0), .second, .val (.int p1), .val (.int (p1 &&& (3 : Int32))), .val (.long p0), .second, .unset] [(.int (lcmpW p0 (-62135629200 : Int64)))]))
    by_cases c64_2 : p0 < (-62135629200 : Int64)
    · refine Goes.step (fun _ k => XS.ifYes X0.here hx rfl (pc0 := 64) (pc' := 80) rfl (hb hby at_64) rfl ((if0 _ _).trans (tlt ((lw_lt _ _).mpr c64_2)).1) (by decide) (by decide) k) ?_
      show Goes _ _ _ _ _ _ _ (s₁.setTop (mkF m 80 #[.val (.long p0), .second, .val (.int p1), .val (.int (p1 &&& (3 : Int32))), .val (.long p0), .second, .unset] []))
      refine Goes.step (fun _ k => XS.iconst X0.here hx rfl (hb hby at_80) k) ?_
      show Goes _ _ _ _ _ _ _ (s₁.setTop (mkF m 81 #[.val (.long p0), .second, .val (.int p1), .val (.int (p1 &&& (3 : Int32))), .val (.long p0), .second, .unset] [(.int (0 : Int32))]))
      refine Goes.step (fun _ k => XS.istore X0.here hx rfl (hb hby at_81) rfl (l' := #[.val (.long p0), .second, .val (.int p1), .val (.int (p1 &&& (3 : Int32))), .val (.long p0), .second, .val (.int (0 : Int32))]) rfl k) ?_
      show Goes _ _ _ _ _ _ _ (s₁.setTop (mkF m 83 #[.val (.long p0), .second, .val (.int p1), .val (.int (p1 &&& (3 : Int32))), .val (.long p0), .second, .val (.int (0 : Int32))] []))
      refine Goes.step (fun _ k => XS.lload X0.here hx rfl (hb hby at_83) rfl  k) ?_
      show Goes _ _ _ _ _ _ _ (s₁.setTop (mkF m 85 #[.val (.long p0), .second, .val (.int p1), .val (.int (p1 &&& (3 : Int32))), .val (.long p0), .second, .val (.int (0 : Int32))] [(.long p0)]))
      obtain ⟨_, _, ⟨T3, L3, k3, n3⟩, -, X3, ⟨Lc3, hQ3, l3, y3, z3⟩, st3⟩ := Jvm.LawKit.callS X0 hx (y := (⟨"com/example/nehaba/nehaba/input/JapanTime", "writable", "(J)Z"⟩ : MethodName)) hown (mvT hZ (hw _ (List.mem_of_getElem? (i := 3) rfl))) (mvT hZ (hw _ (List.mem_of_getElem? (i := 4) rfl))) (mvT hZ (hw _ (List.mem_of_getElem? (i := 5) rfl))) (mvT hZ (hw _ (List.mem_of_getElem? (i := 6) rfl))) (by decide) (backOf (W := 0) (rm1 l Z a0 hw [] p0 h0 n0 Z0 S_FIRST S_LAST X00) hZ (hw _ (List.mem_of_getElem? (i := 6) rfl)) (hw _ (List.mem_of_getElem? (i := 5) rfl)) (by decide) (by decide)) (g := (mkF m 85 #[.val (.long p0), .second, .val (.int p1), .val (.int (p1 &&& (3 : Int32))), .val (.long p0), .second, .val (.int (0 : Int32))] [(.long p0)])) rfl (by rw [hml]; rfl) (argsL := [(.long p0)]) (rest := []) (lenOf pd_0 rfl) rfl (by show 2 * 0 + _ ≤ _; exact Nat.le_of_eq rfl) (hb hby at_85) (fun _ _ => ⟨rfl, e0, (by decide : 0 + 0 ≤ _), (by decide : 0 + 0 ≤ _)⟩)
      dsimp only [Pt.U, Pt.locs, Pt.cells, Pt.slots] at X3 l3 y3 z3 st3 hQ3
      subst l3 y3 z3
      obtain ⟨N3, eh3, hR3⟩ := hQ3
      have NA3 := Fr.app N0 N3
      rcases hR3 with ⟨rfl, u3_0_0⟩ | ⟨rfl, u3_1_0, u3_1_1⟩ | ⟨rfl, u3_2_0, u3_2_1⟩
      · refine Goes.step st3 ?_
        show Goes _ _ _ _ _ _ _ (T3.setTop (mkF m 88 #[.val (.long p0), .second, .val (.int p1), .val (.int (p1 &&& (3 : Int32))), .val (.long p0), .second, .val (.int (0 : Int32))] [(.int (0 : Int32))]))
        refine Goes.step (fun _ k => XS.iload X3.here hx rfl (hb hby at_88) rfl  k) ?_
        show Goes _ _ _ _ _ _ _ (T3.setTop (mkF m 90 #[.val (.long p0), .second, .val (.int p1), .val (.int (p1 &&& (3 : Int32))), .val (.long p0), .second, .val (.int (0 : Int32))] [(.int (0 : Int32)), (.int (0 : Int32))]))
        refine Goes.step (fun _ k => XS.icmpNo X3.here hx rfl (hb hby at_90) rfl (teq (by decide : (0 : Int32) = (0 : Int32))).2 k) ?_
        show Goes _ _ _ _ _ _ _ (T3.setTop (mkF m 93 #[.val (.long p0), .second, .val (.int p1), .val (.int (p1 &&& (3 : Int32))), .val (.long p0), .second, .val (.int (0 : Int32))] []))
        refine Goes.step (fun _ k => XS.iconst X3.here hx rfl (hb hby at_93) k) ?_
        show Goes _ _ _ _ _ _ _ (T3.setTop (mkF m 94 #[.val (.long p0), .second, .val (.int p1), .val (.int (p1 &&& (3 : Int32))), .val (.long p0), .second, .val (.int (0 : Int32))] [(.int (1 : Int32))]))
        refine Goes.step (fun _ k => XS.goto X3.here hx rfl (pc0 := 94) (pc' := 98) rfl (hb hby at_94) (by decide) (by decide) k) ?_
        show Goes _ _ _ _ _ _ _ (T3.setTop (mkF m 98 #[.val (.long p0), .second, .val (.int p1), .val (.int (p1 &&& (3 : Int32))), .val (.long p0), .second, .val (.int (0 : Int32))] [(.int (1 : Int32))]))
        exact Goes.ret X3 hx (BodyLoose.notSynchronized Bd) Bd.returns rfl (Or.inl ⟨rfl, by simp, _, rfl⟩) (hb hby at_98) (by show Q0 Z p0 p1 h0 n0 (some (.int (1 : Int32))) T3.heap _; rw [eh3]; exact ⟨rfl, NA3⟩) (by decide) (by decide)
      · exact absurd c64_2 u3_1_0
      · exact absurd c64_2 u3_2_0
    · refine Goes.step (fun _ k => XS.ifNo X0.here hx rfl (hb hby at_64) rfl ((if0 _ _).trans (flt (fun q => c64_2 ((lw_lt _ _).mp q))).1) k) ?_
      show Goes _ _ _ _ _ _ _ (s₁.setTop (mkF m 67 #[.val (.long p0), .second, .val (.int p1), .val (.int (p1 &&& (3 : Int32))), .val (.long p0), .second, .unset] []))
      refine Goes.step (fun _ k => XS.lload X0.here hx rfl (hb hby at_67) rfl  k) ?_
      show Goes _ _ _ _ _ _ _ (s₁.setTop (mkF m 69 #[.val (.long p0), .second, .val (.int p1), .val (.int (p1 &&& (3 : Int32))), .val (.long p0), .second, .unset] [(.long p0)]))
      refine Goes.step (fun _ k => X0.ldc2Long hx hown (mvT hZ (hw _ (List.mem_of_getElem? (i := 0) rfl))) (g := (mkF m 69 #[.val (.long p0), .second, .val (.int p1), .val (.int (p1 &&& (3 : Int32))), .val (.long p0), .second, .unset] [(.long p0)])) rfl (hb hby at_69) _ k) ?_
      show Goes _ _ _ _ _ _ _ (s₁.setTop (mkF m 72 #[.val (.long p0), .second, .val (.int p1), .val (.int (p1 &&& (3 : Int32))), .val (.long p0), .second, .unset] [(.long (253402268399 : Int64)), (.long p0)]))
      refine Goes.step (fun _ k => XS.lcmp X0.here hx rfl (hb hby at_72) rfl k) ?_
      show Goes _ _ _ _ _ _ _ (s₁.setTop (mkF m 73 #[.val (.long p0), .second, .val (.int p1), .val (.int (p1 &&& (3 : Int32))), .val (.long p0), .second, .unset] [(.int (lcmpW p0 (253402268399 : Int64)))]))
      by_cases c73_4 : (253402268399 : Int64) < p0
      · refine Goes.step (fun _ k => XS.ifYes X0.here hx rfl (pc0 := 73) (pc' := 80) rfl (hb hby at_73) rfl ((if0 _ _).trans (tlt ((lw_gt _ _).mpr c73_4)).2.2.1) (by decide) (by decide) k) ?_
        show Goes _ _ _ _ _ _ _ (s₁.setTop (mkF m 80 #[.val (.long p0), .second, .val (.int p1), .val (.int (p1 &&& (3 : Int32))), .val (.long p0), .second, .unset] []))
        refine Goes.step (fun _ k => XS.iconst X0.here hx rfl (hb hby at_80) k) ?_
        show Goes _ _ _ _ _ _ _ (s₁.setTop (mkF m 81 #[.val (.long p0), .second, .val (.int p1), .val (.int (p1 &&& (3 : Int32))), .val (.long p0), .second, .unset] [(.int (0 : Int32))]))
        refine Goes.step (fun _ k => XS.istore X0.here hx rfl (hb hby at_81) rfl (l' := #[.val (.long p0), .second, .val (.int p1), .val (.int (p1 &&& (3 : Int32))), .val (.long p0), .second, .val (.int (0 : Int32))]) rfl k) ?_
        show Goes _ _ _ _ _ _ _ (s₁.setTop (mkF m 83 #[.val (.long p0), .second, .val (.int p1), .val (.int (p1 &&& (3 : Int32))), .val (.long p0), .second, .val (.int (0 : Int32))] []))
        refine Goes.step (fun _ k => XS.lload X0.here hx rfl (hb hby at_83) rfl  k) ?_
        show Goes _ _ _ _ _ _ _ (s₁.setTop (mkF m 85 #[.val (.long p0), .second, .val (.int p1), .val (.int (p1 &&& (3 : Int32))), .val (.long p0), .second, .val (.int (0 : Int32))] [(.long p0)]))
        obtain ⟨_, _, ⟨T5, L5, k5, n5⟩, -, X5, ⟨Lc5, hQ5, l5, y5, z5⟩, st5⟩ := Jvm.LawKit.callS X0 hx (y := (⟨"com/example/nehaba/nehaba/input/JapanTime", "writable", "(J)Z"⟩ : MethodName)) hown (mvT hZ (hw _ (List.mem_of_getElem? (i := 3) rfl))) (mvT hZ (hw _ (List.mem_of_getElem? (i := 4) rfl))) (mvT hZ (hw _ (List.mem_of_getElem? (i := 5) rfl))) (mvT hZ (hw _ (List.mem_of_getElem? (i := 6) rfl))) (by decide) (backOf (W := 0) (rm1 l Z a0 hw [] p0 h0 n0 Z0 S_FIRST S_LAST X00) hZ (hw _ (List.mem_of_getElem? (i := 6) rfl)) (hw _ (List.mem_of_getElem? (i := 5) rfl)) (by decide) (by decide)) (g := (mkF m 85 #[.val (.long p0), .second, .val (.int p1), .val (.int (p1 &&& (3 : Int32))), .val (.long p0), .second, .val (.int (0 : Int32))] [(.long p0)])) rfl (by rw [hml]; rfl) (argsL := [(.long p0)]) (rest := []) (lenOf pd_0 rfl) rfl (by show 2 * 0 + _ ≤ _; exact Nat.le_of_eq rfl) (hb hby at_85) (fun _ _ => ⟨rfl, e0, (by decide : 0 + 0 ≤ _), (by decide : 0 + 0 ≤ _)⟩)
        dsimp only [Pt.U, Pt.locs, Pt.cells, Pt.slots] at X5 l5 y5 z5 st5 hQ5
        subst l5 y5 z5
        obtain ⟨N5, eh5, hR5⟩ := hQ5
        have NA5 := Fr.app N0 N5
        rcases hR5 with ⟨rfl, u5_0_0⟩ | ⟨rfl, u5_1_0, u5_1_1⟩ | ⟨rfl, u5_2_0, u5_2_1⟩
        · exact absurd u5_0_0 c64_2
        · refine Goes.step st5 ?_
          show Goes _ _ _ _ _ _ _ (T5.setTop (mkF m 88 #[.val (.long p0), .second, .val (.int p1), .val (.int (p1 &&& (3 : Int32))), .val (.long p0), .second, .val (.int (0 : Int32))] [(.int (0 : Int32))]))
          refine Goes.step (fun _ k => XS.iload X5.here hx rfl (hb hby at_88) rfl  k) ?_
          show Goes _ _ _ _ _ _ _ (T5.setTop (mkF m 90 #[.val (.long p0), .second, .val (.int p1), .val (.int (p1 &&& (3 : Int32))), .val (.long p0), .second, .val (.int (0 : Int32))] [(.int (0 : Int32)), (.int (0 : Int32))]))
          refine Goes.step (fun _ k => XS.icmpNo X5.here hx rfl (hb hby at_90) rfl (teq (by decide : (0 : Int32) = (0 : Int32))).2 k) ?_
          show Goes _ _ _ _ _ _ _ (T5.setTop (mkF m 93 #[.val (.long p0), .second, .val (.int p1), .val (.int (p1 &&& (3 : Int32))), .val (.long p0), .second, .val (.int (0 : Int32))] []))
          refine Goes.step (fun _ k => XS.iconst X5.here hx rfl (hb hby at_93) k) ?_
          show Goes _ _ _ _ _ _ _ (T5.setTop (mkF m 94 #[.val (.long p0), .second, .val (.int p1), .val (.int (p1 &&& (3 : Int32))), .val (.long p0), .second, .val (.int (0 : Int32))] [(.int (1 : Int32))]))
          refine Goes.step (fun _ k => XS.goto X5.here hx rfl (pc0 := 94) (pc' := 98) rfl (hb hby at_94) (by decide) (by decide) k) ?_
          show Goes _ _ _ _ _ _ _ (T5.setTop (mkF m 98 #[.val (.long p0), .second, .val (.int p1), .val (.int (p1 &&& (3 : Int32))), .val (.long p0), .second, .val (.int (0 : Int32))] [(.int (1 : Int32))]))
          exact Goes.ret X5 hx (BodyLoose.notSynchronized Bd) Bd.returns rfl (Or.inl ⟨rfl, by simp, _, rfl⟩) (hb hby at_98) (by show Q0 Z p0 p1 h0 n0 (some (.int (1 : Int32))) T5.heap _; rw [eh5]; exact ⟨rfl, NA5⟩) (by decide) (by decide)
        · exact absurd c73_4 u5_2_1
      · refine Goes.step (fun _ k => XS.ifNo X0.here hx rfl (hb hby at_73) rfl ((if0 _ _).trans (flt (fun q => c73_4 ((lw_gt _ _).mp q))).2.2.1) k) ?_
        show Goes _ _ _ _ _ _ _ (s₁.setTop (mkF m 76 #[.val (.long p0), .second, .val (.int p1), .val (.int (p1 &&& (3 : Int32))), .val (.long p0), .second, .unset] []))
        refine Goes.step (fun _ k => XS.iconst X0.here hx rfl (hb hby at_76) k) ?_
        show Goes _ _ _ _ _ _ _ (s₁.setTop (mkF m 77 #[.val (.long p0), .second, .val (.int p1), .val (.int (p1 &&& (3 : Int32))), .val (.long p0), .second, .unset] [(.int (1 : Int32))]))
        refine Goes.step (fun _ k => XS.goto X0.here hx rfl (pc0 := 77) (pc' := 81) rfl (hb hby at_77) (by decide) (by decide) k) ?_
        show Goes _ _ _ _ _ _ _ (s₁.setTop (mkF m 81 #[.val (.long p0), .second, .val (.int p1), .val (.int (p1 &&& (3 : Int32))), .val (.long p0), .second, .unset] [(.int (1 : Int32))]))
        refine Goes.step (fun _ k => XS.istore X0.here hx rfl (hb hby at_81) rfl (l' := #[.val (.long p0), .second, .val (.int p1), .val (.int (p1 &&& (3 : Int32))), .val (.long p0), .second, .val (.int (1 : Int32))]) rfl k) ?_
        show Goes _ _ _ _ _ _ _ (s₁.setTop (mkF m 83 #[.val (.long p0), .second, .val (.int p1), .val (.int (p1 &&& (3 : Int32))), .val (.long p0), .second, .val (.int (1 : Int32))] []))
        refine Goes.step (fun _ k => XS.lload X0.here hx rfl (hb hby at_83) rfl  k) ?_
        show Goes _ _ _ _ _ _ _ (s₁.setTop (mkF m 85 #[.val (.long p0), .second, .val (.int p1), .val (.int (p1 &&& (3 : Int32))), .val (.long p0), .second, .val (.int (1 : Int32))] [(.long p0)]))
        obtain ⟨_, _, ⟨T6, L6, k6, n6⟩, -, X6, ⟨Lc6, hQ6, l6, y6, z6⟩, st6⟩ := Jvm.LawKit.callS X0 hx (y := (⟨"com/example/nehaba/nehaba/input/JapanTime", "writable", "(J)Z"⟩ : MethodName)) hown (mvT hZ (hw _ (List.mem_of_getElem? (i := 3) rfl))) (mvT hZ (hw _ (List.mem_of_getElem? (i := 4) rfl))) (mvT hZ (hw _ (List.mem_of_getElem? (i := 5) rfl))) (mvT hZ (hw _ (List.mem_of_getElem? (i := 6) rfl))) (by decide) (backOf (W := 0) (rm1 l Z a0 hw [] p0 h0 n0 Z0 S_FIRST S_LAST X00) hZ (hw _ (List.mem_of_getElem? (i := 6) rfl)) (hw _ (List.mem_of_getElem? (i := 5) rfl)) (by decide) (by decide)) (g := (mkF m 85 #[.val (.long p0), .second, .val (.int p1), .val (.int (p1 &&& (3 : Int32))), .val (.long p0), .second, .val (.int (1 : Int32))] [(.long p0)])) rfl (by rw [hml]; rfl) (argsL := [(.long p0)]) (rest := []) (lenOf pd_0 rfl) rfl (by show 2 * 0 + _ ≤ _; exact Nat.le_of_eq rfl) (hb hby at_85) (fun _ _ => ⟨rfl, e0, (by decide : 0 + 0 ≤ _), (by decide : 0 + 0 ≤ _)⟩)
        dsimp only [Pt.U, Pt.locs, Pt.cells, Pt.slots] at X6 l6 y6 z6 st6 hQ6
        subst l6 y6 z6
        obtain ⟨N6, eh6, hR6⟩ := hQ6
        have NA6 := Fr.app N0 N6
        rcases hR6 with ⟨rfl, u6_0_0⟩ | ⟨rfl, u6_1_0, u6_1_1⟩ | ⟨rfl, u6_2_0, u6_2_1⟩
        · exact absurd u6_0_0 c64_2
        · exact absurd u6_1_1 c73_4
        · refine Goes.step st6 ?_
          show Goes _ _ _ _ _ _ _ (T6.setTop (mkF m 88 #[.val (.long p0), .second, .val (.int p1), .val (.int (p1 &&& (3 : Int32))), .val (.long p0), .second, .val (.int (1 : Int32))] [(.int (1 : Int32))]))
          refine Goes.step (fun _ k => XS.iload X6.here hx rfl (hb hby at_88) rfl  k) ?_
          show Goes _ _ _ _ _ _ _ (T6.setTop (mkF m 90 #[.val (.long p0), .second, .val (.int p1), .val (.int (p1 &&& (3 : Int32))), .val (.long p0), .second, .val (.int (1 : Int32))] [(.int (1 : Int32)), (.int (1 : Int32))]))
          refine Goes.step (fun _ k => XS.icmpNo X6.here hx rfl (hb hby at_90) rfl (teq (by decide : (1 : Int32) = (1 : Int32))).2 k) ?_
          show Goes _ _ _ _ _ _ _ (T6.setTop (mkF m 93 #[.val (.long p0), .second, .val (.int p1), .val (.int (p1 &&& (3 : Int32))), .val (.long p0), .second, .val (.int (1 : Int32))] []))
          refine Goes.step (fun _ k => XS.iconst X6.here hx rfl (hb hby at_93) k) ?_
          show Goes _ _ _ _ _ _ _ (T6.setTop (mkF m 94 #[.val (.long p0), .second, .val (.int p1), .val (.int (p1 &&& (3 : Int32))), .val (.long p0), .second, .val (.int (1 : Int32))] [(.int (1 : Int32))]))
          refine Goes.step (fun _ k => XS.goto X6.here hx rfl (pc0 := 94) (pc' := 98) rfl (hb hby at_94) (by decide) (by decide) k) ?_
          show Goes _ _ _ _ _ _ _ (T6.setTop (mkF m 98 #[.val (.long p0), .second, .val (.int p1), .val (.int (p1 &&& (3 : Int32))), .val (.long p0), .second, .val (.int (1 : Int32))] [(.int (1 : Int32))]))
          exact Goes.ret X6 hx (BodyLoose.notSynchronized Bd) Bd.returns rfl (Or.inl ⟨rfl, by simp, _, rfl⟩) (hb hby at_98) (by show Q0 Z p0 p1 h0 n0 (some (.int (1 : Int32))) T6.heap _; rw [eh6]; exact ⟨rfl, NA6⟩) (by decide) (by decide)
  · refine Goes.step (fun _ k => XS.ifYes X0.here hx rfl (pc0 := 5) (pc' := 14) rfl (hb hby at_5) rfl ((if0 _ _).trans (feq c5_1).2) (by decide) (by decide) k) ?_
    show Goes _ _ _ _ _ _ _ (s₁.setTop (mkF m 14 #[.val (.long p0), .second, .val (.int p1), .val (.int (p1 &&& (3 : Int32))), .unset, .unset, .unset] []))
    refine Goes.step (fun _ k => XS.iloadN X0.here hx rfl (hb hby at_14) rfl  k) ?_
    show Goes _ _ _ _ _ _ _ (s₁.setTop (mkF m 15 #[.val (.long p0), .second, .val (.int p1), .val (.int (p1 &&& (3 : Int32))), .unset, .unset, .unset] [(.int (p1 &&& (3 : Int32)))]))
    refine Goes.step (fun _ k => XS.iconst X0.here hx rfl (hb hby at_15) k) ?_
    show Goes _ _ _ _ _ _ _ (s₁.setTop (mkF m 16 #[.val (.long p0), .second, .val (.int p1), .val (.int (p1 &&& (3 : Int32))), .unset, .unset, .unset] [(.int (1 : Int32)), (.int (p1 &&& (3 : Int32)))]))
    by_cases c16_7 : (p1 &&& (3 : Int32)) = (1 : Int32)
    · refine Goes.step (fun _ k => XS.icmpNo X0.here hx rfl (hb hby at_16) rfl (teq c16_7).2 k) ?_
      show Goes _ _ _ _ _ _ _ (s₁.setTop (mkF m 19 #[.val (.long p0), .second, .val (.int p1), .val (.int (p1 &&& (3 : Int32))), .unset, .unset, .unset] []))
      refine Goes.step (fun _ k => X0.ldc2Long hx hown (mvT hZ (hw _ (List.mem_of_getElem? (i := 2) rfl))) (g := (mkF m 19 #[.val (.long p0), .second, .val (.int p1), .val (.int (p1 &&& (3 : Int32))), .unset, .unset, .unset] [])) rfl (hb hby at_19) _ k) ?_
      show Goes _ _ _ _ _ _ _ (s₁.setTop (mkF m 22 #[.val (.long p0), .second, .val (.int p1), .val (.int (p1 &&& (3 : Int32))), .unset, .unset, .unset] [(.long (-62135629200 : Int64))]))
      refine Goes.step (fun _ k => XS.lloadN X0.here hx rfl (hb hby at_22) rfl  k) ?_
      show Goes _ _ _ _ _ _ _ (s₁.setTop (mkF m 23 #[.val (.long p0), .second, .val (.int p1), .val (.int (p1 &&& (3 : Int32))), .unset, .unset, .unset] [(.long p0), (.long (-62135629200 : Int64))]))
      refine Goes.step (fun _ k => X0.ldc2Long hx hown (mvT hZ (hw _ (List.mem_of_getElem? (i := 1) rfl))) (g := (mkF m 23 #[.val (.long p0), .second, .val (.int p1), .val (.int (p1 &&& (3 : Int32))), .unset, .unset, .unset] [(.long p0), (.long (-62135629200 : Int64))])) rfl (hb hby at_23) _ k) ?_
      show Goes _ _ _ _ _ _ _ (s₁.setTop (mkF m 26 #[.val (.long p0), .second, .val (.int p1), .val (.int (p1 &&& (3 : Int32))), .unset, .unset, .unset] [(.long (100000 : Int64)), (.long p0), (.long (-62135629200 : Int64))]))
      refine Goes.step (fun _ k => XS.lrem X0.here hx rfl (hb hby at_26) rfl (by decide) k) ?_
      show Goes _ _ _ _ _ _ _ (s₁.setTop (mkF m 27 #[.val (.long p0), .second, .val (.int p1), .val (.int (p1 &&& (3 : Int32))), .unset, .unset, .unset] [(.long (p0 - (p0 / (100000 : Int64)) * (100000 : Int64))), (.long (-62135629200 : Int64))]))
      refine Goes.step (fun _ k => XS.ladd X0.here hx rfl (hb hby at_27) rfl k) ?_
      show Goes _ _ _ _ _ _ _ (s₁.setTop (mkF m 28 #[.val (.long p0), .second, .val (.int p1), .val (.int (p1 &&& (3 : Int32))), .unset, .unset, .unset] [(.long ((-62135629200 : Int64) + (p0 - (p0 / (100000 : Int64)) * (100000 : Int64))))]))
      refine Goes.step (fun _ k => XS.lstore X0.here hx rfl (hb hby at_28) rfl (l' := #[.val (.long p0), .second, .val (.int p1), .val (.int (p1 &&& (3 : Int32))), .val (.long ((-62135629200 : Int64) + (p0 - (p0 / (100000 : Int64)) * (100000 : Int64)))), .second, .unset]) rfl k) ?_
      show Goes _ _ _ _ _ _ _ (s₁.setTop (mkF m 30 #[.val (.long p0), .second, .val (.int p1), .val (.int (p1 &&& (3 : Int32))), .val (.long ((-62135629200 : Int64) + (p0 - (p0 / (100000 : Int64)) * (100000 : Int64)))), .second, .unset] []))
      refine Goes.step (fun _ k => XS.goto X0.here hx rfl (pc0 := 30) (pc' := 58) rfl (hb hby at_30) (by decide) (by decide) k) ?_
      show Goes _ _ _ _ _ _ _ (s₁.setTop (mkF m 58 #[.val (.long p0), .second, .val (.int p1), .val (.int (p1 &&& (3 : Int32))), .val (.long ((-62135629200 : Int64) + (p0 - (p0 / (100000 : Int64)) * (100000 : Int64)))), .second, .unset] []))
      refine Goes.step (fun _ k => XS.lload X0.here hx rfl (hb hby at_58) rfl  k) ?_
      show Goes _ _ _ _ _ _ _ (s₁.setTop (mkF m 60 #[.val (.long p0), .second, .val (.int p1), .val (.int (p1 &&& (3 : Int32))), .val (.long ((-62135629200 : Int64) + (p0 - (p0 / (100000 : Int64)) * (100000 : Int64)))), .second, .unset] [(.long ((-62135629200 : Int64) + (p0 - (p0 / (100000 : Int64)) * (100000 : Int64))))]))
      refine Goes.step (fun _ k => X0.ldc2Long hx hown (mvT hZ (hw _ (List.mem_of_getElem? (i := 2) rfl))) (g := (mkF m 60 #[.val (.long p0), .second, .val (.int p1), .val (.int (p1 &&& (3 : Int32))), .val (.long ((-62135629200 : Int64) + (p0 - (p0 / (100000 : Int64)) * (100000 : Int64)))), .second, .unset] [(.long ((-62135629200 : Int64) + (p0 - (p0 / (100000 : Int64)) * (100000 : Int64))))])) rfl (hb hby at_60) _ k) ?_
      show Goes _ _ _ _ _ _ _ (s₁.setTop (mkF m 63 #[.val (.long p0), .second, .val (.int p1), .val (.int (p1 &&& (3 : Int32))), .val (.long ((-62135629200 : Int64) + (p0 - (p0 / (100000 : Int64)) * (100000 : Int64)))), .second, .unset] [(.long (-62135629200 : Int64)), (.long ((-62135629200 : Int64) + (p0 - (p0 / (100000 : Int64)) * (100000 : Int64))))]))
      refine Goes.step (fun _ k => XS.lcmp X0.here hx rfl (hb hby at_63) rfl k) ?_
      show Goes _ _ _ _ _ _ _ (s₁.setTop (mkF m 64 #[.val (.long p0), .second, .val (.int p1), .val (.int (p1 &&& (3 : Int32))), .val (.long ((-62135629200 : Int64) + (p0 - (p0 / (100000 : Int64)) * (100000 : Int64)))), .second, .unset] [(.int (lcmpW ((-62135629200 : Int64) + (p0 - (p0 / (100000 : Int64)) * (100000 : Int64))) (-62135629200 : Int64)))]))
      by_cases c64_8 : ((-62135629200 : Int64) + (p0 - (p0 / (100000 : Int64)) * (100000 : Int64))) < (-62135629200 : Int64)
      · refine Goes.step (fun _ k => XS.ifYes X0.here hx rfl (pc0 := 64) (pc' := 80) rfl (hb hby at_64) rfl ((if0 _ _).trans (tlt ((lw_lt _ _).mpr c64_8)).1) (by decide) (by decide) k) ?_
        show Goes _ _ _ _ _ _ _ (s₁.setTop (mkF m 80 #[.val (.long p0), .second, .val (.int p1), .val (.int (p1 &&& (3 : Int32))), .val (.long ((-62135629200 : Int64) + (p0 - (p0 / (100000 : Int64)) * (100000 : Int64)))), .second, .unset] []))
        refine Goes.step (fun _ k => XS.iconst X0.here hx rfl (hb hby at_80) k) ?_
        show Goes _ _ _ _ _ _ _ (s₁.setTop (mkF m 81 #[.val (.long p0), .second, .val (.int p1), .val (.int (p1 &&& (3 : Int32))), .val (.long ((-62135629200 : Int64) + (p0 - (p0 / (100000 : Int64)) * (100000 : Int64)))), .second, .unset] [(.int (0 : Int32))]))
        refine Goes.step (fun _ k => XS.istore X0.here hx rfl (hb hby at_81) rfl (l' := #[.val (.long p0), .second, .val (.int p1), .val (.int (p1 &&& (3 : Int32))), .val (.long ((-62135629200 : Int64) + (p0 - (p0 / (100000 : Int64)) * (100000 : Int64)))), .second, .val (.int (0 : Int32))]) rfl k) ?_
        show Goes _ _ _ _ _ _ _ (s₁.setTop (mkF m 83 #[.val (.long p0), .second, .val (.int p1), .val (.int (p1 &&& (3 : Int32))), .val (.long ((-62135629200 : Int64) + (p0 - (p0 / (100000 : Int64)) * (100000 : Int64)))), .second, .val (.int (0 : Int32))] []))
        refine Goes.step (fun _ k => XS.lload X0.here hx rfl (hb hby at_83) rfl  k) ?_
        show Goes _ _ _ _ _ _ _ (s₁.setTop (mkF m 85 #[.val (.long p0), .second, .val (.int p1), .val (.int (p1 &&& (3 : Int32))), .val (.long ((-62135629200 : Int64) + (p0 - (p0 / (100000 : Int64)) * (100000 : Int64)))), .second, .val (.int (0 : Int32))] [(.long ((-62135629200 : Int64) + (p0 - (p0 / (100000 : Int64)) * (100000 : Int64))))]))
        obtain ⟨_, _, ⟨T9, L9, k9, n9⟩, -, X9, ⟨Lc9, hQ9, l9, y9, z9⟩, st9⟩ := Jvm.LawKit.callS X0 hx (y := (⟨"com/example/nehaba/nehaba/input/JapanTime", "writable", "(J)Z"⟩ : MethodName)) hown (mvT hZ (hw _ (List.mem_of_getElem? (i := 3) rfl))) (mvT hZ (hw _ (List.mem_of_getElem? (i := 4) rfl))) (mvT hZ (hw _ (List.mem_of_getElem? (i := 5) rfl))) (mvT hZ (hw _ (List.mem_of_getElem? (i := 6) rfl))) (by decide) (backOf (W := 0) (rm1 l Z a0 hw [] ((-62135629200 : Int64) + (p0 - (p0 / (100000 : Int64)) * (100000 : Int64))) h0 n0 Z0 S_FIRST S_LAST X00) hZ (hw _ (List.mem_of_getElem? (i := 6) rfl)) (hw _ (List.mem_of_getElem? (i := 5) rfl)) (by decide) (by decide)) (g := (mkF m 85 #[.val (.long p0), .second, .val (.int p1), .val (.int (p1 &&& (3 : Int32))), .val (.long ((-62135629200 : Int64) + (p0 - (p0 / (100000 : Int64)) * (100000 : Int64)))), .second, .val (.int (0 : Int32))] [(.long ((-62135629200 : Int64) + (p0 - (p0 / (100000 : Int64)) * (100000 : Int64))))])) rfl (by rw [hml]; rfl) (argsL := [(.long ((-62135629200 : Int64) + (p0 - (p0 / (100000 : Int64)) * (100000 : Int64))))]) (rest := []) (lenOf pd_0 rfl) rfl (by show 2 * 0 + _ ≤ _; exact Nat.le_of_eq rfl) (hb hby at_85) (fun _ _ => ⟨rfl, e0, (by decide : 0 + 0 ≤ _), (by decide : 0 + 0 ≤ _)⟩)
        dsimp only [Pt.U, Pt.locs, Pt.cells, Pt.slots] at X9 l9 y9 z9 st9 hQ9
        subst l9 y9 z9
        obtain ⟨N9, eh9, hR9⟩ := hQ9
        have NA9 := Fr.app N0 N9
        rcases hR9 with ⟨rfl, u9_0_0⟩ | ⟨rfl, u9_1_0, u9_1_1⟩ | ⟨rfl, u9_2_0, u9_2_1⟩
        · refine Goes.step st9 ?_
          show Goes _ _ _ _ _ _ _ (T9.setTop (mkF m 88 #[.val (.long p0), .second, .val (.int p1), .val (.int (p1 &&& (3 : Int32))), .val (.long ((-62135629200 : Int64) + (p0 - (p0 / (100000 : Int64)) * (100000 : Int64)))), .second, .val (.int (0 : Int32))] [(.int (0 : Int32))]))
          refine Goes.step (fun _ k => XS.iload X9.here hx rfl (hb hby at_88) rfl  k) ?_
          show Goes _ _ _ _ _ _ _ (T9.setTop (mkF m 90 #[.val (.long p0), .second, .val (.int p1), .val (.int (p1 &&& (3 : Int32))), .val (.long ((-62135629200 : Int64) + (p0 - (p0 / (100000 : Int64)) * (100000 : Int64)))), .second, .val (.int (0 : Int32))] [(.int (0 : Int32)), (.int (0 : Int32))]))
          refine Goes.step (fun _ k => XS.icmpNo X9.here hx rfl (hb hby at_90) rfl (teq (by decide : (0 : Int32) = (0 : Int32))).2 k) ?_
          show Goes _ _ _ _ _ _ _ (T9.setTop (mkF m 93 #[.val (.long p0), .second, .val (.int p1), .val (.int (p1 &&& (3 : Int32))), .val (.long ((-62135629200 : Int64) + (p0 - (p0 / (100000 : Int64)) * (100000 : Int64)))), .second, .val (.int (0 : Int32))] []))
          refine Goes.step (fun _ k => XS.iconst X9.here hx rfl (hb hby at_93) k) ?_
          show Goes _ _ _ _ _ _ _ (T9.setTop (mkF m 94 #[.val (.long p0), .second, .val (.int p1), .val (.int (p1 &&& (3 : Int32))), .val (.long ((-62135629200 : Int64) + (p0 - (p0 / (100000 : Int64)) * (100000 : Int64)))), .second, .val (.int (0 : Int32))] [(.int (1 : Int32))]))
          refine Goes.step (fun _ k => XS.goto X9.here hx rfl (pc0 := 94) (pc' := 98) rfl (hb hby at_94) (by decide) (by decide) k) ?_
          show Goes _ _ _ _ _ _ _ (T9.setTop (mkF m 98 #[.val (.long p0), .second, .val (.int p1), .val (.int (p1 &&& (3 : Int32))), .val (.long ((-62135629200 : Int64) + (p0 - (p0 / (100000 : Int64)) * (100000 : Int64)))), .second, .val (.int (0 : Int32))] [(.int (1 : Int32))]))
          exact Goes.ret X9 hx (BodyLoose.notSynchronized Bd) Bd.returns rfl (Or.inl ⟨rfl, by simp, _, rfl⟩) (hb hby at_98) (by show Q0 Z p0 p1 h0 n0 (some (.int (1 : Int32))) T9.heap _; rw [eh9]; exact ⟨rfl, NA9⟩) (by decide) (by decide)
        · exact absurd c64_8 u9_1_0
        · exact absurd c64_8 u9_2_0
      · refine Goes.step (fun _ k => XS.ifNo X0.here hx rfl (hb hby at_64) rfl ((if0 _ _).trans (flt (fun q => c64_8 ((lw_lt _ _).mp q))).1) k) ?_
        show Goes _ _ _ _ _ _ _ (s₁.setTop (mkF m 67 #[.val (.long p0), .second, .val (.int p1), .val (.int (p1 &&& (3 : Int32))), .val (.long ((-62135629200 : Int64) + (p0 - (p0 / (100000 : Int64)) * (100000 : Int64)))), .second, .unset] []))
        refine Goes.step (fun _ k => XS.lload X0.here hx rfl (hb hby at_67) rfl  k) ?_
        show Goes _ _ _ _ _ _ _ (s₁.setTop (mkF m 69 #[.val (.long p0), .second, .val (.int p1), .val (.int (p1 &&& (3 : Int32))), .val (.long ((-62135629200 : Int64) + (p0 - (p0 / (100000 : Int64)) * (100000 : Int64)))), .second, .unset] [(.long ((-62135629200 : Int64) + (p0 - (p0 / (100000 : Int64)) * (100000 : Int64))))]))
        refine Goes.step (fun _ k => X0.ldc2Long hx hown (mvT hZ (hw _ (List.mem_of_getElem? (i := 0) rfl))) (g := (mkF m 69 #[.val (.long p0), .second, .val (.int p1), .val (.int (p1 &&& (3 : Int32))), .val (.long ((-62135629200 : Int64) + (p0 - (p0 / (100000 : Int64)) * (100000 : Int64)))), .second, .unset] [(.long ((-62135629200 : Int64) + (p0 - (p0 / (100000 : Int64)) * (100000 : Int64))))])) rfl (hb hby at_69) _ k) ?_
        show Goes _ _ _ _ _ _ _ (s₁.setTop (mkF m 72 #[.val (.long p0), .second, .val (.int p1), .val (.int (p1 &&& (3 : Int32))), .val (.long ((-62135629200 : Int64) + (p0 - (p0 / (100000 : Int64)) * (100000 : Int64)))), .second, .unset] [(.long (253402268399 : Int64)), (.long ((-62135629200 : Int64) + (p0 - (p0 / (100000 : Int64)) * (100000 : Int64))))]))
        refine Goes.step (fun _ k => XS.lcmp X0.here hx rfl (hb hby at_72) rfl k) ?_
        show Goes _ _ _ _ _ _ _ (s₁.setTop (mkF m 73 #[.val (.long p0), .second, .val (.int p1), .val (.int (p1 &&& (3 : Int32))), .val (.long ((-62135629200 : Int64) + (p0 - (p0 / (100000 : Int64)) * (100000 : Int64)))), .second, .unset] [(.int (lcmpW ((-62135629200 : Int64) + (p0 - (p0 / (100000 : Int64)) * (100000 : Int64))) (253402268399 : Int64)))]))
        by_cases c73_10 : (253402268399 : Int64) < ((-62135629200 : Int64) + (p0 - (p0 / (100000 : Int64)) * (100000 : Int64)))
        · refine Goes.step (fun _ k => XS.ifYes X0.here hx rfl (pc0 := 73) (pc' := 80) rfl (hb hby at_73) rfl ((if0 _ _).trans (tlt ((lw_gt _ _).mpr c73_10)).2.2.1) (by decide) (by decide) k) ?_
          show Goes _ _ _ _ _ _ _ (s₁.setTop (mkF m 80 #[.val (.long p0), .second, .val (.int p1), .val (.int (p1 &&& (3 : Int32))), .val (.long ((-62135629200 : Int64) + (p0 - (p0 / (100000 : Int64)) * (100000 : Int64)))), .second, .unset] []))
          refine Goes.step (fun _ k => XS.iconst X0.here hx rfl (hb hby at_80) k) ?_
          show Goes _ _ _ _ _ _ _ (s₁.setTop (mkF m 81 #[.val (.long p0), .second, .val (.int p1), .val (.int (p1 &&& (3 : Int32))), .val (.long ((-62135629200 : Int64) + (p0 - (p0 / (100000 : Int64)) * (100000 : Int64)))), .second, .unset] [(.int (0 : Int32))]))
          refine Goes.step (fun _ k => XS.istore X0.here hx rfl (hb hby at_81) rfl (l' := #[.val (.long p0), .second, .val (.int p1), .val (.int (p1 &&& (3 : Int32))), .val (.long ((-62135629200 : Int64) + (p0 - (p0 / (100000 : Int64)) * (100000 : Int64)))), .second, .val (.int (0 : Int32))]) rfl k) ?_
          show Goes _ _ _ _ _ _ _ (s₁.setTop (mkF m 83 #[.val (.long p0), .second, .val (.int p1), .val (.int (p1 &&& (3 : Int32))), .val (.long ((-62135629200 : Int64) + (p0 - (p0 / (100000 : Int64)) * (100000 : Int64)))), .second, .val (.int (0 : Int32))] []))
          refine Goes.step (fun _ k => XS.lload X0.here hx rfl (hb hby at_83) rfl  k) ?_
          show Goes _ _ _ _ _ _ _ (s₁.setTop (mkF m 85 #[.val (.long p0), .second, .val (.int p1), .val (.int (p1 &&& (3 : Int32))), .val (.long ((-62135629200 : Int64) + (p0 - (p0 / (100000 : Int64)) * (100000 : Int64)))), .second, .val (.int (0 : Int32))] [(.long ((-62135629200 : Int64) + (p0 - (p0 / (100000 : Int64)) * (100000 : Int64))))]))
          obtain ⟨_, _, ⟨T11, L11, k11, n11⟩, -, X11, ⟨Lc11, hQ11, l11, y11, z11⟩, st11⟩ := Jvm.LawKit.callS X0 hx (y := (⟨"com/example/nehaba/nehaba/input/JapanTime", "writable", "(J)Z"⟩ : MethodName)) hown (mvT hZ (hw _ (List.mem_of_getElem? (i := 3) rfl))) (mvT hZ (hw _ (List.mem_of_getElem? (i := 4) rfl))) (mvT hZ (hw _ (List.mem_of_getElem? (i := 5) rfl))) (mvT hZ (hw _ (List.mem_of_getElem? (i := 6) rfl))) (by decide) (backOf (W := 0) (rm1 l Z a0 hw [] ((-62135629200 : Int64) + (p0 - (p0 / (100000 : Int64)) * (100000 : Int64))) h0 n0 Z0 S_FIRST S_LAST X00) hZ (hw _ (List.mem_of_getElem? (i := 6) rfl)) (hw _ (List.mem_of_getElem? (i := 5) rfl)) (by decide) (by decide)) (g := (mkF m 85 #[.val (.long p0), .second, .val (.int p1), .val (.int (p1 &&& (3 : Int32))), .val (.long ((-62135629200 : Int64) + (p0 - (p0 / (100000 : Int64)) * (100000 : Int64)))), .second, .val (.int (0 : Int32))] [(.long ((-62135629200 : Int64) + (p0 - (p0 / (100000 : Int64)) * (100000 : Int64))))])) rfl (by rw [hml]; rfl) (argsL := [(.long ((-62135629200 : Int64) + (p0 - (p0 / (100000 : Int64)) * (100000 : Int64))))]) (rest := []) (lenOf pd_0 rfl) rfl (by show 2 * 0 + _ ≤ _; exact Nat.le_of_eq rfl) (hb hby at_85) (fun _ _ => ⟨rfl, e0, (by decide : 0 + 0 ≤ _), (by decide : 0 + 0 ≤ _)⟩)
          dsimp only [Pt.U, Pt.locs, Pt.cells, Pt.slots] at X11 l11 y11 z11 st11 hQ11
          subst l11 y11 z11
          obtain ⟨N11, eh11, hR11⟩ := hQ11
          have NA11 := Fr.app N0 N11
          rcases hR11 with ⟨rfl, u11_0_0⟩ | ⟨rfl, u11_1_0, u11_1_1⟩ | ⟨rfl, u11_2_0, u11_2_1⟩
          · exact absurd u11_0_0 c64_8
          · refine Goes.step st11 ?_
            show Goes _ _ _ _ _ _ _ (T11.setTop (mkF m 88 #[.val (.long p0), .second, .val (.int p1), .val (.int (p1 &&& (3 : Int32))), .val (.long ((-62135629200 : Int64) + (p0 - (p0 / (100000 : Int64)) * (100000 : Int64)))), .second, .val (.int (0 : Int32))] [(.int (0 : Int32))]))
            refine Goes.step (fun _ k => XS.iload X11.here hx rfl (hb hby at_88) rfl  k) ?_
            show Goes _ _ _ _ _ _ _ (T11.setTop (mkF m 90 #[.val (.long p0), .second, .val (.int p1), .val (.int (p1 &&& (3 : Int32))), .val (.long ((-62135629200 : Int64) + (p0 - (p0 / (100000 : Int64)) * (100000 : Int64)))), .second, .val (.int (0 : Int32))] [(.int (0 : Int32)), (.int (0 : Int32))]))
            refine Goes.step (fun _ k => XS.icmpNo X11.here hx rfl (hb hby at_90) rfl (teq (by decide : (0 : Int32) = (0 : Int32))).2 k) ?_
            show Goes _ _ _ _ _ _ _ (T11.setTop (mkF m 93 #[.val (.long p0), .second, .val (.int p1), .val (.int (p1 &&& (3 : Int32))), .val (.long ((-62135629200 : Int64) + (p0 - (p0 / (100000 : Int64)) * (100000 : Int64)))), .second, .val (.int (0 : Int32))] []))
            refine Goes.step (fun _ k => XS.iconst X11.here hx rfl (hb hby at_93) k) ?_
            show Goes _ _ _ _ _ _ _ (T11.setTop (mkF m 94 #[.val (.long p0), .second, .val (.int p1), .val (.int (p1 &&& (3 : Int32))), .val (.long ((-62135629200 : Int64) + (p0 - (p0 / (100000 : Int64)) * (100000 : Int64)))), .second, .val (.int (0 : Int32))] [(.int (1 : Int32))]))
            refine Goes.step (fun _ k => XS.goto X11.here hx rfl (pc0 := 94) (pc' := 98) rfl (hb hby at_94) (by decide) (by decide) k) ?_
            show Goes _ _ _ _ _ _ _ (T11.setTop (mkF m 98 #[.val (.long p0), .second, .val (.int p1), .val (.int (p1 &&& (3 : Int32))), .val (.long ((-62135629200 : Int64) + (p0 - (p0 / (100000 : Int64)) * (100000 : Int64)))), .second, .val (.int (0 : Int32))] [(.int (1 : Int32))]))
            exact Goes.ret X11 hx (BodyLoose.notSynchronized Bd) Bd.returns rfl (Or.inl ⟨rfl, by simp, _, rfl⟩) (hb hby at_98) (by show Q0 Z p0 p1 h0 n0 (some (.int (1 : Int32))) T11.heap _; rw [eh11]; exact ⟨rfl, NA11⟩) (by decide) (by decide)
          · exact absurd c73_10 u11_2_1
        · refine Goes.step (fun _ k => XS.ifNo X0.here hx rfl (hb hby at_73) rfl ((if0 _ _).trans (flt (fun q => c73_10 ((lw_gt _ _).mp q))).2.2.1) k) ?_
          show Goes _ _ _ _ _ _ _ (s₁.setTop (mkF m 76 #[.val (.long p0), .second, .val (.int p1), .val (.int (p1 &&& (3 : Int32))), .val (.long ((-62135629200 : Int64) + (p0 - (p0 / (100000 : Int64)) * (100000 : Int64)))), .second, .unset] []))
          refine Goes.step (fun _ k => XS.iconst X0.here hx rfl (hb hby at_76) k) ?_
          show Goes _ _ _ _ _ _ _ (s₁.setTop (mkF m 77 #[.val (.long p0), .second, .val (.int p1), .val (.int (p1 &&& (3 : Int32))), .val (.long ((-62135629200 : Int64) + (p0 - (p0 / (100000 : Int64)) * (100000 : Int64)))), .second, .unset] [(.int (1 : Int32))]))
          refine Goes.step (fun _ k => XS.goto X0.here hx rfl (pc0 := 77) (pc' := 81) rfl (hb hby at_77) (by decide) (by decide) k) ?_
          show Goes _ _ _ _ _ _ _ (s₁.setTop (mkF m 81 #[.val (.long p0), .second, .val (.int p1), .val (.int (p1 &&& (3 : Int32))), .val (.long ((-62135629200 : Int64) + (p0 - (p0 / (100000 : Int64)) * (100000 : Int64)))), .second, .unset] [(.int (1 : Int32))]))
          refine Goes.step (fun _ k => XS.istore X0.here hx rfl (hb hby at_81) rfl (l' := #[.val (.long p0), .second, .val (.int p1), .val (.int (p1 &&& (3 : Int32))), .val (.long ((-62135629200 : Int64) + (p0 - (p0 / (100000 : Int64)) * (100000 : Int64)))), .second, .val (.int (1 : Int32))]) rfl k) ?_
          show Goes _ _ _ _ _ _ _ (s₁.setTop (mkF m 83 #[.val (.long p0), .second, .val (.int p1), .val (.int (p1 &&& (3 : Int32))), .val (.long ((-62135629200 : Int64) + (p0 - (p0 / (100000 : Int64)) * (100000 : Int64)))), .second, .val (.int (1 : Int32))] []))
          refine Goes.step (fun _ k => XS.lload X0.here hx rfl (hb hby at_83) rfl  k) ?_
          show Goes _ _ _ _ _ _ _ (s₁.setTop (mkF m 85 #[.val (.long p0), .second, .val (.int p1), .val (.int (p1 &&& (3 : Int32))), .val (.long ((-62135629200 : Int64) + (p0 - (p0 / (100000 : Int64)) * (100000 : Int64)))), .second, .val (.int (1 : Int32))] [(.long ((-62135629200 : Int64) + (p0 - (p0 / (100000 : Int64)) * (100000 : Int64))))]))
          obtain ⟨_, _, ⟨T12, L12, k12, n12⟩, -, X12, ⟨Lc12, hQ12, l12, y12, z12⟩, st12⟩ := Jvm.LawKit.callS X0 hx (y := (⟨"com/example/nehaba/nehaba/input/JapanTime", "writable", "(J)Z"⟩ : MethodName)) hown (mvT hZ (hw _ (List.mem_of_getElem? (i := 3) rfl))) (mvT hZ (hw _ (List.mem_of_getElem? (i := 4) rfl))) (mvT hZ (hw _ (List.mem_of_getElem? (i := 5) rfl))) (mvT hZ (hw _ (List.mem_of_getElem? (i := 6) rfl))) (by decide) (backOf (W := 0) (rm1 l Z a0 hw [] ((-62135629200 : Int64) + (p0 - (p0 / (100000 : Int64)) * (100000 : Int64))) h0 n0 Z0 S_FIRST S_LAST X00) hZ (hw _ (List.mem_of_getElem? (i := 6) rfl)) (hw _ (List.mem_of_getElem? (i := 5) rfl)) (by decide) (by decide)) (g := (mkF m 85 #[.val (.long p0), .second, .val (.int p1), .val (.int (p1 &&& (3 : Int32))), .val (.long ((-62135629200 : Int64) + (p0 - (p0 / (100000 : Int64)) * (100000 : Int64)))), .second, .val (.int (1 : Int32))] [(.long ((-62135629200 : Int64) + (p0 - (p0 / (100000 : Int64)) * (100000 : Int64))))])) rfl (by rw [hml]; rfl) (argsL := [(.long ((-62135629200 : Int64) + (p0 - (p0 / (100000 : Int64)) * (100000 : Int64))))]) (rest := []) (lenOf pd_0 rfl) rfl (by show 2 * 0 + _ ≤ _; exact Nat.le_of_eq rfl) (hb hby at_85) (fun _ _ => ⟨rfl, e0, (by decide : 0 + 0 ≤ _), (by decide : 0 + 0 ≤ _)⟩)
          dsimp only [Pt.U, Pt.locs, Pt.cells, Pt.slots] at X12 l12 y12 z12 st12 hQ12
          subst l12 y12 z12
          obtain ⟨N12, eh12, hR12⟩ := hQ12
          have NA12 := Fr.app N0 N12
          rcases hR12 with ⟨rfl, u12_0_0⟩ | ⟨rfl, u12_1_0, u12_1_1⟩ | ⟨rfl, u12_2_0, u12_2_1⟩
          · exact absurd u12_0_0 c64_8
          · exact absurd u12_1_1 c73_10
          · refine Goes.step st12 ?_
            show Goes _ _ _ _ _ _ _ (T12.setTop (mkF m 88 #[.val (.long p0), .second, .val (.int p1), .val (.int (p1 &&& (3 : Int32))), .val (.long ((-62135629200 : Int64) + (p0 - (p0 / (100000 : Int64)) * (100000 : Int64)))), .second, .val (.int (1 : Int32))] [(.int (1 : Int32))]))
            refine Goes.step (fun _ k => XS.iload X12.here hx rfl (hb hby at_88) rfl  k) ?_
            show Goes _ _ _ _ _ _ _ (T12.setTop (mkF m 90 #[.val (.long p0), .second, .val (.int p1), .val (.int (p1 &&& (3 : Int32))), .val (.long ((-62135629200 : Int64) + (p0 - (p0 / (100000 : Int64)) * (100000 : Int64)))), .second, .val (.int (1 : Int32))] [(.int (1 : Int32)), (.int (1 : Int32))]))
            refine Goes.step (fun _ k => XS.icmpNo X12.here hx rfl (hb hby at_90) rfl (teq (by decide : (1 : Int32) = (1 : Int32))).2 k) ?_
            show Goes _ _ _ _ _ _ _ (T12.setTop (mkF m 93 #[.val (.long p0), .second, .val (.int p1), .val (.int (p1 &&& (3 : Int32))), .val (.long ((-62135629200 : Int64) + (p0 - (p0 / (100000 : Int64)) * (100000 : Int64)))), .second, .val (.int (1 : Int32))] []))
            refine Goes.step (fun _ k => XS.iconst X12.here hx rfl (hb hby at_93) k) ?_
            show Goes _ _ _ _ _ _ _ (T12.setTop (mkF m 94 #[.val (.long p0), .second, .val (.int p1), .val (.int (p1 &&& (3 : Int32))), .val (.long ((-62135629200 : Int64) + (p0 - (p0 / (100000 : Int64)) * (100000 : Int64)))), .second, .val (.int (1 : Int32))] [(.int (1 : Int32))]))
            refine Goes.step (fun _ k => XS.goto X12.here hx rfl (pc0 := 94) (pc' := 98) rfl (hb hby at_94) (by decide) (by decide) k) ?_
            show Goes _ _ _ _ _ _ _ (T12.setTop (mkF m 98 #[.val (.long p0), .second, .val (.int p1), .val (.int (p1 &&& (3 : Int32))), .val (.long ((-62135629200 : Int64) + (p0 - (p0 / (100000 : Int64)) * (100000 : Int64)))), .second, .val (.int (1 : Int32))] [(.int (1 : Int32))]))
            exact Goes.ret X12 hx (BodyLoose.notSynchronized Bd) Bd.returns rfl (Or.inl ⟨rfl, by simp, _, rfl⟩) (hb hby at_98) (by show Q0 Z p0 p1 h0 n0 (some (.int (1 : Int32))) T12.heap _; rw [eh12]; exact ⟨rfl, NA12⟩) (by decide) (by decide)
    · refine Goes.step (fun _ k => XS.icmpYes X0.here hx rfl (pc0 := 16) (pc' := 33) rfl (hb hby at_16) rfl (feq c16_7).2 (by decide) (by decide) k) ?_
      show Goes _ _ _ _ _ _ _ (s₁.setTop (mkF m 33 #[.val (.long p0), .second, .val (.int p1), .val (.int (p1 &&& (3 : Int32))), .unset, .unset, .unset] []))
      refine Goes.step (fun _ k => XS.iloadN X0.here hx rfl (hb hby at_33) rfl  k) ?_
      show Goes _ _ _ _ _ _ _ (s₁.setTop (mkF m 34 #[.val (.long p0), .second, .val (.int p1), .val (.int (p1 &&& (3 : Int32))), .unset, .unset, .unset] [(.int (p1 &&& (3 : Int32)))]))
      refine Goes.step (fun _ k => XS.iconst X0.here hx rfl (hb hby at_34) k) ?_
      show Goes _ _ _ _ _ _ _ (s₁.setTop (mkF m 35 #[.val (.long p0), .second, .val (.int p1), .val (.int (p1 &&& (3 : Int32))), .unset, .unset, .unset] [(.int (2 : Int32)), (.int (p1 &&& (3 : Int32)))]))
      by_cases c35_13 : (p1 &&& (3 : Int32)) = (2 : Int32)
      · refine Goes.step (fun _ k => XS.icmpNo X0.here hx rfl (hb hby at_35) rfl (teq c35_13).2 k) ?_
        show Goes _ _ _ _ _ _ _ (s₁.setTop (mkF m 38 #[.val (.long p0), .second, .val (.int p1), .val (.int (p1 &&& (3 : Int32))), .unset, .unset, .unset] []))
        refine Goes.step (fun _ k => X0.ldc2Long hx hown (mvT hZ (hw _ (List.mem_of_getElem? (i := 0) rfl))) (g := (mkF m 38 #[.val (.long p0), .second, .val (.int p1), .val (.int (p1 &&& (3 : Int32))), .unset, .unset, .unset] [])) rfl (hb hby at_38) _ k) ?_
        show Goes _ _ _ _ _ _ _ (s₁.setTop (mkF m 41 #[.val (.long p0), .second, .val (.int p1), .val (.int (p1 &&& (3 : Int32))), .unset, .unset, .unset] [(.long (253402268399 : Int64))]))
        refine Goes.step (fun _ k => XS.lloadN X0.here hx rfl (hb hby at_41) rfl  k) ?_
        show Goes _ _ _ _ _ _ _ (s₁.setTop (mkF m 42 #[.val (.long p0), .second, .val (.int p1), .val (.int (p1 &&& (3 : Int32))), .unset, .unset, .unset] [(.long p0), (.long (253402268399 : Int64))]))
        refine Goes.step (fun _ k => X0.ldc2Long hx hown (mvT hZ (hw _ (List.mem_of_getElem? (i := 1) rfl))) (g := (mkF m 42 #[.val (.long p0), .second, .val (.int p1), .val (.int (p1 &&& (3 : Int32))), .unset, .unset, .unset] [(.long p0), (.long (253402268399 : Int64))])) rfl (hb hby at_42) _ k) ?_
        show Goes _ _ _ _ _ _ _ (s₁.setTop (mkF m 45 #[.val (.long p0), .second, .val (.int p1), .val (.int (p1 &&& (3 : Int32))), .unset, .unset, .unset] [(.long (100000 : Int64)), (.long p0), (.long (253402268399 : Int64))]))
        refine Goes.step (fun _ k => XS.lrem X0.here hx rfl (hb hby at_45) rfl (by decide) k) ?_
        show Goes _ _ _ _ _ _ _ (s₁.setTop (mkF m 46 #[.val (.long p0), .second, .val (.int p1), .val (.int (p1 &&& (3 : Int32))), .unset, .unset, .unset] [(.long (p0 - (p0 / (100000 : Int64)) * (100000 : Int64))), (.long (253402268399 : Int64))]))
        refine Goes.step (fun _ k => XS.ladd X0.here hx rfl (hb hby at_46) rfl k) ?_
        show Goes _ _ _ _ _ _ _ (s₁.setTop (mkF m 47 #[.val (.long p0), .second, .val (.int p1), .val (.int (p1 &&& (3 : Int32))), .unset, .unset, .unset] [(.long ((253402268399 : Int64) + (p0 - (p0 / (100000 : Int64)) * (100000 : Int64))))]))
        refine Goes.step (fun _ k => XS.lstore X0.here hx rfl (hb hby at_47) rfl (l' := #[.val (.long p0), .second, .val (.int p1), .val (.int (p1 &&& (3 : Int32))), .val (.long ((253402268399 : Int64) + (p0 - (p0 / (100000 : Int64)) * (100000 : Int64)))), .second, .unset]) rfl k) ?_
        show Goes _ _ _ _ _ _ _ (s₁.setTop (mkF m 49 #[.val (.long p0), .second, .val (.int p1), .val (.int (p1 &&& (3 : Int32))), .val (.long ((253402268399 : Int64) + (p0 - (p0 / (100000 : Int64)) * (100000 : Int64)))), .second, .unset] []))
        refine Goes.step (fun _ k => XS.goto X0.here hx rfl (pc0 := 49) (pc' := 58) rfl (hb hby at_49) (by decide) (by decide) k) ?_
        show Goes _ _ _ _ _ _ _ (s₁.setTop (mkF m 58 #[.val (.long p0), .second, .val (.int p1), .val (.int (p1 &&& (3 : Int32))), .val (.long ((253402268399 : Int64) + (p0 - (p0 / (100000 : Int64)) * (100000 : Int64)))), .second, .unset] []))
        refine Goes.step (fun _ k => XS.lload X0.here hx rfl (hb hby at_58) rfl  k) ?_
        show Goes _ _ _ _ _ _ _ (s₁.setTop (mkF m 60 #[.val (.long p0), .second, .val (.int p1), .val (.int (p1 &&& (3 : Int32))), .val (.long ((253402268399 : Int64) + (p0 - (p0 / (100000 : Int64)) * (100000 : Int64)))), .second, .unset] [(.long ((253402268399 : Int64) + (p0 - (p0 / (100000 : Int64)) * (100000 : Int64))))]))
        refine Goes.step (fun _ k => X0.ldc2Long hx hown (mvT hZ (hw _ (List.mem_of_getElem? (i := 2) rfl))) (g := (mkF m 60 #[.val (.long p0), .second, .val (.int p1), .val (.int (p1 &&& (3 : Int32))), .val (.long ((253402268399 : Int64) + (p0 - (p0 / (100000 : Int64)) * (100000 : Int64)))), .second, .unset] [(.long ((253402268399 : Int64) + (p0 - (p0 / (100000 : Int64)) * (100000 : Int64))))])) rfl (hb hby at_60) _ k) ?_
        show Goes _ _ _ _ _ _ _ (s₁.setTop (mkF m 63 #[.val (.long p0), .second, .val (.int p1), .val (.int (p1 &&& (3 : Int32))), .val (.long ((253402268399 : Int64) + (p0 - (p0 / (100000 : Int64)) * (100000 : Int64)))), .second, .unset] [(.long (-62135629200 : Int64)), (.long ((253402268399 : Int64) + (p0 - (p0 / (100000 : Int64)) * (100000 : Int64))))]))
        refine Goes.step (fun _ k => XS.lcmp X0.here hx rfl (hb hby at_63) rfl k) ?_
        show Goes _ _ _ _ _ _ _ (s₁.setTop (mkF m 64 #[.val (.long p0), .second, .val (.int p1), .val (.int (p1 &&& (3 : Int32))), .val (.long ((253402268399 : Int64) + (p0 - (p0 / (100000 : Int64)) * (100000 : Int64)))), .second, .unset] [(.int (lcmpW ((253402268399 : Int64) + (p0 - (p0 / (100000 : Int64)) * (100000 : Int64))) (-62135629200 : Int64)))]))
        by_cases c64_14 : ((253402268399 : Int64) + (p0 - (p0 / (100000 : Int64)) * (100000 : Int64))) < (-62135629200 : Int64)
        · refine Goes.step (fun _ k => XS.ifYes X0.here hx rfl (pc0 := 64) (pc' := 80) rfl (hb hby at_64) rfl ((if0 _ _).trans (tlt ((lw_lt _ _).mpr c64_14)).1) (by decide) (by decide) k) ?_
          show Goes _ _ _ _ _ _ _ (s₁.setTop (mkF m 80 #[.val (.long p0), .second, .val (.int p1), .val (.int (p1 &&& (3 : Int32))), .val (.long ((253402268399 : Int64) + (p0 - (p0 / (100000 : Int64)) * (100000 : Int64)))), .second, .unset] []))
          refine Goes.step (fun _ k => XS.iconst X0.here hx rfl (hb hby at_80) k) ?_
          show Goes _ _ _ _ _ _ _ (s₁.setTop (mkF m 81 #[.val (.long p0), .second, .val (.int p1), .val (.int (p1 &&& (3 : Int32))), .val (.long ((253402268399 : Int64) + (p0 - (p0 / (100000 : Int64)) * (100000 : Int64)))), .second, .unset] [(.int (0 : Int32))]))
          refine Goes.step (fun _ k => XS.istore X0.here hx rfl (hb hby at_81) rfl (l' := #[.val (.long p0), .second, .val (.int p1), .val (.int (p1 &&& (3 : Int32))), .val (.long ((253402268399 : Int64) + (p0 - (p0 / (100000 : Int64)) * (100000 : Int64)))), .second, .val (.int (0 : Int32))]) rfl k) ?_
          show Goes _ _ _ _ _ _ _ (s₁.setTop (mkF m 83 #[.val (.long p0), .second, .val (.int p1), .val (.int (p1 &&& (3 : Int32))), .val (.long ((253402268399 : Int64) + (p0 - (p0 / (100000 : Int64)) * (100000 : Int64)))), .second, .val (.int (0 : Int32))] []))
          refine Goes.step (fun _ k => XS.lload X0.here hx rfl (hb hby at_83) rfl  k) ?_
          show Goes _ _ _ _ _ _ _ (s₁.setTop (mkF m 85 #[.val (.long p0), .second, .val (.int p1), .val (.int (p1 &&& (3 : Int32))), .val (.long ((253402268399 : Int64) + (p0 - (p0 / (100000 : Int64)) * (100000 : Int64)))), .second, .val (.int (0 : Int32))] [(.long ((253402268399 : Int64) + (p0 - (p0 / (100000 : Int64)) * (100000 : Int64))))]))
          obtain ⟨_, _, ⟨T15, L15, k15, n15⟩, -, X15, ⟨Lc15, hQ15, l15, y15, z15⟩, st15⟩ := Jvm.LawKit.callS X0 hx (y := (⟨"com/example/nehaba/nehaba/input/JapanTime", "writable", "(J)Z"⟩ : MethodName)) hown (mvT hZ (hw _ (List.mem_of_getElem? (i := 3) rfl))) (mvT hZ (hw _ (List.mem_of_getElem? (i := 4) rfl))) (mvT hZ (hw _ (List.mem_of_getElem? (i := 5) rfl))) (mvT hZ (hw _ (List.mem_of_getElem? (i := 6) rfl))) (by decide) (backOf (W := 0) (rm1 l Z a0 hw [] ((253402268399 : Int64) + (p0 - (p0 / (100000 : Int64)) * (100000 : Int64))) h0 n0 Z0 S_FIRST S_LAST X00) hZ (hw _ (List.mem_of_getElem? (i := 6) rfl)) (hw _ (List.mem_of_getElem? (i := 5) rfl)) (by decide) (by decide)) (g := (mkF m 85 #[.val (.long p0), .second, .val (.int p1), .val (.int (p1 &&& (3 : Int32))), .val (.long ((253402268399 : Int64) + (p0 - (p0 / (100000 : Int64)) * (100000 : Int64)))), .second, .val (.int (0 : Int32))] [(.long ((253402268399 : Int64) + (p0 - (p0 / (100000 : Int64)) * (100000 : Int64))))])) rfl (by rw [hml]; rfl) (argsL := [(.long ((253402268399 : Int64) + (p0 - (p0 / (100000 : Int64)) * (100000 : Int64))))]) (rest := []) (lenOf pd_0 rfl) rfl (by show 2 * 0 + _ ≤ _; exact Nat.le_of_eq rfl) (hb hby at_85) (fun _ _ => ⟨rfl, e0, (by decide : 0 + 0 ≤ _), (by decide : 0 + 0 ≤ _)⟩)
          dsimp only [Pt.U, Pt.locs, Pt.cells, Pt.slots] at X15 l15 y15 z15 st15 hQ15
          subst l15 y15 z15
          obtain ⟨N15, eh15, hR15⟩ := hQ15
          have NA15 := Fr.app N0 N15
          rcases hR15 with ⟨rfl, u15_0_0⟩ | ⟨rfl, u15_1_0, u15_1_1⟩ | ⟨rfl, u15_2_0, u15_2_1⟩
          · refine Goes.step st15 ?_
            show Goes _ _ _ _ _ _ _ (T15.setTop (mkF m 88 #[.val (.long p0), .second, .val (.int p1), .val (.int (p1 &&& (3 : Int32))), .val (.long ((253402268399 : Int64) + (p0 - (p0 / (100000 : Int64)) * (100000 : Int64)))), .second, .val (.int (0 : Int32))] [(.int (0 : Int32))]))
            refine Goes.step (fun _ k => XS.iload X15.here hx rfl (hb hby at_88) rfl  k) ?_
            show Goes _ _ _ _ _ _ _ (T15.setTop (mkF m 90 #[.val (.long p0), .second, .val (.int p1), .val (.int (p1 &&& (3 : Int32))), .val (.long ((253402268399 : Int64) + (p0 - (p0 / (100000 : Int64)) * (100000 : Int64)))), .second, .val (.int (0 : Int32))] [(.int (0 : Int32)), (.int (0 : Int32))]))
            refine Goes.step (fun _ k => XS.icmpNo X15.here hx rfl (hb hby at_90) rfl (teq (by decide : (0 : Int32) = (0 : Int32))).2 k) ?_
            show Goes _ _ _ _ _ _ _ (T15.setTop (mkF m 93 #[.val (.long p0), .second, .val (.int p1), .val (.int (p1 &&& (3 : Int32))), .val (.long ((253402268399 : Int64) + (p0 - (p0 / (100000 : Int64)) * (100000 : Int64)))), .second, .val (.int (0 : Int32))] []))
            refine Goes.step (fun _ k => XS.iconst X15.here hx rfl (hb hby at_93) k) ?_
            show Goes _ _ _ _ _ _ _ (T15.setTop (mkF m 94 #[.val (.long p0), .second, .val (.int p1), .val (.int (p1 &&& (3 : Int32))), .val (.long ((253402268399 : Int64) + (p0 - (p0 / (100000 : Int64)) * (100000 : Int64)))), .second, .val (.int (0 : Int32))] [(.int (1 : Int32))]))
            refine Goes.step (fun _ k => XS.goto X15.here hx rfl (pc0 := 94) (pc' := 98) rfl (hb hby at_94) (by decide) (by decide) k) ?_
            show Goes _ _ _ _ _ _ _ (T15.setTop (mkF m 98 #[.val (.long p0), .second, .val (.int p1), .val (.int (p1 &&& (3 : Int32))), .val (.long ((253402268399 : Int64) + (p0 - (p0 / (100000 : Int64)) * (100000 : Int64)))), .second, .val (.int (0 : Int32))] [(.int (1 : Int32))]))
            exact Goes.ret X15 hx (BodyLoose.notSynchronized Bd) Bd.returns rfl (Or.inl ⟨rfl, by simp, _, rfl⟩) (hb hby at_98) (by show Q0 Z p0 p1 h0 n0 (some (.int (1 : Int32))) T15.heap _; rw [eh15]; exact ⟨rfl, NA15⟩) (by decide) (by decide)
          · exact absurd c64_14 u15_1_0
          · exact absurd c64_14 u15_2_0
        · refine Goes.step (fun _ k => XS.ifNo X0.here hx rfl (hb hby at_64) rfl ((if0 _ _).trans (flt (fun q => c64_14 ((lw_lt _ _).mp q))).1) k) ?_
          show Goes _ _ _ _ _ _ _ (s₁.setTop (mkF m 67 #[.val (.long p0), .second, .val (.int p1), .val (.int (p1 &&& (3 : Int32))), .val (.long ((253402268399 : Int64) + (p0 - (p0 / (100000 : Int64)) * (100000 : Int64)))), .second, .unset] []))
          refine Goes.step (fun _ k => XS.lload X0.here hx rfl (hb hby at_67) rfl  k) ?_
          show Goes _ _ _ _ _ _ _ (s₁.setTop (mkF m 69 #[.val (.long p0), .second, .val (.int p1), .val (.int (p1 &&& (3 : Int32))), .val (.long ((253402268399 : Int64) + (p0 - (p0 / (100000 : Int64)) * (100000 : Int64)))), .second, .unset] [(.long ((253402268399 : Int64) + (p0 - (p0 / (100000 : Int64)) * (100000 : Int64))))]))
          refine Goes.step (fun _ k => X0.ldc2Long hx hown (mvT hZ (hw _ (List.mem_of_getElem? (i := 0) rfl))) (g := (mkF m 69 #[.val (.long p0), .second, .val (.int p1), .val (.int (p1 &&& (3 : Int32))), .val (.long ((253402268399 : Int64) + (p0 - (p0 / (100000 : Int64)) * (100000 : Int64)))), .second, .unset] [(.long ((253402268399 : Int64) + (p0 - (p0 / (100000 : Int64)) * (100000 : Int64))))])) rfl (hb hby at_69) _ k) ?_
          show Goes _ _ _ _ _ _ _ (s₁.setTop (mkF m 72 #[.val (.long p0), .second, .val (.int p1), .val (.int (p1 &&& (3 : Int32))), .val (.long ((253402268399 : Int64) + (p0 - (p0 / (100000 : Int64)) * (100000 : Int64)))), .second, .unset] [(.long (253402268399 : Int64)), (.long ((253402268399 : Int64) + (p0 - (p0 / (100000 : Int64)) * (100000 : Int64))))]))
          refine Goes.step (fun _ k => XS.lcmp X0.here hx rfl (hb hby at_72) rfl k) ?_
          show Goes _ _ _ _ _ _ _ (s₁.setTop (mkF m 73 #[.val (.long p0), .second, .val (.int p1), .val (.int (p1 &&& (3 : Int32))), .val (.long ((253402268399 : Int64) + (p0 - (p0 / (100000 : Int64)) * (100000 : Int64)))), .second, .unset] [(.int (lcmpW ((253402268399 : Int64) + (p0 - (p0 / (100000 : Int64)) * (100000 : Int64))) (253402268399 : Int64)))]))
          by_cases c73_16 : (253402268399 : Int64) < ((253402268399 : Int64) + (p0 - (p0 / (100000 : Int64)) * (100000 : Int64)))
          · refine Goes.step (fun _ k => XS.ifYes X0.here hx rfl (pc0 := 73) (pc' := 80) rfl (hb hby at_73) rfl ((if0 _ _).trans (tlt ((lw_gt _ _).mpr c73_16)).2.2.1) (by decide) (by decide) k) ?_
            show Goes _ _ _ _ _ _ _ (s₁.setTop (mkF m 80 #[.val (.long p0), .second, .val (.int p1), .val (.int (p1 &&& (3 : Int32))), .val (.long ((253402268399 : Int64) + (p0 - (p0 / (100000 : Int64)) * (100000 : Int64)))), .second, .unset] []))
            refine Goes.step (fun _ k => XS.iconst X0.here hx rfl (hb hby at_80) k) ?_
            show Goes _ _ _ _ _ _ _ (s₁.setTop (mkF m 81 #[.val (.long p0), .second, .val (.int p1), .val (.int (p1 &&& (3 : Int32))), .val (.long ((253402268399 : Int64) + (p0 - (p0 / (100000 : Int64)) * (100000 : Int64)))), .second, .unset] [(.int (0 : Int32))]))
            refine Goes.step (fun _ k => XS.istore X0.here hx rfl (hb hby at_81) rfl (l' := #[.val (.long p0), .second, .val (.int p1), .val (.int (p1 &&& (3 : Int32))), .val (.long ((253402268399 : Int64) + (p0 - (p0 / (100000 : Int64)) * (100000 : Int64)))), .second, .val (.int (0 : Int32))]) rfl k) ?_
            show Goes _ _ _ _ _ _ _ (s₁.setTop (mkF m 83 #[.val (.long p0), .second, .val (.int p1), .val (.int (p1 &&& (3 : Int32))), .val (.long ((253402268399 : Int64) + (p0 - (p0 / (100000 : Int64)) * (100000 : Int64)))), .second, .val (.int (0 : Int32))] []))
            refine Goes.step (fun _ k => XS.lload X0.here hx rfl (hb hby at_83) rfl  k) ?_
            show Goes _ _ _ _ _ _ _ (s₁.setTop (mkF m 85 #[.val (.long p0), .second, .val (.int p1), .val (.int (p1 &&& (3 : Int32))), .val (.long ((253402268399 : Int64) + (p0 - (p0 / (100000 : Int64)) * (100000 : Int64)))), .second, .val (.int (0 : Int32))] [(.long ((253402268399 : Int64) + (p0 - (p0 / (100000 : Int64)) * (100000 : Int64))))]))
            obtain ⟨_, _, ⟨T17, L17, k17, n17⟩, -, X17, ⟨Lc17, hQ17, l17, y17, z17⟩, st17⟩ := Jvm.LawKit.callS X0 hx (y := (⟨"com/example/nehaba/nehaba/input/JapanTime", "writable", "(J)Z"⟩ : MethodName)) hown (mvT hZ (hw _ (List.mem_of_getElem? (i := 3) rfl))) (mvT hZ (hw _ (List.mem_of_getElem? (i := 4) rfl))) (mvT hZ (hw _ (List.mem_of_getElem? (i := 5) rfl))) (mvT hZ (hw _ (List.mem_of_getElem? (i := 6) rfl))) (by decide) (backOf (W := 0) (rm1 l Z a0 hw [] ((253402268399 : Int64) + (p0 - (p0 / (100000 : Int64)) * (100000 : Int64))) h0 n0 Z0 S_FIRST S_LAST X00) hZ (hw _ (List.mem_of_getElem? (i := 6) rfl)) (hw _ (List.mem_of_getElem? (i := 5) rfl)) (by decide) (by decide)) (g := (mkF m 85 #[.val (.long p0), .second, .val (.int p1), .val (.int (p1 &&& (3 : Int32))), .val (.long ((253402268399 : Int64) + (p0 - (p0 / (100000 : Int64)) * (100000 : Int64)))), .second, .val (.int (0 : Int32))] [(.long ((253402268399 : Int64) + (p0 - (p0 / (100000 : Int64)) * (100000 : Int64))))])) rfl (by rw [hml]; rfl) (argsL := [(.long ((253402268399 : Int64) + (p0 - (p0 / (100000 : Int64)) * (100000 : Int64))))]) (rest := []) (lenOf pd_0 rfl) rfl (by show 2 * 0 + _ ≤ _; exact Nat.le_of_eq rfl) (hb hby at_85) (fun _ _ => ⟨rfl, e0, (by decide : 0 + 0 ≤ _), (by decide : 0 + 0 ≤ _)⟩)
            dsimp only [Pt.U, Pt.locs, Pt.cells, Pt.slots] at X17 l17 y17 z17 st17 hQ17
            subst l17 y17 z17
            obtain ⟨N17, eh17, hR17⟩ := hQ17
            have NA17 := Fr.app N0 N17
            rcases hR17 with ⟨rfl, u17_0_0⟩ | ⟨rfl, u17_1_0, u17_1_1⟩ | ⟨rfl, u17_2_0, u17_2_1⟩
            · exact absurd u17_0_0 c64_14
            · refine Goes.step st17 ?_
              show Goes _ _ _ _ _ _ _ (T17.setTop (mkF m 88 #[.val (.long p0), .second, .val (.int p1), .val (.int (p1 &&& (3 : Int32))), .val (.long ((253402268399 : Int64) + (p0 - (p0 / (100000 : Int64)) * (100000 : Int64)))), .second, .val (.int (0 : Int32))] [(.int (0 : Int32))]))
              refine Goes.step (fun _ k => XS.iload X17.here hx rfl (hb hby at_88) rfl  k) ?_
              show Goes _ _ _ _ _ _ _ (T17.setTop (mkF m 90 #[.val (.long p0), .second, .val (.int p1), .val (.int (p1 &&& (3 : Int32))), .val (.long ((253402268399 : Int64) + (p0 - (p0 / (100000 : Int64)) * (100000 : Int64)))), .second, .val (.int (0 : Int32))] [(.int (0 : Int32)), (.int (0 : Int32))]))
              refine Goes.step (fun _ k => XS.icmpNo X17.here hx rfl (hb hby at_90) rfl (teq (by decide : (0 : Int32) = (0 : Int32))).2 k) ?_
              show Goes _ _ _ _ _ _ _ (T17.setTop (mkF m 93 #[.val (.long p0), .second, .val (.int p1), .val (.int (p1 &&& (3 : Int32))), .val (.long ((253402268399 : Int64) + (p0 - (p0 / (100000 : Int64)) * (100000 : Int64)))), .second, .val (.int (0 : Int32))] []))
              refine Goes.step (fun _ k => XS.iconst X17.here hx rfl (hb hby at_93) k) ?_
              show Goes _ _ _ _ _ _ _ (T17.setTop (mkF m 94 #[.val (.long p0), .second, .val (.int p1), .val (.int (p1 &&& (3 : Int32))), .val (.long ((253402268399 : Int64) + (p0 - (p0 / (100000 : Int64)) * (100000 : Int64)))), .second, .val (.int (0 : Int32))] [(.int (1 : Int32))]))
              refine Goes.step (fun _ k => XS.goto X17.here hx rfl (pc0 := 94) (pc' := 98) rfl (hb hby at_94) (by decide) (by decide) k) ?_
              show Goes _ _ _ _ _ _ _ (T17.setTop (mkF m 98 #[.val (.long p0), .second, .val (.int p1), .val (.int (p1 &&& (3 : Int32))), .val (.long ((253402268399 : Int64) + (p0 - (p0 / (100000 : Int64)) * (100000 : Int64)))), .second, .val (.int (0 : Int32))] [(.int (1 : Int32))]))
              exact Goes.ret X17 hx (BodyLoose.notSynchronized Bd) Bd.returns rfl (Or.inl ⟨rfl, by simp, _, rfl⟩) (hb hby at_98) (by show Q0 Z p0 p1 h0 n0 (some (.int (1 : Int32))) T17.heap _; rw [eh17]; exact ⟨rfl, NA17⟩) (by decide) (by decide)
            · exact absurd c73_16 u17_2_1
          · refine Goes.step (fun _ k => XS.ifNo X0.here hx rfl (hb hby at_73) rfl ((if0 _ _).trans (flt (fun q => c73_16 ((lw_gt _ _).mp q))).2.2.1) k) ?_
            show Goes _ _ _ _ _ _ _ (s₁.setTop (mkF m 76 #[.val (.long p0), .second, .val (.int p1), .val (.int (p1 &&& (3 : Int32))), .val (.long ((253402268399 : Int64) + (p0 - (p0 / (100000 : Int64)) * (100000 : Int64)))), .second, .unset] []))
            refine Goes.step (fun _ k => XS.iconst X0.here hx rfl (hb hby at_76) k) ?_
            show Goes _ _ _ _ _ _ _ (s₁.setTop (mkF m 77 #[.val (.long p0), .second, .val (.int p1), .val (.int (p1 &&& (3 : Int32))), .val (.long ((253402268399 : Int64) + (p0 - (p0 / (100000 : Int64)) * (100000 : Int64)))), .second, .unset] [(.int (1 : Int32))]))
            refine Goes.step (fun _ k => XS.goto X0.here hx rfl (pc0 := 77) (pc' := 81) rfl (hb hby at_77) (by decide) (by decide) k) ?_
            show Goes _ _ _ _ _ _ _ (s₁.setTop (mkF m 81 #[.val (.long p0), .second, .val (.int p1), .val (.int (p1 &&& (3 : Int32))), .val (.long ((253402268399 : Int64) + (p0 - (p0 / (100000 : Int64)) * (100000 : Int64)))), .second, .unset] [(.int (1 : Int32))]))
            refine Goes.step (fun _ k => XS.istore X0.here hx rfl (hb hby at_81) rfl (l' := #[.val (.long p0), .second, .val (.int p1), .val (.int (p1 &&& (3 : Int32))), .val (.long ((253402268399 : Int64) + (p0 - (p0 / (100000 : Int64)) * (100000 : Int64)))), .second, .val (.int (1 : Int32))]) rfl k) ?_
            show Goes _ _ _ _ _ _ _ (s₁.setTop (mkF m 83 #[.val (.long p0), .second, .val (.int p1), .val (.int (p1 &&& (3 : Int32))), .val (.long ((253402268399 : Int64) + (p0 - (p0 / (100000 : Int64)) * (100000 : Int64)))), .second, .val (.int (1 : Int32))] []))
            refine Goes.step (fun _ k => XS.lload X0.here hx rfl (hb hby at_83) rfl  k) ?_
            show Goes _ _ _ _ _ _ _ (s₁.setTop (mkF m 85 #[.val (.long p0), .second, .val (.int p1), .val (.int (p1 &&& (3 : Int32))), .val (.long ((253402268399 : Int64) + (p0 - (p0 / (100000 : Int64)) * (100000 : Int64)))), .second, .val (.int (1 : Int32))] [(.long ((253402268399 : Int64) + (p0 - (p0 / (100000 : Int64)) * (100000 : Int64))))]))
            obtain ⟨_, _, ⟨T18, L18, k18, n18⟩, -, X18, ⟨Lc18, hQ18, l18, y18, z18⟩, st18⟩ := Jvm.LawKit.callS X0 hx (y := (⟨"com/example/nehaba/nehaba/input/JapanTime", "writable", "(J)Z"⟩ : MethodName)) hown (mvT hZ (hw _ (List.mem_of_getElem? (i := 3) rfl))) (mvT hZ (hw _ (List.mem_of_getElem? (i := 4) rfl))) (mvT hZ (hw _ (List.mem_of_getElem? (i := 5) rfl))) (mvT hZ (hw _ (List.mem_of_getElem? (i := 6) rfl))) (by decide) (backOf (W := 0) (rm1 l Z a0 hw [] ((253402268399 : Int64) + (p0 - (p0 / (100000 : Int64)) * (100000 : Int64))) h0 n0 Z0 S_FIRST S_LAST X00) hZ (hw _ (List.mem_of_getElem? (i := 6) rfl)) (hw _ (List.mem_of_getElem? (i := 5) rfl)) (by decide) (by decide)) (g := (mkF m 85 #[.val (.long p0), .second, .val (.int p1), .val (.int (p1 &&& (3 : Int32))), .val (.long ((253402268399 : Int64) + (p0 - (p0 / (100000 : Int64)) * (100000 : Int64)))), .second, .val (.int (1 : Int32))] [(.long ((253402268399 : Int64) + (p0 - (p0 / (100000 : Int64)) * (100000 : Int64))))])) rfl (by rw [hml]; rfl) (argsL := [(.long ((253402268399 : Int64) + (p0 - (p0 / (100000 : Int64)) * (100000 : Int64))))]) (rest := []) (lenOf pd_0 rfl) rfl (by show 2 * 0 + _ ≤ _; exact Nat.le_of_eq rfl) (hb hby at_85) (fun _ _ => ⟨rfl, e0, (by decide : 0 + 0 ≤ _), (by decide : 0 + 0 ≤ _)⟩)
            dsimp only [Pt.U, Pt.locs, Pt.cells, Pt.slots] at X18 l18 y18 z18 st18 hQ18
            subst l18 y18 z18
            obtain ⟨N18, eh18, hR18⟩ := hQ18
            have NA18 := Fr.app N0 N18
            rcases hR18 with ⟨rfl, u18_0_0⟩ | ⟨rfl, u18_1_0, u18_1_1⟩ | ⟨rfl, u18_2_0, u18_2_1⟩
            · exact absurd u18_0_0 c64_14
            · exact absurd u18_1_1 c73_16
            · refine Goes.step st18 ?_
              show Goes _ _ _ _ _ _ _ (T18.setTop (mkF m 88 #[.val (.long p0), .second, .val (.int p1), .val (.int (p1 &&& (3 : Int32))), .val (.long ((253402268399 : Int64) + (p0 - (p0 / (100000 : Int64)) * (100000 : Int64)))), .second, .val (.int (1 : Int32))] [(.int (1 : Int32))]))
              refine Goes.step (fun _ k => XS.iload X18.here hx rfl (hb hby at_88) rfl  k) ?_
              show Goes _ _ _ _ _ _ _ (T18.setTop (mkF m 90 #[.val (.long p0), .second, .val (.int p1), .val (.int (p1 &&& (3 : Int32))), .val (.long ((253402268399 : Int64) + (p0 - (p0 / (100000 : Int64)) * (100000 : Int64)))), .second, .val (.int (1 : Int32))] [(.int (1 : Int32)), (.int (1 : Int32))]))
              refine Goes.step (fun _ k => XS.icmpNo X18.here hx rfl (hb hby at_90) rfl (teq (by decide : (1 : Int32) = (1 : Int32))).2 k) ?_
              show Goes _ _ _ _ _ _ _ (T18.setTop (mkF m 93 #[.val (.long p0), .second, .val (.int p1), .val (.int (p1 &&& (3 : Int32))), .val (.long ((253402268399 : Int64) + (p0 - (p0 / (100000 : Int64)) * (100000 : Int64)))), .second, .val (.int (1 : Int32))] []))
              refine Goes.step (fun _ k => XS.iconst X18.here hx rfl (hb hby at_93) k) ?_
              show Goes _ _ _ _ _ _ _ (T18.setTop (mkF m 94 #[.val (.long p0), .second, .val (.int p1), .val (.int (p1 &&& (3 : Int32))), .val (.long ((253402268399 : Int64) + (p0 - (p0 / (100000 : Int64)) * (100000 : Int64)))), .second, .val (.int (1 : Int32))] [(.int (1 : Int32))]))
              refine Goes.step (fun _ k => XS.goto X18.here hx rfl (pc0 := 94) (pc' := 98) rfl (hb hby at_94) (by decide) (by decide) k) ?_
              show Goes _ _ _ _ _ _ _ (T18.setTop (mkF m 98 #[.val (.long p0), .second, .val (.int p1), .val (.int (p1 &&& (3 : Int32))), .val (.long ((253402268399 : Int64) + (p0 - (p0 / (100000 : Int64)) * (100000 : Int64)))), .second, .val (.int (1 : Int32))] [(.int (1 : Int32))]))
              exact Goes.ret X18 hx (BodyLoose.notSynchronized Bd) Bd.returns rfl (Or.inl ⟨rfl, by simp, _, rfl⟩) (hb hby at_98) (by show Q0 Z p0 p1 h0 n0 (some (.int (1 : Int32))) T18.heap _; rw [eh18]; exact ⟨rfl, NA18⟩) (by decide) (by decide)
      · refine Goes.step (fun _ k => XS.icmpYes X0.here hx rfl (pc0 := 35) (pc' := 52) rfl (hb hby at_35) rfl (feq c35_13).2 (by decide) (by decide) k) ?_
        show Goes _ _ _ _ _ _ _ (s₁.setTop (mkF m 52 #[.val (.long p0), .second, .val (.int p1), .val (.int (p1 &&& (3 : Int32))), .unset, .unset, .unset] []))
        refine Goes.step (fun _ k => XS.lloadN X0.here hx rfl (hb hby at_52) rfl  k) ?_
        show Goes _ _ _ _ _ _ _ (s₁.setTop (mkF m 53 #[.val (.long p0), .second, .val (.int p1), .val (.int (p1 &&& (3 : Int32))), .unset, .unset, .unset] [(.long p0)]))
        refine Goes.step (fun _ k => XS.bipush X0.here hx rfl (hb hby at_53) k) ?_
        show Goes _ _ _ _ _ _ _ (s₁.setTop (mkF m 55 #[.val (.long p0), .second, .val (.int p1), .val (.int (p1 &&& (3 : Int32))), .unset, .unset, .unset] [(.int (24 : Int32)), (.long p0)]))
        refine Goes.step (fun _ k => XS.lshr X0.here hx rfl (hb hby at_55) rfl k) ?_
        show Goes _ _ _ _ _ _ _ (s₁.setTop (mkF m 56 #[.val (.long p0), .second, .val (.int p1), .val (.int (p1 &&& (3 : Int32))), .unset, .unset, .unset] [(.long (p0 >>> ((24 : Int32) &&& 0x3f).toInt64))]))
        refine Goes.step (fun _ k => XS.lstore X0.here hx rfl (hb hby at_56) rfl (l' := #[.val (.long p0), .second, .val (.int p1), .val (.int (p1 &&& (3 : Int32))), .val (.long (p0 >>> ((24 : Int32) &&& 0x3f).toInt64)), .second, .unset]) rfl k) ?_
        show Goes _ _ _ _ _ _ _ (s₁.setTop (mkF m 58 #[.val (.long p0), .second, .val (.int p1), .val (.int (p1 &&& (3 : Int32))), .val (.long (p0 >>> ((24 : Int32) &&& 0x3f).toInt64)), .second, .unset] []))
        refine Goes.step (fun _ k => XS.lload X0.here hx rfl (hb hby at_58) rfl  k) ?_
        show Goes _ _ _ _ _ _ _ (s₁.setTop (mkF m 60 #[.val (.long p0), .second, .val (.int p1), .val (.int (p1 &&& (3 : Int32))), .val (.long (p0 >>> ((24 : Int32) &&& 0x3f).toInt64)), .second, .unset] [(.long (p0 >>> ((24 : Int32) &&& 0x3f).toInt64))]))
        refine Goes.step (fun _ k => X0.ldc2Long hx hown (mvT hZ (hw _ (List.mem_of_getElem? (i := 2) rfl))) (g := (mkF m 60 #[.val (.long p0), .second, .val (.int p1), .val (.int (p1 &&& (3 : Int32))), .val (.long (p0 >>> ((24 : Int32) &&& 0x3f).toInt64)), .second, .unset] [(.long (p0 >>> ((24 : Int32) &&& 0x3f).toInt64))])) rfl (hb hby at_60) _ k) ?_
        show Goes _ _ _ _ _ _ _ (s₁.setTop (mkF m 63 #[.val (.long p0), .second, .val (.int p1), .val (.int (p1 &&& (3 : Int32))), .val (.long (p0 >>> ((24 : Int32) &&& 0x3f).toInt64)), .second, .unset] [(.long (-62135629200 : Int64)), (.long (p0 >>> ((24 : Int32) &&& 0x3f).toInt64))]))
        refine Goes.step (fun _ k => XS.lcmp X0.here hx rfl (hb hby at_63) rfl k) ?_
        show Goes _ _ _ _ _ _ _ (s₁.setTop (mkF m 64 #[.val (.long p0), .second, .val (.int p1), .val (.int (p1 &&& (3 : Int32))), .val (.long (p0 >>> ((24 : Int32) &&& 0x3f).toInt64)), .second, .unset] [(.int (lcmpW (p0 >>> ((24 : Int32) &&& 0x3f).toInt64) (-62135629200 : Int64)))]))
        by_cases c64_19 : (p0 >>> ((24 : Int32) &&& 0x3f).toInt64) < (-62135629200 : Int64)
        · refine Goes.step (fun _ k => XS.ifYes X0.here hx rfl (pc0 := 64) (pc' := 80) rfl (hb hby at_64) rfl ((if0 _ _).trans (tlt ((lw_lt _ _).mpr c64_19)).1) (by decide) (by decide) k) ?_
          show Goes _ _ _ _ _ _ _ (s₁.setTop (mkF m 80 #[.val (.long p0), .second, .val (.int p1), .val (.int (p1 &&& (3 : Int32))), .val (.long (p0 >>> ((24 : Int32) &&& 0x3f).toInt64)), .second, .unset] []))
          refine Goes.step (fun _ k => XS.iconst X0.here hx rfl (hb hby at_80) k) ?_
          show Goes _ _ _ _ _ _ _ (s₁.setTop (mkF m 81 #[.val (.long p0), .second, .val (.int p1), .val (.int (p1 &&& (3 : Int32))), .val (.long (p0 >>> ((24 : Int32) &&& 0x3f).toInt64)), .second, .unset] [(.int (0 : Int32))]))
          refine Goes.step (fun _ k => XS.istore X0.here hx rfl (hb hby at_81) rfl (l' := #[.val (.long p0), .second, .val (.int p1), .val (.int (p1 &&& (3 : Int32))), .val (.long (p0 >>> ((24 : Int32) &&& 0x3f).toInt64)), .second, .val (.int (0 : Int32))]) rfl k) ?_
          show Goes _ _ _ _ _ _ _ (s₁.setTop (mkF m 83 #[.val (.long p0), .second, .val (.int p1), .val (.int (p1 &&& (3 : Int32))), .val (.long (p0 >>> ((24 : Int32) &&& 0x3f).toInt64)), .second, .val (.int (0 : Int32))] []))
          refine Goes.step (fun _ k => XS.lload X0.here hx rfl (hb hby at_83) rfl  k) ?_
          show Goes _ _ _ _ _ _ _ (s₁.setTop (mkF m 85 #[.val (.long p0), .second, .val (.int p1), .val (.int (p1 &&& (3 : Int32))), .val (.long (p0 >>> ((24 : Int32) &&& 0x3f).toInt64)), .second, .val (.int (0 : Int32))] [(.long (p0 >>> ((24 : Int32) &&& 0x3f).toInt64))]))
          obtain ⟨_, _, ⟨T20, L20, k20, n20⟩, -, X20, ⟨Lc20, hQ20, l20, y20, z20⟩, st20⟩ := Jvm.LawKit.callS X0 hx (y := (⟨"com/example/nehaba/nehaba/input/JapanTime", "writable", "(J)Z"⟩ : MethodName)) hown (mvT hZ (hw _ (List.mem_of_getElem? (i := 3) rfl))) (mvT hZ (hw _ (List.mem_of_getElem? (i := 4) rfl))) (mvT hZ (hw _ (List.mem_of_getElem? (i := 5) rfl))) (mvT hZ (hw _ (List.mem_of_getElem? (i := 6) rfl))) (by decide) (backOf (W := 0) (rm1 l Z a0 hw [] (p0 >>> ((24 : Int32) &&& 0x3f).toInt64) h0 n0 Z0 S_FIRST S_LAST X00) hZ (hw _ (List.mem_of_getElem? (i := 6) rfl)) (hw _ (List.mem_of_getElem? (i := 5) rfl)) (by decide) (by decide)) (g := (mkF m 85 #[.val (.long p0), .second, .val (.int p1), .val (.int (p1 &&& (3 : Int32))), .val (.long (p0 >>> ((24 : Int32) &&& 0x3f).toInt64)), .second, .val (.int (0 : Int32))] [(.long (p0 >>> ((24 : Int32) &&& 0x3f).toInt64))])) rfl (by rw [hml]; rfl) (argsL := [(.long (p0 >>> ((24 : Int32) &&& 0x3f).toInt64))]) (rest := []) (lenOf pd_0 rfl) rfl (by show 2 * 0 + _ ≤ _; exact Nat.le_of_eq rfl) (hb hby at_85) (fun _ _ => ⟨rfl, e0, (by decide : 0 + 0 ≤ _), (by decide : 0 + 0 ≤ _)⟩)
          dsimp only [Pt.U, Pt.locs, Pt.cells, Pt.slots] at X20 l20 y20 z20 st20 hQ20
          subst l20 y20 z20
          obtain ⟨N20, eh20, hR20⟩ := hQ20
          have NA20 := Fr.app N0 N20
          rcases hR20 with ⟨rfl, u20_0_0⟩ | ⟨rfl, u20_1_0, u20_1_1⟩ | ⟨rfl, u20_2_0, u20_2_1⟩
          · refine Goes.step st20 ?_
            show Goes _ _ _ _ _ _ _ (T20.setTop (mkF m 88 #[.val (.long p0), .second, .val (.int p1), .val (.int (p1 &&& (3 : Int32))), .val (.long (p0 >>> ((24 : Int32) &&& 0x3f).toInt64)), .second, .val (.int (0 : Int32))] [(.int (0 : Int32))]))
            refine Goes.step (fun _ k => XS.iload X20.here hx rfl (hb hby at_88) rfl  k) ?_
            show Goes _ _ _ _ _ _ _ (T20.setTop (mkF m 90 #[.val (.long p0), .second, .val (.int p1), .val (.int (p1 &&& (3 : Int32))), .val (.long (p0 >>> ((24 : Int32) &&& 0x3f).toInt64)), .second, .val (.int (0 : Int32))] [(.int (0 : Int32)), (.int (0 : Int32))]))
            refine Goes.step (fun _ k => XS.icmpNo X20.here hx rfl (hb hby at_90) rfl (teq (by decide : (0 : Int32) = (0 : Int32))).2 k) ?_
            show Goes _ _ _ _ _ _ _ (T20.setTop (mkF m 93 #[.val (.long p0), .second, .val (.int p1), .val (.int (p1 &&& (3 : Int32))), .val (.long (p0 >>> ((24 : Int32) &&& 0x3f).toInt64)), .second, .val (.int (0 : Int32))] []))
            refine Goes.step (fun _ k => XS.iconst X20.here hx rfl (hb hby at_93) k) ?_
            show Goes _ _ _ _ _ _ _ (T20.setTop (mkF m 94 #[.val (.long p0), .second, .val (.int p1), .val (.int (p1 &&& (3 : Int32))), .val (.long (p0 >>> ((24 : Int32) &&& 0x3f).toInt64)), .second, .val (.int (0 : Int32))] [(.int (1 : Int32))]))
            refine Goes.step (fun _ k => XS.goto X20.here hx rfl (pc0 := 94) (pc' := 98) rfl (hb hby at_94) (by decide) (by decide) k) ?_
            show Goes _ _ _ _ _ _ _ (T20.setTop (mkF m 98 #[.val (.long p0), .second, .val (.int p1), .val (.int (p1 &&& (3 : Int32))), .val (.long (p0 >>> ((24 : Int32) &&& 0x3f).toInt64)), .second, .val (.int (0 : Int32))] [(.int (1 : Int32))]))
            exact Goes.ret X20 hx (BodyLoose.notSynchronized Bd) Bd.returns rfl (Or.inl ⟨rfl, by simp, _, rfl⟩) (hb hby at_98) (by show Q0 Z p0 p1 h0 n0 (some (.int (1 : Int32))) T20.heap _; rw [eh20]; exact ⟨rfl, NA20⟩) (by decide) (by decide)
          · exact absurd c64_19 u20_1_0
          · exact absurd c64_19 u20_2_0
        · refine Goes.step (fun _ k => XS.ifNo X0.here hx rfl (hb hby at_64) rfl ((if0 _ _).trans (flt (fun q => c64_19 ((lw_lt _ _).mp q))).1) k) ?_
          show Goes _ _ _ _ _ _ _ (s₁.setTop (mkF m 67 #[.val (.long p0), .second, .val (.int p1), .val (.int (p1 &&& (3 : Int32))), .val (.long (p0 >>> ((24 : Int32) &&& 0x3f).toInt64)), .second, .unset] []))
          refine Goes.step (fun _ k => XS.lload X0.here hx rfl (hb hby at_67) rfl  k) ?_
          show Goes _ _ _ _ _ _ _ (s₁.setTop (mkF m 69 #[.val (.long p0), .second, .val (.int p1), .val (.int (p1 &&& (3 : Int32))), .val (.long (p0 >>> ((24 : Int32) &&& 0x3f).toInt64)), .second, .unset] [(.long (p0 >>> ((24 : Int32) &&& 0x3f).toInt64))]))
          refine Goes.step (fun _ k => X0.ldc2Long hx hown (mvT hZ (hw _ (List.mem_of_getElem? (i := 0) rfl))) (g := (mkF m 69 #[.val (.long p0), .second, .val (.int p1), .val (.int (p1 &&& (3 : Int32))), .val (.long (p0 >>> ((24 : Int32) &&& 0x3f).toInt64)), .second, .unset] [(.long (p0 >>> ((24 : Int32) &&& 0x3f).toInt64))])) rfl (hb hby at_69) _ k) ?_
          show Goes _ _ _ _ _ _ _ (s₁.setTop (mkF m 72 #[.val (.long p0), .second, .val (.int p1), .val (.int (p1 &&& (3 : Int32))), .val (.long (p0 >>> ((24 : Int32) &&& 0x3f).toInt64)), .second, .unset] [(.long (253402268399 : Int64)), (.long (p0 >>> ((24 : Int32) &&& 0x3f).toInt64))]))
          refine Goes.step (fun _ k => XS.lcmp X0.here hx rfl (hb hby at_72) rfl k) ?_
          show Goes _ _ _ _ _ _ _ (s₁.setTop (mkF m 73 #[.val (.long p0), .second, .val (.int p1), .val (.int (p1 &&& (3 : Int32))), .val (.long (p0 >>> ((24 : Int32) &&& 0x3f).toInt64)), .second, .unset] [(.int (lcmpW (p0 >>> ((24 : Int32) &&& 0x3f).toInt64) (253402268399 : Int64)))]))
          by_cases c73_21 : (253402268399 : Int64) < (p0 >>> ((24 : Int32) &&& 0x3f).toInt64)
          · refine Goes.step (fun _ k => XS.ifYes X0.here hx rfl (pc0 := 73) (pc' := 80) rfl (hb hby at_73) rfl ((if0 _ _).trans (tlt ((lw_gt _ _).mpr c73_21)).2.2.1) (by decide) (by decide) k) ?_
            show Goes _ _ _ _ _ _ _ (s₁.setTop (mkF m 80 #[.val (.long p0), .second, .val (.int p1), .val (.int (p1 &&& (3 : Int32))), .val (.long (p0 >>> ((24 : Int32) &&& 0x3f).toInt64)), .second, .unset] []))
            refine Goes.step (fun _ k => XS.iconst X0.here hx rfl (hb hby at_80) k) ?_
            show Goes _ _ _ _ _ _ _ (s₁.setTop (mkF m 81 #[.val (.long p0), .second, .val (.int p1), .val (.int (p1 &&& (3 : Int32))), .val (.long (p0 >>> ((24 : Int32) &&& 0x3f).toInt64)), .second, .unset] [(.int (0 : Int32))]))
            refine Goes.step (fun _ k => XS.istore X0.here hx rfl (hb hby at_81) rfl (l' := #[.val (.long p0), .second, .val (.int p1), .val (.int (p1 &&& (3 : Int32))), .val (.long (p0 >>> ((24 : Int32) &&& 0x3f).toInt64)), .second, .val (.int (0 : Int32))]) rfl k) ?_
            show Goes _ _ _ _ _ _ _ (s₁.setTop (mkF m 83 #[.val (.long p0), .second, .val (.int p1), .val (.int (p1 &&& (3 : Int32))), .val (.long (p0 >>> ((24 : Int32) &&& 0x3f).toInt64)), .second, .val (.int (0 : Int32))] []))
            refine Goes.step (fun _ k => XS.lload X0.here hx rfl (hb hby at_83) rfl  k) ?_
            show Goes _ _ _ _ _ _ _ (s₁.setTop (mkF m 85 #[.val (.long p0), .second, .val (.int p1), .val (.int (p1 &&& (3 : Int32))), .val (.long (p0 >>> ((24 : Int32) &&& 0x3f).toInt64)), .second, .val (.int (0 : Int32))] [(.long (p0 >>> ((24 : Int32) &&& 0x3f).toInt64))]))
            obtain ⟨_, _, ⟨T22, L22, k22, n22⟩, -, X22, ⟨Lc22, hQ22, l22, y22, z22⟩, st22⟩ := Jvm.LawKit.callS X0 hx (y := (⟨"com/example/nehaba/nehaba/input/JapanTime", "writable", "(J)Z"⟩ : MethodName)) hown (mvT hZ (hw _ (List.mem_of_getElem? (i := 3) rfl))) (mvT hZ (hw _ (List.mem_of_getElem? (i := 4) rfl))) (mvT hZ (hw _ (List.mem_of_getElem? (i := 5) rfl))) (mvT hZ (hw _ (List.mem_of_getElem? (i := 6) rfl))) (by decide) (backOf (W := 0) (rm1 l Z a0 hw [] (p0 >>> ((24 : Int32) &&& 0x3f).toInt64) h0 n0 Z0 S_FIRST S_LAST X00) hZ (hw _ (List.mem_of_getElem? (i := 6) rfl)) (hw _ (List.mem_of_getElem? (i := 5) rfl)) (by decide) (by decide)) (g := (mkF m 85 #[.val (.long p0), .second, .val (.int p1), .val (.int (p1 &&& (3 : Int32))), .val (.long (p0 >>> ((24 : Int32) &&& 0x3f).toInt64)), .second, .val (.int (0 : Int32))] [(.long (p0 >>> ((24 : Int32) &&& 0x3f).toInt64))])) rfl (by rw [hml]; rfl) (argsL := [(.long (p0 >>> ((24 : Int32) &&& 0x3f).toInt64))]) (rest := []) (lenOf pd_0 rfl) rfl (by show 2 * 0 + _ ≤ _; exact Nat.le_of_eq rfl) (hb hby at_85) (fun _ _ => ⟨rfl, e0, (by decide : 0 + 0 ≤ _), (by decide : 0 + 0 ≤ _)⟩)
            dsimp only [Pt.U, Pt.locs, Pt.cells, Pt.slots] at X22 l22 y22 z22 st22 hQ22
            subst l22 y22 z22
            obtain ⟨N22, eh22, hR22⟩ := hQ22
            have NA22 := Fr.app N0 N22
            rcases hR22 with ⟨rfl, u22_0_0⟩ | ⟨rfl, u22_1_0, u22_1_1⟩ | ⟨rfl, u22_2_0, u22_2_1⟩
            · exact absurd u22_0_0 c64_19
            · refine Goes.step st22 ?_
              show Goes _ _ _ _ _ _ _ (T22.setTop (mkF m 88 #[.val (.long p0), .second, .val (.int p1), .val (.int (p1 &&& (3 : Int32))), .val (.long (p0 >>> ((24 : Int32) &&& 0x3f).toInt64)), .second, .val (.int (0 : Int32))] [(.int (0 : Int32))]))
              refine Goes.step (fun _ k => XS.iload X22.here hx rfl (hb hby at_88) rfl  k) ?_
              show Goes _ _ _ _ _ _ _ (T22.setTop (mkF m 90 #[.val (.long p0), .second, .val (.int p1), .val (.int (p1 &&& (3 : Int32))), .val (.long (p0 >>> ((24 : Int32) &&& 0x3f).toInt64)), .second, .val (.int (0 : Int32))] [(.int (0 : Int32)), (.int (0 : Int32))]))
              refine Goes.step (fun _ k => XS.icmpNo X22.here hx rfl (hb hby at_90) rfl (teq (by decide : (0 : Int32) = (0 : Int32))).2 k) ?_
              show Goes _ _ _ _ _ _ _ (T22.setTop (mkF m 93 #[.val (.long p0), .second, .val (.int p1), .val (.int (p1 &&& (3 : Int32))), .val (.long (p0 >>> ((24 : Int32) &&& 0x3f).toInt64)), .second, .val (.int (0 : Int32))] []))
              refine Goes.step (fun _ k => XS.iconst X22.here hx rfl (hb hby at_93) k) ?_
              show Goes _ _ _ _ _ _ _ (T22.setTop (mkF m 94 #[.val (.long p0), .second, .val (.int p1), .val (.int (p1 &&& (3 : Int32))), .val (.long (p0 >>> ((24 : Int32) &&& 0x3f).toInt64)), .second, .val (.int (0 : Int32))] [(.int (1 : Int32))]))
              refine Goes.step (fun _ k => XS.goto X22.here hx rfl (pc0 := 94) (pc' := 98) rfl (hb hby at_94) (by decide) (by decide) k) ?_
              show Goes _ _ _ _ _ _ _ (T22.setTop (mkF m 98 #[.val (.long p0), .second, .val (.int p1), .val (.int (p1 &&& (3 : Int32))), .val (.long (p0 >>> ((24 : Int32) &&& 0x3f).toInt64)), .second, .val (.int (0 : Int32))] [(.int (1 : Int32))]))
              exact Goes.ret X22 hx (BodyLoose.notSynchronized Bd) Bd.returns rfl (Or.inl ⟨rfl, by simp, _, rfl⟩) (hb hby at_98) (by show Q0 Z p0 p1 h0 n0 (some (.int (1 : Int32))) T22.heap _; rw [eh22]; exact ⟨rfl, NA22⟩) (by decide) (by decide)
            · exact absurd c73_21 u22_2_1
          · refine Goes.step (fun _ k => XS.ifNo X0.here hx rfl (hb hby at_73) rfl ((if0 _ _).trans (flt (fun q => c73_21 ((lw_gt _ _).mp q))).2.2.1) k) ?_
            show Goes _ _ _ _ _ _ _ (s₁.setTop (mkF m 76 #[.val (.long p0), .second, .val (.int p1), .val (.int (p1 &&& (3 : Int32))), .val (.long (p0 >>> ((24 : Int32) &&& 0x3f).toInt64)), .second, .unset] []))
            refine Goes.step (fun _ k => XS.iconst X0.here hx rfl (hb hby at_76) k) ?_
            show Goes _ _ _ _ _ _ _ (s₁.setTop (mkF m 77 #[.val (.long p0), .second, .val (.int p1), .val (.int (p1 &&& (3 : Int32))), .val (.long (p0 >>> ((24 : Int32) &&& 0x3f).toInt64)), .second, .unset] [(.int (1 : Int32))]))
            refine Goes.step (fun _ k => XS.goto X0.here hx rfl (pc0 := 77) (pc' := 81) rfl (hb hby at_77) (by decide) (by decide) k) ?_
            show Goes _ _ _ _ _ _ _ (s₁.setTop (mkF m 81 #[.val (.long p0), .second, .val (.int p1), .val (.int (p1 &&& (3 : Int32))), .val (.long (p0 >>> ((24 : Int32) &&& 0x3f).toInt64)), .second, .unset] [(.int (1 : Int32))]))
            refine Goes.step (fun _ k => XS.istore X0.here hx rfl (hb hby at_81) rfl (l' := #[.val (.long p0), .second, .val (.int p1), .val (.int (p1 &&& (3 : Int32))), .val (.long (p0 >>> ((24 : Int32) &&& 0x3f).toInt64)), .second, .val (.int (1 : Int32))]) rfl k) ?_
            show Goes _ _ _ _ _ _ _ (s₁.setTop (mkF m 83 #[.val (.long p0), .second, .val (.int p1), .val (.int (p1 &&& (3 : Int32))), .val (.long (p0 >>> ((24 : Int32) &&& 0x3f).toInt64)), .second, .val (.int (1 : Int32))] []))
            refine Goes.step (fun _ k => XS.lload X0.here hx rfl (hb hby at_83) rfl  k) ?_
            show Goes _ _ _ _ _ _ _ (s₁.setTop (mkF m 85 #[.val (.long p0), .second, .val (.int p1), .val (.int (p1 &&& (3 : Int32))), .val (.long (p0 >>> ((24 : Int32) &&& 0x3f).toInt64)), .second, .val (.int (1 : Int32))] [(.long (p0 >>> ((24 : Int32) &&& 0x3f).toInt64))]))
            obtain ⟨_, _, ⟨T23, L23, k23, n23⟩, -, X23, ⟨Lc23, hQ23, l23, y23, z23⟩, st23⟩ := Jvm.LawKit.callS X0 hx (y := (⟨"com/example/nehaba/nehaba/input/JapanTime", "writable", "(J)Z"⟩ : MethodName)) hown (mvT hZ (hw _ (List.mem_of_getElem? (i := 3) rfl))) (mvT hZ (hw _ (List.mem_of_getElem? (i := 4) rfl))) (mvT hZ (hw _ (List.mem_of_getElem? (i := 5) rfl))) (mvT hZ (hw _ (List.mem_of_getElem? (i := 6) rfl))) (by decide) (backOf (W := 0) (rm1 l Z a0 hw [] (p0 >>> ((24 : Int32) &&& 0x3f).toInt64) h0 n0 Z0 S_FIRST S_LAST X00) hZ (hw _ (List.mem_of_getElem? (i := 6) rfl)) (hw _ (List.mem_of_getElem? (i := 5) rfl)) (by decide) (by decide)) (g := (mkF m 85 #[.val (.long p0), .second, .val (.int p1), .val (.int (p1 &&& (3 : Int32))), .val (.long (p0 >>> ((24 : Int32) &&& 0x3f).toInt64)), .second, .val (.int (1 : Int32))] [(.long (p0 >>> ((24 : Int32) &&& 0x3f).toInt64))])) rfl (by rw [hml]; rfl) (argsL := [(.long (p0 >>> ((24 : Int32) &&& 0x3f).toInt64))]) (rest := []) (lenOf pd_0 rfl) rfl (by show 2 * 0 + _ ≤ _; exact Nat.le_of_eq rfl) (hb hby at_85) (fun _ _ => ⟨rfl, e0, (by decide : 0 + 0 ≤ _), (by decide : 0 + 0 ≤ _)⟩)
            dsimp only [Pt.U, Pt.locs, Pt.cells, Pt.slots] at X23 l23 y23 z23 st23 hQ23
            subst l23 y23 z23
            obtain ⟨N23, eh23, hR23⟩ := hQ23
            have NA23 := Fr.app N0 N23
            rcases hR23 with ⟨rfl, u23_0_0⟩ | ⟨rfl, u23_1_0, u23_1_1⟩ | ⟨rfl, u23_2_0, u23_2_1⟩
            · exact absurd u23_0_0 c64_19
            · exact absurd u23_1_1 c73_21
            · refine Goes.step st23 ?_
              show Goes _ _ _ _ _ _ _ (T23.setTop (mkF m 88 #[.val (.long p0), .second, .val (.int p1), .val (.int (p1 &&& (3 : Int32))), .val (.long (p0 >>> ((24 : Int32) &&& 0x3f).toInt64)), .second, .val (.int (1 : Int32))] [(.int (1 : Int32))]))
              refine Goes.step (fun _ k => XS.iload X23.here hx rfl (hb hby at_88) rfl  k) ?_
              show Goes _ _ _ _ _ _ _ (T23.setTop (mkF m 90 #[.val (.long p0), .second, .val (.int p1), .val (.int (p1 &&& (3 : Int32))), .val (.long (p0 >>> ((24 : Int32) &&& 0x3f).toInt64)), .second, .val (.int (1 : Int32))] [(.int (1 : Int32)), (.int (1 : Int32))]))
              refine Goes.step (fun _ k => XS.icmpNo X23.here hx rfl (hb hby at_90) rfl (teq (by decide : (1 : Int32) = (1 : Int32))).2 k) ?_
              show Goes _ _ _ _ _ _ _ (T23.setTop (mkF m 93 #[.val (.long p0), .second, .val (.int p1), .val (.int (p1 &&& (3 : Int32))), .val (.long (p0 >>> ((24 : Int32) &&& 0x3f).toInt64)), .second, .val (.int (1 : Int32))] []))
              refine Goes.step (fun _ k => XS.iconst X23.here hx rfl (hb hby at_93) k) ?_
              show Goes _ _ _ _ _ _ _ (T23.setTop (mkF m 94 #[.val (.long p0), .second, .val (.int p1), .val (.int (p1 &&& (3 : Int32))), .val (.long (p0 >>> ((24 : Int32) &&& 0x3f).toInt64)), .second, .val (.int (1 : Int32))] [(.int (1 : Int32))]))
              refine Goes.step (fun _ k => XS.goto X23.here hx rfl (pc0 := 94) (pc' := 98) rfl (hb hby at_94) (by decide) (by decide) k) ?_
              show Goes _ _ _ _ _ _ _ (T23.setTop (mkF m 98 #[.val (.long p0), .second, .val (.int p1), .val (.int (p1 &&& (3 : Int32))), .val (.long (p0 >>> ((24 : Int32) &&& 0x3f).toInt64)), .second, .val (.int (1 : Int32))] [(.int (1 : Int32))]))
              exact Goes.ret X23 hx (BodyLoose.notSynchronized Bd) Bd.returns rfl (Or.inl ⟨rfl, by simp, _, rfl⟩) (hb hby at_98) (by show Q0 Z p0 p1 h0 n0 (some (.int (1 : Int32))) T23.heap _; rw [eh23]; exact ⟨rfl, NA23⟩) (by decide) (by decide)
set_option maxRecDepth 65536 in
set_option maxHeartbeats 40000000 in
theorem comes_1 {Post : Tables → Env → Array Value → State → Outcome → State → Prop} (hpost : ∀ tb e args s v u, (limb_1_1.after args s (.returned v) u = true ∧ limb_1_2.after args s (.returned v) u = true ∧ True) → FrameEnd s (.returned v) u (Jvm.fieldLocs frame_1_writes args s ++ Jvm.arrayLocs frame_1_arrays args s ++ Jvm.staticLocs frame_1_statics s) 0 0 → Post tb e args s (.returned v) u) :
    ArmFor flags0 classFile x code maxLocals ret World_1 tables_1 room_1 Calls_1 rest_1 Pre_1 Post := by
  intro l hfl _ _ p e ha hc hk s m args below hf hA hF happ hP
  obtain ⟨hcalls, hrest, hpre⟩ := hP
  obtain ⟨-, -, -, hnamed, -, -, -, hat⟩ := (Spec.applies_iff hf).mp happ
  obtain ⟨hg, hn⟩ := and_e (Cond.before_iff.mp (show (Jvm.Cond.and given_1 narrow_1).before args s = true from hpre))
  obtain ⟨gg1, gg2⟩ := and_e hg
  obtain ⟨gg3, gg4⟩ := and_e gg2
  obtain ⟨w0, w1, rfl⟩ : ∃ w0 w1 : Value, args = #[w0, w1] := by
    have hs : args.size = 2 := by simpa [Cond.value, given_1] using gg1
    obtain ⟨L⟩ := args
    match L, hs with
    | [w0, w1], _ => exact ⟨w0, w1, rfl⟩
  have hw := fun d (hd : d ∈ tables_1) => atoms_spec (ws := Jvm.Cond.code x code maxLocals ret :: tables_1) hat d (List.mem_cons_of_mem _ hd)
  have hfit : Fit s := fun {y c} hc i hi => by
    obtain ⟨ha, rfl⟩ := Array.getElem?_eq_some_iff.mp hc
    have q := List.all_eq_true.mp ((Array.all_eq_true_iff_forall_mem.mp hF) _ (Array.getElem_mem ha)) i (List.mem_range.mpr hi)
    simpa [Array.getElem?_eq_getElem hi] using q
  obtain ⟨i0, ei0⟩ := isL_v gg3
  obtain rfl : w0 = (.long i0) := Option.some.inj ei0
  obtain ⟨i1, ei1⟩ := is_v gg4
  obtain rfl : w1 = (.int i1) := Option.some.inj ei1
  obtain ⟨nn1, nn2⟩ := and_e hn
  have S_FIRST := Sta.start (own_eqLong nn1) (Or.inr ⟨(hw _ (List.mem_of_getElem? (i := 5) rfl)), (hw _ (List.mem_of_getElem? (i := 8) rfl))⟩)
  have S_LAST := Sta.start (own_eqLong nn2) (Or.inr ⟨(hw _ (List.mem_of_getElem? (i := 5) rfl)), (hw _ (List.mem_of_getElem? (i := 10) rfl))⟩)
  obtain ⟨n, o, h1, h2, h3, _, L, rfl, ⟨rfl, N⟩, hq⟩ := rm0 l s _ hw tables_1 i0 i1 s.heap s.heap.size (Nat.le_refl _) S_FIRST S_LAST (Old.start s) p e ha hc hk s m _ below hf ((Spec.applies_iff_loose hf).mp happ).1 ⟨rfl, State.Warmed39.refl s, rfl⟩ trivial
  refine ⟨n, _, h1, h2, h3, hpost _ _ _ _ _ _ ⟨Cond.after_iff.mpr rfl, Cond.after_iff.mpr (eq_i res_at (Term.int_eval (1)) rfl), trivial⟩ ⟨hq.1, hq.2.1, (hq.2.2.sift fun y hy => Or.inr (N y hy)).mono (by decide) (by decide)⟩⟩
theorem main_1_1 : Claimed_1_1 := comes_1 fun _ _ _ _ _ _ h hF => ⟨h.1, hF⟩
theorem main_1_2 : Claimed_1_2 := comes_1 fun _ _ _ _ _ _ h hF => ⟨h.2.1, hF⟩
end Jvm.Pilot.@@N@@
namespace Jvm.Pilot.@@N@@
open Jvm Jvm.ClassFile Sem Op Lib Jvm.Free Jvm.Stand Jvm.Pilot.@@N@@.Jvm.D
/-! MADE BY PROGRAM (witnessworld.py) out of the Statement's table words and the real class files: 9 classes; the members and pool entries that the words name. The judged class is class 1, her method 1. -/
namespace start1
open Jvm.ClassFile
def u (s : String) : CpInfo := .utf8 (stringToUtf16 s)
/-- a pool by its gaps: so many unusable entries, then the entry; so many at the end -/
def gap : Nat → List CpInfo → List CpInfo
  | 0, r => r
  | n + 1, r => .unusable :: gap n r
def poolList (es : List (Nat × CpInfo)) (last : Nat) : List CpInfo := es.foldr (fun e r => gap e.1 (e.2 :: r)) (gap last [])
def pool (es : List (Nat × CpInfo)) (last : Nat) : Array CpInfo := ⟨poolList es last⟩
def fileOf (pool : Array CpInfo) (this : Nat) (attrs : Array Attribute := #[]) (ms : Array MethodInfo := #[]) (fl : Nat := 33) (sup : Nat := 0) (ifs : Array Nat := #[]) (fds : Array FieldInfo := #[]) : ClassFile where
  minorVersion := 0
  majorVersion := 65
  constantPool := pool
  accessFlags := fl
  thisClass := this
  superClass := sup
  interfaces := ifs
  fields := fds
  methods := ms
  attributes := attrs
def plain (name : String) (sup : Option ClassId) : Class where
  name := name
  kind := .ordinary
  loader := none
  accessFlags := 33
  super := sup
  interfaces := #[]
  cf := none
  fields := #[]
  methods := #[]
  instanceTypes := #[]
  staticTypes := #[]
  resolved := #[]
  callSites := []
  init := .initialized
  statics := none
  mirror := none

def pool0 : Array CpInfo := pool [(5, u "<init>"), (0, u "()V"), (1, .class_ 10), (1, u "java/lang/Object")] 113

def k0m0 : Method := { name := "<init>", desc := "()V", sig := { parameters := [], returnType := none }, accessFlags := 1, code := none }
/-- java/lang/Object -/
def k0 : Class := { plain "java/lang/Object" none with
  accessFlags := 33
  interfaces := #[]
  cf := some (fileOf pool0 8 #[] #[{ accessFlags := 1, nameIndex := 5, descriptorIndex := 6, attributes := #[] }] 33 0 #[] #[])
  fields := #[]
  methods := #[k0m0]
  instanceTypes := #[]
  staticTypes := #[]
  resolved := Array.replicate 124 none
  statics := none }

def pool1 : Array CpInfo := pool [(2, .class_ 4), (1, u "java/lang/Object"), (0, u "<init>"), (0, u "()V"), (0, .class_ 8), (0, u "com/example/nehaba/nehaba/input/JapanTimeWritablePinLaw"), (0, .long 18446744011573922416), (1, .long 100000), (1, .long 253402268399), (1, .methodref 16 17), (0, .class_ 18), (0, .nameAndType 19 20), (0, u "com/example/nehaba/nehaba/input/JapanTime"), (0, u "writable"), (0, u "(J)Z"), (0, u "FIRST_REF"), (0, u "J"), (1, u "LAST_REF"), (2, u "law"), (0, u "(JI)Z")] 3

def k1m0 : Method := { name := "<init>", desc := "()V", sig := { parameters := [], returnType := none }, accessFlags := 2, code := none }
def k1c1 : Code := { maxStack := 6, maxLocals := 7, code := code, exceptionTable := #[], attributes := #[] }
def k1m1 : Method := { name := "law", desc := "(JI)Z", sig := { parameters := [.long, .int], returnType := some .boolean }, accessFlags := 9, code := some k1c1 }
/-- com/example/nehaba/nehaba/input/JapanTimeWritablePinLaw -/
def k1 : Class := { plain "com/example/nehaba/nehaba/input/JapanTimeWritablePinLaw" (some 0) with
  accessFlags := 49
  interfaces := #[]
  cf := some (fileOf pool1 7 #[] #[{ accessFlags := 2, nameIndex := 5, descriptorIndex := 6, attributes := #[] }, { accessFlags := 9, nameIndex := 27, descriptorIndex := 28, attributes := #[] }] 49 2 #[] #[{ accessFlags := 26, nameIndex := 21, descriptorIndex := 22, attributes := #[] }, { accessFlags := 26, nameIndex := 24, descriptorIndex := 22, attributes := #[] }])
  fields := #[{ name := "FIRST_REF", type := .long, accessFlags := 26, slot := 0, constantValue := 0 }, { name := "LAST_REF", type := .long, accessFlags := 26, slot := 1, constantValue := 0 }]
  methods := #[k1m0, k1m1]
  instanceTypes := #[]
  staticTypes := #[.long, .long]
  resolved := Array.replicate 32 none
  statics := none }

def pool2 : Array CpInfo := pool [(2, .class_ 4), (1, u "java/lang/Object"), (0, u "<init>"), (0, u "()V"), (1, .class_ 10), (1, u "com/example/nehaba/nehaba/input/JapanTime"), (4, u "OFFSET"), (0, u "Ljava/time/ZoneOffset;"), (37, .fieldref 8 55), (0, .nameAndType 56 57), (0, u "FIRST"), (0, u "J"), (0, .fieldref 8 59), (0, .nameAndType 60 57), (0, u "LAST"), (2, u "writable"), (0, u "(J)Z"), (12, u "LENGTH"), (0, u "I"), (0, .class_ 80), (0, u "com/example/nehaba/nehaba/input/JapanTime$Writer"), (43, u "SECONDS_PER_DAY"), (2, u "LAYOUT"), (0, u "Ljava/lang/String;")] 16

def k2m0 : Method := { name := "<init>", desc := "()V", sig := { parameters := [], returnType := none }, accessFlags := 2, code := none }
def k2c1 : Code := { maxStack := 4, maxLocals := 2, code := prog_29_method_5_code, exceptionTable := #[], attributes := #[] }
def k2m1 : Method := { name := "writable", desc := "(J)Z", sig := { parameters := [.long], returnType := some .boolean }, accessFlags := 9, code := some k2c1 }
/-- com/example/nehaba/nehaba/input/JapanTime -/
def k2 : Class := { plain "com/example/nehaba/nehaba/input/JapanTime" (some 0) with
  accessFlags := 49
  interfaces := #[]
  cf := some (fileOf pool2 8 #[.nestMembers #[79]] #[{ accessFlags := 2, nameIndex := 5, descriptorIndex := 6, attributes := #[] }, { accessFlags := 9, nameIndex := 63, descriptorIndex := 64, attributes := #[] }] 49 2 #[] #[{ accessFlags := 26, nameIndex := 15, descriptorIndex := 16, attributes := #[] }, { accessFlags := 26, nameIndex := 124, descriptorIndex := 78, attributes := #[] }, { accessFlags := 26, nameIndex := 127, descriptorIndex := 128, attributes := #[] }, { accessFlags := 25, nameIndex := 77, descriptorIndex := 78, attributes := #[] }, { accessFlags := 26, nameIndex := 56, descriptorIndex := 57, attributes := #[] }, { accessFlags := 26, nameIndex := 60, descriptorIndex := 57, attributes := #[] }])
  fields := #[{ name := "OFFSET", type := (.object "java/time/ZoneOffset"), accessFlags := 26, slot := 0, constantValue := 0 }, { name := "SECONDS_PER_DAY", type := .int, accessFlags := 26, slot := 1, constantValue := 0 }, { name := "LAYOUT", type := (.object "java/lang/String"), accessFlags := 26, slot := 2, constantValue := 0 }, { name := "LENGTH", type := .int, accessFlags := 25, slot := 3, constantValue := 0 }, { name := "FIRST", type := .long, accessFlags := 26, slot := 4, constantValue := 0 }, { name := "LAST", type := .long, accessFlags := 26, slot := 5, constantValue := 0 }]
  methods := #[k2m0, k2m1]
  instanceTypes := #[]
  staticTypes := #[(.object "java/time/ZoneOffset"), .int, (.object "java/lang/String"), .int, .long, .long]
  resolved := Array.replicate 145 none
  statics := some 0 }

def pool3 : Array CpInfo := pool [(1, u "java/lang/Cloneable"), (0, .class_ 1), (0, u "java/lang/Object"), (0, .class_ 3)] 3

/-- java/lang/Cloneable -/
def k3 : Class := { plain "java/lang/Cloneable" (some 0) with
  accessFlags := 1537
  interfaces := #[]
  cf := some (fileOf pool3 2 #[] #[] 1537 4 #[] #[])
  fields := #[]
  methods := #[]
  instanceTypes := #[]
  staticTypes := #[]
  resolved := Array.replicate 8 none
  statics := none }

def pool4 : Array CpInfo := pool [(1, u "java/io/Serializable"), (0, .class_ 1), (0, u "java/lang/Object"), (0, .class_ 3)] 3

/-- java/io/Serializable -/
def k4 : Class := { plain "java/io/Serializable" (some 0) with
  accessFlags := 1537
  interfaces := #[]
  cf := some (fileOf pool4 2 #[] #[] 1537 4 #[] #[])
  fields := #[]
  methods := #[]
  instanceTypes := #[]
  staticTypes := #[]
  resolved := Array.replicate 8 none
  statics := none }

/-- the primitive byte -/
def k5 : Class := { plain "byte" none with kind := .primitive 'B', accessFlags := 0x411 }
/-- [B -/
def k6 : Class := { plain "[B" (some 0) with kind := .array 5 .byte, interfaces := #[3, 4], accessFlags := 1041 }

/-- the primitive int -/
def k7 : Class := { plain "int" none with kind := .primitive 'I', accessFlags := 0x411 }
/-- [I -/
def k8 : Class := { plain "[I" (some 0) with kind := .array 7 .int, interfaces := #[3, 4], accessFlags := 1041 }

def heap : Heap := #[{ cls := 2, slots := #[.null, .int 0, .null, .int 0, .long (-62135629200), .long 253402268399], vm := .statics 2 }]
def classes : Array Class := #[k0, k1, k2, k3, k4, k5, k6, k7, k8]
def interned : List (Array UInt16 × Addr) := []
def slotsUsed : Nat := 6
def theMethod : MethodId := ⟨1, 1⟩
def args0 : Array Value := #[.long 5, .int 5]
def aboutOver (below : List Frame) : State where
  vm := { classes := classes, interned := interned.toArray }
  heap := heap
  slotsUsed := slotsUsed
  threads := #[{ frames := .invoking theMethod args0 :: below }]
def below0 : List Frame := [.native { method := ⟨0, 0⟩, args := #[] }]
def about1 : State := aboutOver below0
def p0 : Program := .bare "" "" ""
def e0 : Env := launch0.env 0 0 0
theorem w_frames : about1.frames = Frame.invoking theMethod args0 :: below0 := rfl
set_option maxRecDepth 65536 in
theorem w_args : argsFit about1.vm theMethod args0 = true := by decide +kernel
set_option maxRecDepth 65536 in
theorem w_heap : heapFits about1 = true := by decide +kernel
set_option maxRecDepth 65536 in
theorem w_runnable : about1.curStatus? = some .runnable := by decide +kernel
set_option maxRecDepth 65536 in
theorem w_alone : about1.alone = true := by decide +kernel
set_option maxRecDepth 65536 in
theorem w_named : about1.methodNamed? x = some theMethod := by decide +kernel
set_option maxRecDepth 65536 in
theorem w_hears : about1.hears theMethod below0 = true := by decide +kernel
set_option maxRecDepth 65536 in
theorem w_ripe : about1.ripe theMethod args0 below0 = true := by decide +kernel
theorem w_running : about1.status = .running := rfl
set_option maxRecDepth 65536 in
theorem w_room : about1.hasRoom e0.platform room_1 = true :=
  launch0.hasRoom_least _ room_1 (by decide +kernel) (by decide +kernel) (by decide +kernel) (by decide +kernel) (by decide +kernel) (by decide +kernel)
theorem allAtoms_all (ts : List Jvm.Cond) (a : Array Jvm.Value) (st : Jvm.State) : (allAtoms ts).before a st = ts.all (fun c => c.before a st) := by
  induction ts with
  | nil => rfl
  | cons c t ih =>
    show (Jvm.Cond.and c (allAtoms t)).before a st = _
    rw [Jvm.Cond.before_and, ih, List.all_cons]
def words1 : List Jvm.Cond := Jvm.Cond.code x code maxLocals ret :: tables_1
/-- a 'code' word, met by the world's own term for the bytes: nothing is compared byte by byte -/
theorem code_word {y : MethodName} {bytes : ByteArray} {mx : Nat} {rt : Option FieldType} {a : Array Value} {s : State} {m : MethodId} {meth : Method} {c : Code} (h1 : s.methodNamed? y = some m) (h2 : s.vm.method? m = some meth) (h3 : meth.code = some c) (h4 : c.code = bytes)
    (h5 : (c.maxLocals == mx && c.exceptionTable.isEmpty && decide (c.maxStack ≤ mostOperands) && decide (meth.sig.returnType = rt) && !meth.locks && decide (parseMethodDescriptor y.desc = some meth.sig)) = true) : (Jvm.Cond.code y bytes mx rt).before a s = true := by
  simp only [Bool.and_eq_true, beq_iff_eq, Bool.not_eq_true', decide_eq_true_eq] at h5
  obtain ⟨⟨⟨⟨⟨g1, g2⟩, g3⟩, g4⟩, g5⟩, g6⟩ := h5
  simp [Cond.before, Cond.holds, Cond.value, h1, h2, h3, h4, g1, g2, g3, g4, g5, g6]
def isCode : Jvm.Cond → Bool
  | .code _ _ _ _ => true
  | _ => false
theorem all_split {L : List Jvm.Cond} {P : Jvm.Cond → Bool} (h1 : L.all (fun c => isCode c || P c) = true) (h2 : ∀ c ∈ L.filter isCode, P c = true) : L.all P = true := by
  refine List.all_eq_true.mpr fun c hc => ?_
  have h := List.all_eq_true.mp h1 c hc
  rcases Bool.eq_false_or_eq_true (isCode c) with hi | hi
  · exact h2 c (List.mem_filter.mpr ⟨hc, hi⟩)
  · simpa [hi] using h
set_option maxRecDepth 65536 in
theorem w_c0 : (Jvm.Cond.code x code maxLocals ret).before args0 about1 = true := code_word (m := ⟨1, 1⟩) (meth := k1m1) (c := k1c1) (by decide +kernel) rfl rfl rfl (by decide +kernel)
set_option maxRecDepth 65536 in
theorem w_c1 : (Jvm.Cond.code ({ cls := "com/example/nehaba/nehaba/input/JapanTime", name := "writable", desc := "(J)Z" } : Jvm.MethodName) prog_29_method_5_code (2 : Nat) (Option.some Jvm.ClassFile.FieldType.boolean)).before args0 about1 = true := code_word (m := ⟨2, 1⟩) (meth := k2m1) (c := k2c1) (by decide +kernel) rfl rfl rfl (by decide +kernel)
def codes1 : List Jvm.Cond := [Jvm.Cond.code x code maxLocals ret, Jvm.Cond.code ({ cls := "com/example/nehaba/nehaba/input/JapanTime", name := "writable", desc := "(J)Z" } : Jvm.MethodName) prog_29_method_5_code (2 : Nat) (Option.some Jvm.ClassFile.FieldType.boolean)]
set_option maxRecDepth 65536 in
theorem codes_eq : words1.filter isCode = codes1 := rfl
theorem w_codes : ∀ c ∈ words1.filter isCode, c.before args0 about1 = true := by
  rw [codes_eq]
  intro c hc
  simp only [codes1, List.mem_cons, List.not_mem_nil, or_false] at hc
  rcases hc with rfl | rfl
  · exact w_c0
  · exact w_c1
set_option maxRecDepth 65536 in
theorem w_t1 : words1.all (fun c => isCode c || c.before args0 about1) = true := by decide +kernel
theorem w_tables : (allAtoms (Jvm.Cond.code x code maxLocals ret :: tables_1)).before args0 about1 = true := by
  rw [allAtoms_all]
  show words1.all (fun c => c.before args0 about1) = true
  refine all_split ?_ w_codes
  rw [w_t1]
set_option maxRecDepth 65536 in
theorem w_case : (Jvm.Cond.and given_1 narrow_1).before args0 about1 = true := by decide +kernel
theorem w_applies : (headSpec (Jvm.Cond.code x code maxLocals ret :: tables_1) room_1).applies x e0.platform about1 = true :=
  (Spec.applies_iff w_frames).mpr ⟨w_running, w_runnable, w_alone, w_named, w_hears, w_ripe, w_room, w_tables⟩
theorem atStart : AtStart classFile x code maxLocals ret World_1 tables_1 room_1 Calls_1 rest_1 Pre_1 launch0 p0 e0 about1 theMethod args0 below0 :=
  ⟨lists_1, trivial, launch0.admits_env _ _ _, launch0.least_env, fairChoices_fair.cas, fairChoices_fair.clock, w_frames, w_args, w_heap, w_applies, trivial, trivial, w_case⟩
end start1
theorem witness_1 : WitnessClaimed_1 := ⟨start1.p0, start1.e0, start1.about1, start1.theMethod, start1.args0, start1.below0, start1.atStart⟩
end Jvm.Pilot.@@N@@
