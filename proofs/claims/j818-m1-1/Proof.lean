import JvmDerived
import JvmDerived.Pilot.@@N@@Statement
import JvmDerived.Pilot.@@N@@Code
set_option linter.unusedVariables false
set_option linter.unusedSimpArgs false
@@BLOCK:NumsL.lean.txt@@
namespace Jvm.Pilot.@@N@@
open Jvm Jvm.ClassFile Sem Op Lib Jvm.Free Jvm.Stand Jvm.LawKit Jvm.RoadKit Bundle Jvm.Pilot.@@N@@.Jvm.D
section Own
variable {p : Program} {l : Launch} {e : Env} {R : Room} {s : State} {m : MethodId} {args : Array Value} {below : List Frame} {meth : Method} {c : Code} {T : State} {locs : List Loc} {cells slots cl sl : Nat} {Q : Option Value → Heap → List Loc → Prop}
/-- from the state S the invocation comes to its end, returns, and Q holds of what it returned and left -/
def Goes (p : Program) (e : Env) (below : List Frame) (s : State) (cl sl : Nat) (Q : Option Value → Heap → List Loc → Prop) (S : State) : Prop :=
  ∃ s₂ o, Steps p.tables e below S s₂ ∧ s₂.status = .running ∧ Ended s₂ below o ∧ ∃ v L, o = .returned v ∧ Q v s₂.heap L ∧ FrameEnd s o s₂ L cl sl
theorem Goes.step {S S' : State} (h : ∀ t, Steps p.tables e below S' t → Steps p.tables e below S t) (k : Goes p e below s cl sl Q S') : Goes p e below s cl sl Q S := by
  obtain ⟨s₂, o, a, b⟩ := k
  exact ⟨s₂, o, h _ a, b⟩
theorem Goes.back {S S' : State} (h : Steps p.tables e below S S') (k : Goes p e below s cl sl Q S') : Goes p e below s cl sl Q S := Goes.step (fun _ q => h.trans q) k
theorem Goes.ret (X : Stand p l e R s m args below meth c T locs cells slots) (hx : p.tables.exec = Jvm.exec) (hlk : meth.locks = false) {pc : Nat} {Ls : Array Slot} {w : Value} {t : FieldType} {i : Instr} {rest : List Value} (hret : meth.sig.returnType = some t) (hn : narrow t w = w)
    (hi : (i = .ireturn ∧ (t = .int ∨ t = .boolean ∨ t = .byte ∨ t = .char ∨ t = .short) ∧ ∃ z, w = .int z) ∨ (i = .lreturn ∧ t = .long ∧ ∃ z, w = .long z) ∨ (i = .dreturn ∧ t = .double ∧ ∃ z, w = .double z) ∨ (i = .freturn ∧ t = .float ∧ ∃ z, w = .float z) ∨ (i = .areturn ∧ t.isReference = true ∧ w.isRef = true))
    (hd : decode c.code pc = .ok (i, 1)) (hQ : Q (some w) T.heap locs) (hc : cells ≤ cl) (hs : slots ≤ sl) : Goes p e below s cl sl Q (T.setTop (mkF m pc Ls (w :: rest))) := by
  obtain ⟨fs, hr, hrun, hended, hW, hsame⟩ := X.leave (v := some w) (fun h => by rw [hret] at h; cases h) hlk
  exact ⟨_, _, retOut X hx hret hn hi hd hr, hrun, hended, _, _, rfl, hQ, ⟨_, rfl⟩, hW, hsame.mono hc hs⟩
theorem Goes.retV (X : Stand p l e R s m args below meth c T locs cells slots) (hx : p.tables.exec = Jvm.exec) (hlk : meth.locks = false) {pc : Nat} {Ls : Array Slot} (hret : meth.sig.returnType = none)
    (hd : decode c.code pc = .ok (.return_, 1)) (hQ : Q none T.heap locs) (hc : cells ≤ cl) (hs : slots ≤ sl) : Goes p e below s cl sl Q (T.setTop (mkF m pc Ls [])) := by
  obtain ⟨fs, hr, hrun, hended, hW, hsame⟩ := X.leave (v := none) (fun _ => rfl) hlk
  exact ⟨_, _, X.returnOut hx hret hd hr, hrun, hended, _, _, rfl, hQ, ⟨_, rfl⟩, hW, hsame.mono hc hs⟩
theorem own_eqInt {args : Array Value} {s : State} {t : Term} {k : Int32} (h : (Cond.eq t (.int k)).value args s none s [] = some true) : t.eval args s none [] s = some (.int k) := by
  obtain ⟨x, y, hx, hy, -, k2⟩ := cmp_v (Or.inl h)
  obtain rfl : y = .int k := (Option.some.inj hy).symm
  obtain ⟨z, rfl⟩ := k2
  have e : (Cond.eq t (.int k)).value args s none s [] = some (decide (z = k)) := by simp [Cond.value, hx, hy]
  rw [hx, gotT e h]
theorem own_eqLong {args : Array Value} {s : State} {t : Term} {k : Int64} (h : (Cond.eq t (.long k)).value args s none s [] = some true) : t.eval args s none [] s = some (.long k) := by
  obtain ⟨x, y, hx, hy, -, k2⟩ := cmp_v (Or.inl h)
  obtain rfl : y = .long k := (Option.some.inj hy).symm
  obtain ⟨z, rfl⟩ := k2
  rw [hx, gotT (eq_L hx hy) h]
theorem own_neFld {Z : State} {h : Heap} {a b : Addr} {C n d : String} {x y : Int32} (F : Fld Z h a C n d (.int x)) (G : Fld Z h b C n d (.int y)) (q : x ≠ y) : a ≠ b := fun e => by
  subst e
  obtain ⟨cell, cf, k, i, f, h1, h2, -, -, -, -, h7⟩ := F
  obtain ⟨cell', cf', k', i', f', g1, g2, -, -, -, -, g7⟩ := G
  cases h1.symm.trans g1
  cases h2.symm.trans g2
  rw [h7] at g7
  injection g7 with g8
  injection g8 with g9
  exact q g9
theorem own_miss1 {k : Int32} {a : Int} (b : Int32) (hb : b.toInt = a) (h : ¬ k = b) : a ≠ k.toInt := fun q => h (Int32.toInt_inj.mp (by rw [hb, q]))
theorem own_find3 {k : Int32} {a b c' o1 o2 o3 : Int} {a' b' d' : Int32} (ha : ¬ k = a') (hb : ¬ k = b') (hc : ¬ k = d') (ea : a'.toInt = a := by rfl) (eb : b'.toInt = b := by rfl) (ec : d'.toInt = c' := by rfl) : (#[(a, o1), (b, o2), (c', o3)] : Array (Int × Int)).find? (·.1 == k.toInt) = none :=
  find_miss fun p hp => by
    simp only [List.mem_cons, List.not_mem_nil, or_false] at hp
    rcases hp with rfl | rfl | rfl
    · exact own_miss1 _ ea ha
    · exact own_miss1 _ eb hb
    · exact own_miss1 _ ec hc
theorem own_insKeep {Z : State} {h h' : Heap} {a : Addr} {C : String} {b : Bool} {ws : List Addr} (F : Ins Z h a C b) (K : Keep h h' ws) : Ins Z h' a C b := by
  obtain ⟨cell, cT, h1, h2, h3⟩ := F
  obtain ⟨c', q, r1, r2, r3⟩ := K.2.2 a cell h1
  exact ⟨c', cT, q, h2, by rw [r1, r2]; exact h3⟩
theorem own_insLt {Z : State} {h : Heap} {a : Addr} {C : String} {b : Bool} (F : Ins Z h a C b) : a < h.size := by
  obtain ⟨cell, cT, h1, -⟩ := F
  exact (Array.getElem?_eq_some_iff.mp h1).1
theorem own_cat {v : Value} (h : v.isRef = true) : v.category = 1 := by cases v <;> first | rfl | (simp [Value.isRef] at h)
theorem own_nar {ty : FieldType} {v : Value} (h : v.isRef = true) : narrow ty v = v := by cases v <;> first | (simp [Value.isRef] at h; done) | (cases ty <;> rfl)
theorem own_fit {C : String} {v : Value} (h : v.isRef = true) : fits (.object C) v = true := by cases v <;> first | rfl | (simp [Value.isRef] at h)
/-- a private method is selected by its own type, which is no interface since another method of it is selected -/
theorem own_selPriv {s : State} {args : Array Value} {C : String} {x z y : MethodName} (w : (Cond.selects C x z).before args s = true) (hc : z.cls = y.cls) (hp : (Cond.privateMethod y).before args s = true) (hi : (Cond.instanceMethod y).before args s = true)
    (hy : y.cls ≠ "java/lang/invoke/MethodHandle" ∧ y.cls ≠ "java/lang/invoke/VarHandle") : (Cond.selects y.cls y y).before args s = true := by
  obtain ⟨c2, r2, m2, -, -, q3, -, kP, hkP, hkPi⟩ := Cond.selects_spec w
  have hf := findClass_of_methodNamed q3
  rw [hc] at hf
  exact selects_self_of_private hf hkP hkPi (Cond.privateMethod_at hp) hi hy
/-- an array whose contents aren't told -/
def Arx (Z : State) (h : Heap) (a : Addr) (k : ClassId) (ty : FieldType) (n : Int32) : Prop :=
  ∃ cl : Cell, Arr Z h a cl ty ∧ cl.cls = k ∧ cl.slots.size = n.toNatClampNeg ∧ ¬ n < 0 ∧ ∀ i, i < cl.slots.size → ∃ v, cl.slots[i]? = some v ∧ fits ty v = true
theorem Arx.lt {Z : State} {h : Heap} {a : Addr} {k : ClassId} {ty : FieldType} {n : Int32} (F : Arx Z h a k ty n) : a < h.size := by obtain ⟨cl, A, -⟩ := F; exact A.lt
theorem Arx.ext {Z : State} {h h' : Heap} {a : Addr} {k : ClassId} {ty : FieldType} {n : Int32} (F : Arx Z h a k ty n) (E : Ext h h') : Arx Z h' a k ty n := by obtain ⟨cl, A, r⟩ := F; exact ⟨cl, A.ext E, r⟩
theorem Arx.other {Z : State} {h h' : Heap} {a b : Addr} {k : ClassId} {ty : FieldType} {n : Int32} {sl : Nat} {v : Value} (F : Arx Z h b k ty n) (W : Wr h h' a sl v) (q : b ≠ a) : Arx Z h' b k ty n := by obtain ⟨cl, A, r⟩ := F; exact ⟨cl, A.other W q, r⟩
theorem Arx.keep {Z : State} {h h' : Heap} {a : Addr} {k : ClassId} {ty : FieldType} {n : Int32} {ws : List Addr} (F : Arx Z h a k ty n) (K : Keep h h' ws) (q : a ∉ ws) : Arx Z h' a k ty n := by obtain ⟨cl, A, r⟩ := F; exact ⟨cl, ⟨K.2.1 a cl A.1 q, A.2⟩, r⟩
theorem Arx.set {Z : State} {h h' : Heap} {a : Addr} {k : ClassId} {ty : FieldType} {n : Int32} {cl : Cell} {sl : Nat} {v : Value} (A : Arr Z h a cl ty) (q1 : cl.cls = k) (S : cl.slots.size = n.toNatClampNeg) (P : ¬ n < 0) (G : ∀ i, i < cl.slots.size → ∃ v, cl.slots[i]? = some v ∧ fits ty v = true) (hv : fits ty v = true) (W : Wr h h' a sl v) : Arx Z h' a k ty n := by
  refine ⟨_, A.same W, q1, by rw [sz_set]; exact S, P, fun i hi => ?_⟩
  rw [sz_set] at hi
  by_cases u : sl = i
  · subst u
    exact ⟨v, by simp [Cell.setSlot, hi], hv⟩
  · obtain ⟨w, e1, e2⟩ := G i hi
    refine ⟨w, ?_, e2⟩
    show (cl.slots.setIfInBounds sl v)[i]? = some w
    rw [Array.getElem?_setIfInBounds_ne u]
    exact e1
theorem own_arx {Z : State} {h : Heap} {a : Addr} {k : ClassId} {ty : FieldType} {n : Int32} {vs : List Value} {d : Value} (F : Arv Z h a k ty n vs d) : Arx Z h a k ty n := by
  obtain ⟨cl, A, r1, r2, r3, H, G⟩ := F
  exact ⟨cl, A, r1, r2, r3, fun i hi => ⟨_, H i hi, G i hi⟩⟩
theorem own_arI {cl : Cell} {j : Int32} (G : ∀ i, i < cl.slots.size → ∃ v, cl.slots[i]? = some v ∧ fits .int v = true) (hin : ¬ (j < 0 ∨ cl.slots.size ≤ j.toNatClampNeg)) : ∃ x : Int32, cl.slots[j.toNatClampNeg]? = some (.int x) := by
  obtain ⟨v, e1, e2⟩ := G _ (Nat.lt_of_not_le fun q => hin (Or.inr q))
  obtain ⟨x, rfl⟩ := fit_I e2 (Or.inl rfl)
  exact ⟨x, e1⟩
theorem own_arD {cl : Cell} {j : Int32} (G : ∀ i, i < cl.slots.size → ∃ v, cl.slots[i]? = some v ∧ fits .double v = true) (hin : ¬ (j < 0 ∨ cl.slots.size ≤ j.toNatClampNeg)) : ∃ x, cl.slots[j.toNatClampNeg]? = some (.double x) := by
  obtain ⟨v, e1, e2⟩ := G _ (Nat.lt_of_not_le fun q => hin (Or.inr q))
  obtain ⟨x, rfl⟩ := fit_D e2
  exact ⟨x, e1⟩
end Own
theorem own_arx0 {s : State} {args : Array Value} {t : Term} {a : Addr} {cl : Cell} {ty : FieldType} {n : Int32} (hfit : Fit s) (et : t.eval args s none [] s = some (.ref a)) (A : Arr s s.heap a cl ty) (hl : (Term.length t).eval args s none [] s = some (.int n)) (hn : ¬ n < 0) : Arx s s.heap a cl.cls ty n := by
  obtain ⟨x, c2, e1, e2, e4, e3⟩ := Jvm.Free.SB.Term.length_small hl
  cases et.symm.trans e1
  cases (A.fin (Vm.Alike.refl _)).symm.trans e2
  injection e4 with e5
  have hs : cl.slots.size = n.toNatClampNeg := by
    rw [e5]
    simp only [Int32.toNatClampNeg, len_toInt e3]
    rfl
  refine ⟨cl, A, rfl, hs, hn, fun i hi => ?_⟩
  have hq : ¬ (i.toInt32 < 0 ∨ cl.slots.size ≤ i.toInt32.toNatClampNeg) := idx_in hi e3
  obtain ⟨v, r1, r2⟩ := elem_fit hfit A hq
  refine ⟨v, ?_, r2⟩
  have hi2 : i.toInt32.toNatClampNeg = i := by simp only [Int32.toNatClampNeg, len_toInt (Nat.lt_trans hi e3)]; rfl
  rw [hi2] at r1
  exact r1
section OwnNums
theorem own_maskNN (x : Int32) : 0 ≤ (x &&& 2147483647).toInt ∧ (x &&& 2147483647).toInt < 2 ^ 31 := by
  have h : (x &&& 2147483647).toInt = x.toInt % 2 ^ 31 := Jvm.Kit.i32_mask x 2147483647 (k := 31) (by decide) (by decide)
  omega
theorem own_remB (x : Int32) (n : Int32) (hn : 0 < n.toInt) : 0 ≤ ((x &&& 2147483647) % n).toInt ∧ ((x &&& 2147483647) % n).toInt < n.toInt := by
  rw [Int32.toInt_mod, Int.tmod_eq_emod_of_nonneg (own_maskNN x).1]
  exact ⟨Int.emod_nonneg _ (by omega), Int.emod_lt_of_pos _ hn⟩
theorem own_eqOf {i : Int32} (k : Int32) (h : i.toInt = k.toInt) : i = k := Int32.toInt_inj.mp h
end OwnNums
section OwnChar
theorem own_char (x : Int32) : ¬ (255 : Int32) < ((x &&& (255 : Int32)).toUInt32.toUInt16.toUInt32.toInt32) := by
  have t : ∀ k : Fin 256, ¬ (255 : Int32) < ((Int32.ofNat k.val).toUInt32.toUInt16.toUInt32.toInt32) := by decide +kernel
  have h : (x &&& 255).toBitVec.toNat < 256 := by
    simp only [Int32.toBitVec_and, BitVec.toNat_and]
    exact Nat.lt_succ_of_le Nat.and_le_right
  have e : (x &&& 255) = Int32.ofNat (x &&& 255).toBitVec.toNat := by
    apply Int32.toBitVec_inj.mp
    show _ = BitVec.ofNat 32 _
    rw [BitVec.ofNat_toNat]; simp
  rw [e]
  exact t ⟨_, h⟩
theorem own_and3 {x i : Int32} (h : (x &&& (3 : Int32)) = i) : i = 0 ∨ i = 1 ∨ i = 2 ∨ i = 3 := by
  have b : (x &&& (3 : Int32)).toInt = x.toInt % 2 ^ 2 := Jvm.Kit.i32_mask x 3 (k := 2) (by decide) (by decide)
  rw [h] at b
  have q : i.toInt = 0 ∨ i.toInt = 1 ∨ i.toInt = 2 ∨ i.toInt = 3 := by omega
  rcases q with q | q | q | q
  · exact Or.inl (own_eqOf 0 q)
  · exact Or.inr (Or.inl (own_eqOf 1 q))
  · exact Or.inr (Or.inr (Or.inl (own_eqOf 2 q)))
  · exact Or.inr (Or.inr (Or.inr (own_eqOf 3 q)))
theorem own_and1 {x i : Int32} (h : (x &&& (1 : Int32)) = i) : i = 0 ∨ i = 1 := by
  have b : (x &&& (1 : Int32)).toInt = x.toInt % 2 ^ 1 := Jvm.Kit.i32_mask x 1 (k := 1) (by decide) (by decide)
  rw [h] at b
  have q : i.toInt = 0 ∨ i.toInt = 1 := by omega
  rcases q with q | q
  · exact Or.inl (own_eqOf 0 q)
  · exact Or.inr (own_eqOf 1 q)
theorem own_nz {p u : Int64} (h : (p &&& (9223372036854775807 : Int64)) = u) (k : Int64) (h1 : 0 < k.toInt) (h2 : k.toInt < 100) : ¬ (k + u) = (0 : Int64) := fun q => by
  have b : (p &&& (9223372036854775807 : Int64)).toInt = p.toInt % 2 ^ 63 := Jvm.Kit.i64_mask p _ (k := 63) (by decide) (by decide)
  rw [h] at b
  have e := congrArg Int64.toInt q
  rw [Int64.toInt_add] at e
  have z : (0 : Int64).toInt = 0 := rfl
  rw [z, Int.bmod_def] at e
  split at e <;> omega
theorem own_nz1 {p u : Int64} (h : (p &&& (9223372036854775807 : Int64)) = u) (k : Int64) (h1 : 0 ≤ k.toInt) (h2 : k.toInt < 99) : ¬ ((k + u) + (1 : Int64)) = (0 : Int64) := fun q => by
  have e1 : (k + u) + (1 : Int64) = (k + 1) + u := by rw [Int64.add_assoc, Int64.add_comm u 1, ← Int64.add_assoc]
  rw [e1] at q
  have z : (1 : Int64).toInt = 1 := rfl
  have e2 : (k + 1).toInt = k.toInt + 1 := Jvm.Kit.i64_add (by omega) (by omega)
  exact own_nz h (k + 1) (by omega) (by omega) q
theorem own_z {u : Int64} (q : ((0 : Int64) + u) = (0 : Int64)) : u = (0 : Int64) := by rw [Int64.zero_add] at q; exact q
theorem own_z' {u : Int64} (q : ¬ ((0 : Int64) + u) = (0 : Int64)) : ¬ u = (0 : Int64) := fun r => q (by rw [Int64.zero_add]; exact r)
end OwnChar
theorem d2_0 : decode jdk_43_method_3_code 0 = .ok (.iload_n 0, 1) := by decide +kernel
theorem d2_1 : decode jdk_43_method_3_code 1 = .ok (.sipush 255, 3) := by decide +kernel
theorem d2_4 : decode jdk_43_method_3_code 4 = .ok (.if_icmp .gt 7, 3) := by decide +kernel
theorem d2_7 : decode jdk_43_method_3_code 7 = .ok (.iconst 1, 1) := by decide +kernel
theorem d2_8 : decode jdk_43_method_3_code 8 = .ok (.goto 4, 3) := by decide +kernel
theorem d2_11 : decode jdk_43_method_3_code 11 = .ok (.iconst 0, 1) := by decide +kernel
theorem d2_12 : decode jdk_43_method_3_code 12 = .ok (.ireturn, 1) := by decide +kernel
theorem pn_2 : plainName "java/lang/StringLatin1" = true := by first | (simp [plainName, overriddenIn]; done) | decide +kernel
theorem ef_2 (m : MethodId) (x0 : Int32)  : entryFrame m #[(.int x0)] 1 = mkF m 0 #[.val (.int x0)] [] := by first | (simp [entryFrame, mkF, argsToLocals, Value.category]; done) | rfl
def Q2 (Z : State) (x0 : Int32) (h0 : Heap) (n0 : Nat) (v : Option Value) (h : Heap) (L : List Loc) : Prop := Fr n0 L ∧ h = h0 ∧ ((v = some (.int (0 : Int32)) ∧ (255 : Int32) < x0) ∨ (v = some (.int (1 : Int32)) ∧ ¬ ((255 : Int32) < x0)))
set_option maxRecDepth 65536 in
set_option maxHeartbeats 40000000 in
theorem rm2 (l : Launch) (Z : State) (a0 : Array Value) (hw : ∀ d ∈ tables_1, d.before a0 Z = true) (ws : List Jvm.Cond) (x0 : Int32) (h0 : Heap) (n0 : Nat) (Z0 : n0 ≤ h0.size) :
    MetFree l (⟨"java/lang/StringLatin1", "canEncode", "(C)Z"⟩ : MethodName) (head1 (Jvm.Cond.code (⟨"java/lang/StringLatin1", "canEncode", "(C)Z"⟩ : MethodName) jdk_43_method_3_code 1 (some .boolean) :: ws) ({ frames := 0, cells := 0, slots := 0, locals := 0 } : Room)) (fun a U => a = #[(.int x0)] ∧ Z.Warmed39 U.vm ∧ U.heap = h0) (fun _ _ _ _ _ => True) (fun _ U o U' => ∃ v L, o = .returned v ∧ Q2 Z x0 h0 n0 v U'.heap L ∧ FrameEnd U o U' L ({ frames := 0, cells := 0, slots := 0, locals := 0 } : Room).cells ({ frames := 0, cells := 0, slots := 0, locals := 0 } : Room).slots) := by
  refine MetFree.of_bodySF (plainFor_of_name pn_2) hisR ?_
  intro p e s m args below meth c s₁ Bd hml0 hP hK
  obtain ⟨rfl, hZ, hh⟩ := hP
  have hx := Bd.exec
  have hby := Bd.bytes
  have hml : c.maxLocals = 1 := hml0
  have hown : s.vm.findClass "java/lang/StringLatin1" = some m.cls := findClass_of_methodNamed Bd.named
  have hnm := (name_of_methodNamed Bd.named Bd.method).1
  have X0 : Stand p l e ({ frames := 0, cells := 0, slots := 0, locals := 0 } : Room) s m #[(.int x0)] below meth c s₁ [] 0 0 := Stand.of_body Bd
  have e0 : s₁.heap = h0 := by rw [← hh, Bd.state]; rfl
  have N0 := Fr.nil n0
  have K0 : Keep h0 h0 [] := Keep.refl h0 _
  refine (?_ : Goes p e below s ({ frames := 0, cells := 0, slots := 0, locals := 0 } : Room).cells ({ frames := 0, cells := 0, slots := 0, locals := 0 } : Room).slots (fun v h L => Q2 Z x0 h0 n0 v h L) (s₁.setTop (entryFrame m #[(.int x0)] 1)))
  rw [ef_2 m x0 ]
  show Goes _ _ _ _ _ _ _ (s₁.setTop (mkF m 0 #[.val (.int x0)] []))
  refine Goes.step (fun _ k => XS.iloadN X0.here hx rfl (hb hby d2_0) rfl  k) ?_
  show Goes _ _ _ _ _ _ _ (s₁.setTop (mkF m 1 #[.val (.int x0)] [(.int x0)]))
  refine Goes.step (fun _ k => XS.sipush X0.here hx rfl (hb hby d2_1) k) ?_
  show Goes _ _ _ _ _ _ _ (s₁.setTop (mkF m 4 #[.val (.int x0)] [(.int (255 : Int32)), (.int x0)]))
  by_cases c4_1 : (255 : Int32) < x0
  · refine Goes.step (fun _ k => XS.icmpYes X0.here hx rfl (pc0 := 4) (pc' := 11) rfl (hb hby d2_4) rfl (tlt c4_1).2.2.1 (by decide) (by decide) k) ?_
    show Goes _ _ _ _ _ _ _ (s₁.setTop (mkF m 11 #[.val (.int x0)] []))
    refine Goes.step (fun _ k => XS.iconst X0.here hx rfl (hb hby d2_11) k) ?_
    show Goes _ _ _ _ _ _ _ (s₁.setTop (mkF m 12 #[.val (.int x0)] [(.int (0 : Int32))]))
    exact Goes.ret X0 hx (BodyLoose.notSynchronized Bd) Bd.returns rfl (Or.inl ⟨rfl, by simp, _, rfl⟩) (hb hby d2_12) (by show Q2 Z x0 h0 n0 (some (.int (0 : Int32))) s₁.heap _; rw [e0]; exact ⟨N0, rfl, Or.inl (⟨rfl, c4_1⟩)⟩) (by decide) (by decide)
  · refine Goes.step (fun _ k => XS.icmpNo X0.here hx rfl (hb hby d2_4) rfl (flt c4_1).2.2.1 k) ?_
    show Goes _ _ _ _ _ _ _ (s₁.setTop (mkF m 7 #[.val (.int x0)] []))
    refine Goes.step (fun _ k => XS.iconst X0.here hx rfl (hb hby d2_7) k) ?_
    show Goes _ _ _ _ _ _ _ (s₁.setTop (mkF m 8 #[.val (.int x0)] [(.int (1 : Int32))]))
    refine Goes.step (fun _ k => XS.goto X0.here hx rfl (pc0 := 8) (pc' := 12) rfl (hb hby d2_8) (by decide) (by decide) k) ?_
    show Goes _ _ _ _ _ _ _ (s₁.setTop (mkF m 12 #[.val (.int x0)] [(.int (1 : Int32))]))
    exact Goes.ret X0 hx (BodyLoose.notSynchronized Bd) Bd.returns rfl (Or.inl ⟨rfl, by simp, _, rfl⟩) (hb hby d2_12) (by show Q2 Z x0 h0 n0 (some (.int (1 : Int32))) s₁.heap _; rw [e0]; exact ⟨N0, rfl, Or.inr (⟨rfl, c4_1⟩)⟩) (by decide) (by decide)
theorem d3_0 : decode jdk_43_method_46_code 0 = .ok (.iconst 1, 1) := by decide +kernel
theorem d3_1 : decode jdk_43_method_46_code 1 = .ok (.newarray .byte, 2) := by decide +kernel
theorem d3_3 : decode jdk_43_method_46_code 3 = .ok (.dup, 1) := by decide +kernel
theorem d3_4 : decode jdk_43_method_46_code 4 = .ok (.iconst 0, 1) := by decide +kernel
theorem d3_5 : decode jdk_43_method_46_code 5 = .ok (.iload_n 0, 1) := by decide +kernel
theorem d3_6 : decode jdk_43_method_46_code 6 = .ok (.i2b, 1) := by decide +kernel
theorem d3_7 : decode jdk_43_method_46_code 7 = .ok (.bastore, 1) := by decide +kernel
theorem d3_8 : decode jdk_43_method_46_code 8 = .ok (.areturn, 1) := by decide +kernel
theorem pn_3 : plainName "java/lang/StringLatin1" = true := by first | (simp [plainName, overriddenIn]; done) | decide +kernel
theorem ef_3 (m : MethodId) (x0 : Int32)  : entryFrame m #[(.int x0)] 1 = mkF m 0 #[.val (.int x0)] [] := by first | (simp [entryFrame, mkF, argsToLocals, Value.category]; done) | rfl
def Q3 (Z : State) (x0 : Int32) (h0 : Heap) (n0 : Nat) (v : Option Value) (h : Heap) (L : List Loc) : Prop := Fr n0 L ∧ Keep h0 h [] ∧ ((∃ (r_0 : Addr) (k_0 : ClassId), v = some (.ref r_0) ∧ n0 ≤ r_0 ∧ h0.size ≤ r_0 ∧ Arv Z h r_0 k_0 .byte (1 : Int32) [(.int (nar .byte (x0.toInt8.toInt32)))] (.int (0 : Int32))))
set_option maxRecDepth 65536 in
set_option maxHeartbeats 40000000 in
theorem rm3 (l : Launch) (Z : State) (a0 : Array Value) (hw : ∀ d ∈ tables_1, d.before a0 Z = true) (ws : List Jvm.Cond) (x0 : Int32) (h0 : Heap) (n0 : Nat) (Z0 : n0 ≤ h0.size) :
    MetFree l (⟨"java/lang/StringLatin1", "toBytes", "(C)[B"⟩ : MethodName) (head1 (Jvm.Cond.code (⟨"java/lang/StringLatin1", "toBytes", "(C)[B"⟩ : MethodName) jdk_43_method_46_code 1 (some (.array .byte)) :: ws) ({ frames := 0, cells := 1, slots := 1, locals := 0 } : Room)) (fun a U => a = #[(.int x0)] ∧ Z.Warmed39 U.vm ∧ U.heap = h0) (fun _ _ _ _ _ => True) (fun _ U o U' => ∃ v L, o = .returned v ∧ Q3 Z x0 h0 n0 v U'.heap L ∧ FrameEnd U o U' L ({ frames := 0, cells := 1, slots := 1, locals := 0 } : Room).cells ({ frames := 0, cells := 1, slots := 1, locals := 0 } : Room).slots) := by
  refine MetFree.of_bodySF (plainFor_of_name pn_3) hisR ?_
  intro p e s m args below meth c s₁ Bd hml0 hP hK
  obtain ⟨rfl, hZ, hh⟩ := hP
  have hx := Bd.exec
  have hby := Bd.bytes
  have hml : c.maxLocals = 1 := hml0
  have hown : s.vm.findClass "java/lang/StringLatin1" = some m.cls := findClass_of_methodNamed Bd.named
  have hnm := (name_of_methodNamed Bd.named Bd.method).1
  have X0 : Stand p l e ({ frames := 0, cells := 1, slots := 1, locals := 0 } : Room) s m #[(.int x0)] below meth c s₁ [] 0 0 := Stand.of_body Bd
  have e0 : s₁.heap = h0 := by rw [← hh, Bd.state]; rfl
  have N0 := Fr.nil n0
  have K0 : Keep h0 h0 [] := Keep.refl h0 _
  refine (?_ : Goes p e below s ({ frames := 0, cells := 1, slots := 1, locals := 0 } : Room).cells ({ frames := 0, cells := 1, slots := 1, locals := 0 } : Room).slots (fun v h L => Q3 Z x0 h0 n0 v h L) (s₁.setTop (entryFrame m #[(.int x0)] 1)))
  rw [ef_3 m x0 ]
  show Goes _ _ _ _ _ _ _ (s₁.setTop (mkF m 0 #[.val (.int x0)] []))
  refine Goes.step (fun _ k => XS.iconst X0.here hx rfl (hb hby d3_0) k) ?_
  show Goes _ _ _ _ _ _ _ (s₁.setTop (mkF m 1 #[.val (.int x0)] [(.int (1 : Int32))]))
  obtain ⟨T1, h1, k1, X1, e1, E1, A1, st1⟩ := newP X0 hx hZ (hw _ (List.mem_of_getElem? (i := 15) rfl)) e0 (g := (mkF m 1 #[.val (.int x0)] [(.int (1 : Int32))])) rfl (hb hby d3_1) rfl (by decide) (cap := 1) (by decide) (by decide) (by decide) (by decide)
  obtain ⟨b1, g1⟩ : ∃ z, z = h0.size := ⟨_, rfl⟩
  rw [← g1] at A1 st1
  refine Goes.step st1 ?_
  have g_b1 : n0 ≤ b1 := Nat.le_trans Z0 (Nat.le_of_eq g1.symm)
  have sz_b1 : h0.size ≤ b1 := Nat.le_trans K0.1 (Nat.le_of_eq g1.symm)
  have K2 : Keep h0 h1 [] := K0.ext E1
  have Z2 : n0 ≤ h1.size := Nat.le_trans Z0 E1.1
  have V_b1 : Arv Z h1 b1 k1 .byte (1 : Int32) [(.int (0 : Int32))] (.int (0 : Int32)) := (Arv.new A1 (by decide)).pad (pad_rep [] (.int (0 : Int32)) 1)
  show Goes _ _ _ _ _ _ _ (T1.setTop (mkF m 3 #[.val (.int x0)] [(.ref b1)]))
  refine Goes.step (fun _ k => XS.dup X1.here hx rfl (hb hby d3_3) rfl rfl k) ?_
  show Goes _ _ _ _ _ _ _ (T1.setTop (mkF m 4 #[.val (.int x0)] [(.ref b1), (.ref b1)]))
  refine Goes.step (fun _ k => XS.iconst X1.here hx rfl (hb hby d3_4) k) ?_
  show Goes _ _ _ _ _ _ _ (T1.setTop (mkF m 5 #[.val (.int x0)] [(.int (0 : Int32)), (.ref b1), (.ref b1)]))
  refine Goes.step (fun _ k => XS.iloadN X1.here hx rfl (hb hby d3_5) rfl  k) ?_
  show Goes _ _ _ _ _ _ _ (T1.setTop (mkF m 6 #[.val (.int x0)] [(.int x0), (.int (0 : Int32)), (.ref b1), (.ref b1)]))
  refine Goes.step (fun _ k => XS.i2b X1.here hx rfl (hb hby d3_6) rfl k) ?_
  show Goes _ _ _ _ _ _ _ (T1.setTop (mkF m 7 #[.val (.int x0)] [(.int (x0.toInt8.toInt32)), (.int (0 : Int32)), (.ref b1), (.ref b1)]))
  obtain ⟨cl3, Ar3, q3, S3, P3, H3, G3⟩ := id V_b1
  have hin3 : ¬ ((0 : Int32) < 0 ∨ cl3.slots.size ≤ ((0 : Int32)).toNatClampNeg) := inb_of S3 ⟨by decide, by decide⟩
  obtain ⟨T4, h4, X4, e4, W4, st4⟩ := stB X1 hx hZ e1 Ar3 (j := (0 : Int32)) hin3 (g := (mkF m 7 #[.val (.int x0)] [(.int (x0.toInt8.toInt32)), (.int (0 : Int32)), (.ref b1), (.ref b1)])) rfl rfl (hb hby d3_7)
  refine Goes.step st4 ?_
  have V4 := Arv.set Ar3 q3 S3 P3 H3 G3 (fits_nar_byte _) W4 0 rfl (Nat.le_of_ble_eq_true rfl)
  have f5 := V4
  have K6 : Keep h0 h4 [] := K2.wr W4 (Or.inr sz_b1)
  have Z6 : n0 ≤ h4.size := by rw [Wr.size W4]; exact Z2
  have N6 := Fr.snoc X4 N0 g_b1
  show Goes _ _ _ _ _ _ _ (T4.setTop (mkF m 8 #[.val (.int x0)] [(.ref b1)]))
  exact Goes.ret X4 hx (BodyLoose.notSynchronized Bd) Bd.returns rfl (Or.inr (Or.inr (Or.inr (Or.inr ⟨rfl, rfl, rfl⟩)))) (hb hby d3_8) (by show Q3 Z x0 h0 n0 (some (.ref b1)) T4.heap _; rw [e4]; exact ⟨N6, K6, ⟨b1, k1, rfl, g_b1, sz_b1, f5⟩⟩) (by decide) (by decide)
theorem d4_0 : decode jdk_42_method_151_code 0 = .ok (.aload_n 0, 1) := by decide +kernel
theorem d4_1 : decode jdk_42_method_151_code 1 = .ok (.invokespecial 1, 3) := by decide +kernel
theorem d4_4 : decode jdk_42_method_151_code 4 = .ok (.aload_n 0, 1) := by decide +kernel
theorem d4_5 : decode jdk_42_method_151_code 5 = .ok (.aload_n 1, 1) := by decide +kernel
theorem d4_6 : decode jdk_42_method_151_code 6 = .ok (.putfield 9, 3) := by decide +kernel
theorem d4_9 : decode jdk_42_method_151_code 9 = .ok (.aload_n 0, 1) := by decide +kernel
theorem d4_10 : decode jdk_42_method_151_code 10 = .ok (.iload_n 2, 1) := by decide +kernel
theorem d4_11 : decode jdk_42_method_151_code 11 = .ok (.putfield 15, 3) := by decide +kernel
theorem d4_14 : decode jdk_42_method_151_code 14 = .ok (.return_, 1) := by decide +kernel
theorem pn_4 : plainName "java/lang/String" = true := by first | (simp [plainName, overriddenIn]; done) | decide +kernel
theorem ef_4 (m : MethodId) (x0 : Addr) (x1 : Addr)  : entryFrame m #[(.ref x0), (.ref x1), (.int (0 : Int32))] 3 = mkF m 0 #[.val (.ref x0), .val (.ref x1), .val (.int (0 : Int32))] [] := by first | (simp [entryFrame, mkF, argsToLocals, Value.category]; done) | rfl
def Q4 (Z : State) (x0 : Addr) (x1 : Addr) (h0 : Heap) (n0 : Nat) (v : Option Value) (h : Heap) (L : List Loc) : Prop := Fr n0 L ∧ Keep h0 h [x0] ∧ ((v = none ∧ Fld Z h x0 "java/lang/String" "value" "[B" (.ref x1) ∧ Fld Z h x0 "java/lang/String" "coder" "B" (.int (0 : Int32)) ∧ Exa Z h x0 "java/lang/String"))
set_option maxRecDepth 65536 in
set_option maxHeartbeats 40000000 in
theorem rm4 (l : Launch) (Z : State) (a0 : Array Value) (hw : ∀ d ∈ tables_1, d.before a0 Z = true) (ws : List Jvm.Cond) (x0 : Addr) (x1 : Addr) (h0 : Heap) (n0 : Nat) (Z0 : n0 ≤ h0.size) (F0_value : Fld Z h0 x0 "java/lang/String" "value" "[B" .null) (F0_coder : Fld Z h0 x0 "java/lang/String" "coder" "B" (.int (0 : Int32))) (E_x0 : Exa Z h0 x0 "java/lang/String") (g_x0 : n0 ≤ x0) :
    MetFree l (⟨"java/lang/String", "<init>", "([BB)V"⟩ : MethodName) (head1 (Jvm.Cond.code (⟨"java/lang/String", "<init>", "([BB)V"⟩ : MethodName) jdk_42_method_151_code 3 none :: ws) ({ frames := 1, cells := 0, slots := 0, locals := 12 } : Room)) (fun a U => a = #[(.ref x0), (.ref x1), (.int (0 : Int32))] ∧ Z.Warmed39 U.vm ∧ U.heap = h0) (fun _ _ _ _ _ => True) (fun _ U o U' => ∃ v L, o = .returned v ∧ Q4 Z x0 x1 h0 n0 v U'.heap L ∧ FrameEnd U o U' L ({ frames := 1, cells := 0, slots := 0, locals := 12 } : Room).cells ({ frames := 1, cells := 0, slots := 0, locals := 12 } : Room).slots) := by
  refine MetFree.of_bodySF (plainFor_of_name pn_4) hisR ?_
  intro p e s m args below meth c s₁ Bd hml0 hP hK
  obtain ⟨rfl, hZ, hh⟩ := hP
  have hx := Bd.exec
  have hby := Bd.bytes
  have hml : c.maxLocals = 3 := hml0
  have hown : s.vm.findClass "java/lang/String" = some m.cls := findClass_of_methodNamed Bd.named
  have hnm := (name_of_methodNamed Bd.named Bd.method).1
  have X0 : Stand p l e ({ frames := 1, cells := 0, slots := 0, locals := 12 } : Room) s m #[(.ref x0), (.ref x1), (.int (0 : Int32))] below meth c s₁ [] 0 0 := Stand.of_body Bd
  have e0 : s₁.heap = h0 := by rw [← hh, Bd.state]; rfl
  have N0 := Fr.nil n0
  have K0 : Keep h0 h0 [x0] := Keep.refl h0 _
  refine (?_ : Goes p e below s ({ frames := 1, cells := 0, slots := 0, locals := 12 } : Room).cells ({ frames := 1, cells := 0, slots := 0, locals := 12 } : Room).slots (fun v h L => Q4 Z x0 x1 h0 n0 v h L) (s₁.setTop (entryFrame m #[(.ref x0), (.ref x1), (.int (0 : Int32))] 3)))
  rw [ef_4 m x0 x1 ]
  show Goes _ _ _ _ _ _ _ (s₁.setTop (mkF m 0 #[.val (.ref x0), .val (.ref x1), .val (.int (0 : Int32))] []))
  refine Goes.step (fun _ k => XS.aloadN X0.here hx rfl (hb hby d4_0) rfl rfl k) ?_
  show Goes _ _ _ _ _ _ _ (s₁.setTop (mkF m 1 #[.val (.ref x0), .val (.ref x1), .val (.int (0 : Int32))] [(.ref x0)]))
  obtain ⟨T1, X1, e1, st1⟩ := initO X0 hx hZ hown (hw _ (List.mem_of_getElem? (i := 20) rfl)) (hw _ (List.mem_of_getElem? (i := 21) rfl)) (hw _ (List.mem_of_getElem? (i := 22) rfl)) e0 (g := (mkF m 1 #[.val (.ref x0), .val (.ref x1), .val (.int (0 : Int32))] [(.ref x0)])) rfl (by rw [hml]; rfl) rfl (hb hby d4_1) (by decide) (W := 0) (by show 2 * 0 + _ ≤ _; exact Nat.le_of_eq rfl) (by decide)
  refine Goes.step st1 ?_
  show Goes _ _ _ _ _ _ _ (T1.setTop (mkF m 4 #[.val (.ref x0), .val (.ref x1), .val (.int (0 : Int32))] []))
  refine Goes.step (fun _ k => XS.aloadN X1.here hx rfl (hb hby d4_4) rfl rfl k) ?_
  show Goes _ _ _ _ _ _ _ (T1.setTop (mkF m 5 #[.val (.ref x0), .val (.ref x1), .val (.int (0 : Int32))] [(.ref x0)]))
  refine Goes.step (fun _ k => XS.aloadN X1.here hx rfl (hb hby d4_5) rfl rfl k) ?_
  show Goes _ _ _ _ _ _ _ (T1.setTop (mkF m 6 #[.val (.ref x0), .val (.ref x1), .val (.int (0 : Int32))] [(.ref x1), (.ref x0)]))
  obtain ⟨T2, h2, X2, e2, W2, st2⟩ := putF X1 hx hZ hown (host := "") (Or.inl (hw _ (List.mem_of_getElem? (i := 23) rfl))) Via.refl e1 F0_value E_x0 (Or.inr ⟨(hw _ (List.mem_of_getElem? (i := 24) rfl)), rfl, hnm⟩) (hw _ (List.mem_of_getElem? (i := 11) rfl)) (ty := (.array .byte)) (by decide) rfl rfl (g := (mkF m 6 #[.val (.ref x0), .val (.ref x1), .val (.int (0 : Int32))] [(.ref x1), (.ref x0)])) rfl rfl (hb hby d4_6)
  refine Goes.step st2 ?_
  have f3 := F0_value.same W2
  have f4 := F0_coder.other W2 (Or.inr (slot_ne (Or.inr (hw _ (List.mem_of_getElem? (i := 26) rfl))) (Or.inr (hw _ (List.mem_of_getElem? (i := 24) rfl))) (by decide) (t := .byte) (t' := (.array .byte)) (by decide) (by decide)))
  have f5 := E_x0.wr W2
  have K6 : Keep h0 h2 [x0] := K0.wr W2 (Or.inl (List.mem_of_getElem? (i := 0) rfl))
  have Z6 : n0 ≤ h2.size := by rw [Wr.size W2]; exact Z0
  have N6 := Fr.snoc X2 N0 g_x0
  show Goes _ _ _ _ _ _ _ (T2.setTop (mkF m 9 #[.val (.ref x0), .val (.ref x1), .val (.int (0 : Int32))] []))
  refine Goes.step (fun _ k => XS.aloadN X2.here hx rfl (hb hby d4_9) rfl rfl k) ?_
  show Goes _ _ _ _ _ _ _ (T2.setTop (mkF m 10 #[.val (.ref x0), .val (.ref x1), .val (.int (0 : Int32))] [(.ref x0)]))
  refine Goes.step (fun _ k => XS.iloadN X2.here hx rfl (hb hby d4_10) rfl  k) ?_
  show Goes _ _ _ _ _ _ _ (T2.setTop (mkF m 11 #[.val (.ref x0), .val (.ref x1), .val (.int (0 : Int32))] [(.int (0 : Int32)), (.ref x0)]))
  obtain ⟨T7, h7, X7, e7, W7, st7⟩ := putF X2 hx hZ hown (host := "") (Or.inl (hw _ (List.mem_of_getElem? (i := 25) rfl))) Via.refl e2 f4 f5 (Or.inr ⟨(hw _ (List.mem_of_getElem? (i := 26) rfl)), rfl, hnm⟩) (hw _ (List.mem_of_getElem? (i := 11) rfl)) (ty := .byte) (by decide) rfl rfl (g := (mkF m 11 #[.val (.ref x0), .val (.ref x1), .val (.int (0 : Int32))] [(.int (0 : Int32)), (.ref x0)])) rfl rfl (hb hby d4_11)
  refine Goes.step st7 ?_
  have f8 := f3.other W7 (Or.inr (slot_ne (Or.inr (hw _ (List.mem_of_getElem? (i := 24) rfl))) (Or.inr (hw _ (List.mem_of_getElem? (i := 26) rfl))) (by decide) (t := (.array .byte)) (t' := .byte) (by decide) (by decide)))
  have f9 := f4.same W7
  have f10 := f5.wr W7
  have K11 : Keep h0 h7 [x0] := K6.wr W7 (Or.inl (List.mem_of_getElem? (i := 0) rfl))
  have Z11 : n0 ≤ h7.size := by rw [Wr.size W7]; exact Z6
  have N11 := Fr.snoc X7 N6 g_x0
  show Goes _ _ _ _ _ _ _ (T7.setTop (mkF m 14 #[.val (.ref x0), .val (.ref x1), .val (.int (0 : Int32))] []))
  exact Goes.retV X7 hx (BodyLoose.notSynchronized Bd) Bd.returns (hb hby d4_14) (by show Q4 Z x0 x1 h0 n0 none T7.heap _; rw [e7]; exact ⟨N11, K11, ⟨rfl, f8, f9, f10⟩⟩) (by decide) (by decide)
theorem d1_0 : decode jdk_42_method_139_code 0 = .ok (.getstatic 38, 3) := by decide +kernel
theorem d1_3 : decode jdk_42_method_139_code 3 = .ok (.ifCond .eq 23, 3) := by decide +kernel
theorem d1_6 : decode jdk_42_method_139_code 6 = .ok (.iload_n 0, 1) := by decide +kernel
theorem d1_7 : decode jdk_42_method_139_code 7 = .ok (.invokestatic 1015, 3) := by decide +kernel
theorem d1_10 : decode jdk_42_method_139_code 10 = .ok (.ifCond .eq 16, 3) := by decide +kernel
theorem d1_13 : decode jdk_42_method_139_code 13 = .ok (.new 10, 3) := by decide +kernel
theorem d1_16 : decode jdk_42_method_139_code 16 = .ok (.dup, 1) := by decide +kernel
theorem d1_17 : decode jdk_42_method_139_code 17 = .ok (.iload_n 0, 1) := by decide +kernel
theorem d1_18 : decode jdk_42_method_139_code 18 = .ok (.invokestatic 1018, 3) := by decide +kernel
theorem d1_21 : decode jdk_42_method_139_code 21 = .ok (.iconst 0, 1) := by decide +kernel
theorem d1_22 : decode jdk_42_method_139_code 22 = .ok (.invokespecial 209, 3) := by decide +kernel
theorem d1_25 : decode jdk_42_method_139_code 25 = .ok (.areturn, 1) := by decide +kernel
theorem pn_1 : plainName "java/lang/String" = true := by first | (simp [plainName, overriddenIn]; done) | decide +kernel
theorem ef_1 (m : MethodId) (x0 : Int32) (y_COMPACT_STRINGS : Int32)  : entryFrame m #[(.int x0)] 1 = mkF m 0 #[.val (.int x0)] [] := by first | (simp [entryFrame, mkF, argsToLocals, Value.category]; done) | rfl
theorem pd_1 : parseMethodDescriptor "(C)Z" = some ⟨[.char], some .boolean⟩ := by decide +kernel
theorem pd_2 : parseMethodDescriptor "(C)[B" = some ⟨[.char], some (.array .byte)⟩ := by decide +kernel
theorem pd_3 : parseMethodDescriptor "([BB)V" = some ⟨[(.array .byte), .byte], none⟩ := by decide +kernel
def Q1 (Z : State) (x0 : Int32) (y_COMPACT_STRINGS : Int32) (h0 : Heap) (n0 : Nat) (v : Option Value) (h : Heap) (L : List Loc) : Prop := Fr n0 L ∧ Keep h0 h [] ∧ ((∃ (r_0 : Addr) (r_1 : Addr) (k_0 : ClassId), v = some (.ref r_0) ∧ ¬ ((255 : Int32) < x0) ∧ n0 ≤ r_0 ∧ h0.size ≤ r_0 ∧ n0 ≤ r_1 ∧ h0.size ≤ r_1 ∧ r_1 ≠ r_0 ∧ Exa Z h r_0 "java/lang/String" ∧ Arv Z h r_1 k_0 .byte (1 : Int32) [(.int (nar .byte (x0.toInt8.toInt32)))] (.int (0 : Int32)) ∧ Fld Z h r_0 "java/lang/String" "coder" "B" (.int (0 : Int32))))
set_option maxRecDepth 65536 in
set_option maxHeartbeats 40000000 in
theorem rm1 (l : Launch) (Z : State) (a0 : Array Value) (hw : ∀ d ∈ tables_1, d.before a0 Z = true) (ws : List Jvm.Cond) (x0 : Int32) (y_COMPACT_STRINGS : Int32) (h0 : Heap) (n0 : Nat) (Z0 : n0 ≤ h0.size) (S_COMPACT_STRINGS : Sta Z Z.heap "java/lang/String" "COMPACT_STRINGS" "Z" (.int y_COMPACT_STRINGS)) (X00 : Old Z n0 h0) (P5 : ¬ (y_COMPACT_STRINGS = (0 : Int32))) (hch : ¬ (255 : Int32) < x0) :
    MetFree l (⟨"java/lang/String", "valueOf", "(C)Ljava/lang/String;"⟩ : MethodName) (head1 (Jvm.Cond.code (⟨"java/lang/String", "valueOf", "(C)Ljava/lang/String;"⟩ : MethodName) jdk_42_method_139_code 1 (some (.object "java/lang/String")) :: ws) ({ frames := 2, cells := 2, slots := 5, locals := 27 } : Room)) (fun a U => a = #[(.int x0)] ∧ Z.Warmed39 U.vm ∧ U.heap = h0) (fun _ _ _ _ _ => True) (fun _ U o U' => ∃ v L, o = .returned v ∧ Q1 Z x0 y_COMPACT_STRINGS h0 n0 v U'.heap L ∧ FrameEnd U o U' L ({ frames := 2, cells := 2, slots := 5, locals := 27 } : Room).cells ({ frames := 2, cells := 2, slots := 5, locals := 27 } : Room).slots) := by
  refine MetFree.of_bodySF (plainFor_of_name pn_1) hisR ?_
  intro p e s m args below meth c s₁ Bd hml0 hP hK
  obtain ⟨rfl, hZ, hh⟩ := hP
  have hx := Bd.exec
  have hby := Bd.bytes
  have hml : c.maxLocals = 1 := hml0
  have hown : s.vm.findClass "java/lang/String" = some m.cls := findClass_of_methodNamed Bd.named
  have hnm := (name_of_methodNamed Bd.named Bd.method).1
  have X0 : Stand p l e ({ frames := 2, cells := 2, slots := 5, locals := 27 } : Room) s m #[(.int x0)] below meth c s₁ [] 0 0 := Stand.of_body Bd
  have e0 : s₁.heap = h0 := by rw [← hh, Bd.state]; rfl
  have N0 := Fr.nil n0
  have K0 : Keep h0 h0 [] := Keep.refl h0 _
  refine (?_ : Goes p e below s ({ frames := 2, cells := 2, slots := 5, locals := 27 } : Room).cells ({ frames := 2, cells := 2, slots := 5, locals := 27 } : Room).slots (fun v h L => Q1 Z x0 y_COMPACT_STRINGS h0 n0 v h L) (s₁.setTop (entryFrame m #[(.int x0)] 1)))
  rw [ef_1 m x0 y_COMPACT_STRINGS ]
  show Goes _ _ _ _ _ _ _ (s₁.setTop (mkF m 0 #[.val (.int x0)] []))
  obtain ⟨T1, X1, e1, st1⟩ := getS2 X0 hx hZ hown (host := "") (Or.inl (hw _ (List.mem_of_getElem? (i := 5) rfl))) Via.refl e0 (S_COMPACT_STRINGS.ext X00.2) (g := (mkF m 0 #[.val (.int x0)] [])) rfl (hb hby d1_0)
  refine Goes.step st1 ?_
  show Goes _ _ _ _ _ _ _ (T1.setTop (mkF m 3 #[.val (.int x0)] [(.int y_COMPACT_STRINGS)]))
  refine Goes.step (fun _ k => XS.ifNo X1.here hx rfl (hb hby d1_3) rfl ((if0 _ _).trans (feq P5).1) k) ?_
  show Goes _ _ _ _ _ _ _ (T1.setTop (mkF m 6 #[.val (.int x0)] []))
  refine Goes.step (fun _ k => XS.iloadN X1.here hx rfl (hb hby d1_6) rfl  k) ?_
  show Goes _ _ _ _ _ _ _ (T1.setTop (mkF m 7 #[.val (.int x0)] [(.int x0)]))
  obtain ⟨_, _, ⟨T2, L2, k2, n2⟩, -, X2, ⟨Lc2, hQ2, l2, y2, z2⟩, st2⟩ := Jvm.LawKit.callS X1 hx (y := (⟨"java/lang/StringLatin1", "canEncode", "(C)Z"⟩ : MethodName)) hown (mvT hZ (hw _ (List.mem_of_getElem? (i := 6) rfl))) (mvT hZ (hw _ (List.mem_of_getElem? (i := 7) rfl))) (mvT hZ (hw _ (List.mem_of_getElem? (i := 8) rfl))) (mvT hZ (hw _ (List.mem_of_getElem? (i := 9) rfl))) (by decide) (backOf (W := 0) (rm2 l Z a0 hw [] x0 h0 n0 Z0 ) hZ (hw _ (List.mem_of_getElem? (i := 9) rfl)) (hw _ (List.mem_of_getElem? (i := 8) rfl)) (by decide) (by decide)) (g := (mkF m 7 #[.val (.int x0)] [(.int x0)])) rfl (by rw [hml]; rfl) (argsL := [(.int x0)]) (rest := []) (lenOf pd_1 rfl) rfl (by show 2 * 0 + _ ≤ _; exact Nat.le_of_eq rfl) (hb hby d1_7) (fun _ _ => ⟨rfl, e1, (by decide : 0 + 0 ≤ _), (by decide : 0 + 0 ≤ _)⟩)
  dsimp only [Pt.U, Pt.locs, Pt.cells, Pt.slots] at X2 l2 y2 z2 st2 hQ2
  subst l2 y2 z2
  obtain ⟨N2, eh2, hR2⟩ := hQ2
  have NA2 := Fr.app N0 N2
  rcases hR2 with ⟨rfl, u2_0_0⟩ | ⟨rfl, u2_1_0⟩
  · exact absurd u2_0_0 hch
  · refine Goes.step st2 ?_
    show Goes _ _ _ _ _ _ _ (T2.setTop (mkF m 10 #[.val (.int x0)] [(.int (1 : Int32))]))
    refine Goes.step (fun _ k => XS.ifNo X2.here hx rfl (hb hby d1_10) rfl ((if0 _ _).trans (feq (by decide : ¬ ((1 : Int32) = (0 : Int32)))).1) k) ?_
    show Goes _ _ _ _ _ _ _ (T2.setTop (mkF m 13 #[.val (.int x0)] []))
    obtain ⟨T3, h3, X3, e3, E3, A3, D3, -, st3⟩ := newO X2 hx hZ hown (hw _ (List.mem_of_getElem? (i := 10) rfl)) (hw _ (List.mem_of_getElem? (i := 11) rfl)) (hw _ (List.mem_of_getElem? (i := 3) rfl)) eh2 (g := (mkF m 13 #[.val (.int x0)] [])) rfl (hb hby d1_13) (by decide) (by decide)
    obtain ⟨b3, g3⟩ : ∃ z, z = h0.size := ⟨_, rfl⟩
    rw [← g3] at A3 D3 st3
    refine Goes.step st3 ?_
    have g_b3 : n0 ≤ b3 := Nat.le_trans Z0 (Nat.le_of_eq g3.symm)
    have sz_b3 : h0.size ≤ b3 := Nat.le_trans K0.1 (Nat.le_of_eq g3.symm)
    have XO4 : Old Z n0 h3 := X00.ext E3
    have K5 : Keep h0 h3 [] := K0.ext E3
    have Z5 : n0 ≤ h3.size := Nat.le_trans Z0 E3.1
    have E_b3 := A3
    have F_value_b3 : Fld Z h3 b3 "java/lang/String" "value" "[B" .null := D3 (Or.inr (hw _ (List.mem_of_getElem? (i := 24) rfl))) (ty := (.array .byte)) (by decide)
    have F_coder_b3 : Fld Z h3 b3 "java/lang/String" "coder" "B" (.int (0 : Int32)) := D3 (Or.inr (hw _ (List.mem_of_getElem? (i := 26) rfl))) (ty := .byte) (by decide)
    show Goes _ _ _ _ _ _ _ (T3.setTop (mkF m 16 #[.val (.int x0)] [(.ref b3)]))
    refine Goes.step (fun _ k => XS.dup X3.here hx rfl (hb hby d1_16) rfl rfl k) ?_
    show Goes _ _ _ _ _ _ _ (T3.setTop (mkF m 17 #[.val (.int x0)] [(.ref b3), (.ref b3)]))
    refine Goes.step (fun _ k => XS.iloadN X3.here hx rfl (hb hby d1_17) rfl  k) ?_
    show Goes _ _ _ _ _ _ _ (T3.setTop (mkF m 18 #[.val (.int x0)] [(.int x0), (.ref b3), (.ref b3)]))
    obtain ⟨_, _, ⟨T6, L6, k6, n6⟩, -, X6, ⟨Lc6, hQ6, l6, y6, z6⟩, st6⟩ := Jvm.LawKit.callS X3 hx (y := (⟨"java/lang/StringLatin1", "toBytes", "(C)[B"⟩ : MethodName)) hown (mvT hZ (hw _ (List.mem_of_getElem? (i := 12) rfl))) (mvT hZ (hw _ (List.mem_of_getElem? (i := 13) rfl))) (mvT hZ (hw _ (List.mem_of_getElem? (i := 8) rfl))) (mvT hZ (hw _ (List.mem_of_getElem? (i := 14) rfl))) (by decide) (backOf (W := 2) (rm3 l Z a0 hw [] x0 h3 n0 Z5 ) hZ (hw _ (List.mem_of_getElem? (i := 14) rfl)) (hw _ (List.mem_of_getElem? (i := 8) rfl)) (by decide) (by decide)) (g := (mkF m 18 #[.val (.int x0)] [(.int x0), (.ref b3), (.ref b3)])) rfl (by rw [hml]; rfl) (argsL := [(.int x0)]) (rest := [(.ref b3), (.ref b3)]) (lenOf pd_2 rfl) rfl (by show 2 * 0 + _ ≤ _; exact Nat.le_of_eq rfl) (hb hby d1_18) (fun _ _ => ⟨rfl, e3, (by decide : 1 + 1 ≤ _), (by decide : 4 + 1 ≤ _)⟩)
    dsimp only [Pt.U, Pt.locs, Pt.cells, Pt.slots] at X6 l6 y6 z6 st6 hQ6
    subst l6 y6 z6
    obtain ⟨N6, KK6, hR6⟩ := hQ6
    have NA6 := Fr.app NA2 N6
    have XO7 : Old Z n0 T6.heap := XO4.keep KK6 all0
    have f8 := E_b3.keep KK6
    have f9 := F_value_b3.keep KK6 nin0
    have f10 := F_coder_b3.keep KK6 nin0
    have K11 : Keep h0 T6.heap [] := K5.trans KK6 all0
    have Z11 : n0 ≤ T6.heap.size := Nat.le_trans Z5 KK6.1
    obtain ⟨r6_0_0, kk6_0_0, rfl, g_r6_0_0, le_r6_0_0, v6_0_0⟩ := hR6
    have ne12 : b3 ≠ r6_0_0 := Nat.ne_of_lt (Nat.lt_of_lt_of_le E_b3.lt le_r6_0_0)
    have sz_r6_0_0 : h0.size ≤ r6_0_0 := Nat.le_trans K5.1 le_r6_0_0
    refine Goes.step st6 ?_
    show Goes _ _ _ _ _ _ _ (T6.setTop (mkF m 21 #[.val (.int x0)] [(.ref r6_0_0), (.ref b3), (.ref b3)]))
    refine Goes.step (fun _ k => XS.iconst X6.here hx rfl (hb hby d1_21) k) ?_
    show Goes _ _ _ _ _ _ _ (T6.setTop (mkF m 22 #[.val (.int x0)] [(.int (0 : Int32)), (.ref r6_0_0), (.ref b3), (.ref b3)]))
    obtain ⟨_, _, ⟨T13, L13, k13, n13⟩, -, X13, ⟨Lc13, hQ13, l13, y13, z13⟩, st13⟩ := X6.specialBack hx (y := (⟨"java/lang/String", "<init>", "([BB)V"⟩ : MethodName)) rfl hown (mvT hZ (hw _ (List.mem_of_getElem? (i := 16) rfl))) (mvT hZ (hw _ (List.mem_of_getElem? (i := 17) rfl))) (mvT hZ (hw _ (List.mem_of_getElem? (i := 19) rfl))) (by decide) (backOf (W := 1) (rm4 l Z a0 hw [] b3 r6_0_0 T6.heap n0 Z11 f9 f10 f8 g_b3) hZ (hw _ (List.mem_of_getElem? (i := 19) rfl)) (hw _ (List.mem_of_getElem? (i := 3) rfl)) (by decide) (by decide)) (g := (mkF m 22 #[.val (.int x0)] [(.int (0 : Int32)), (.ref r6_0_0), (.ref b3), (.ref b3)])) rfl (by rw [hml]; rfl) (Steps.refl _) (a := b3) (argsL := [(.ref r6_0_0), (.int (0 : Int32))]) (rest := [(.ref b3)]) (lenOf pd_3 rfl) rfl (by show 2 * 0 + _ ≤ _; exact Nat.le_of_eq rfl) (hb hby d1_22) (fun _ _ => ⟨rfl, rfl, (by decide : 2 + 0 ≤ _), (by decide : 5 + 0 ≤ _)⟩)
    dsimp only [Pt.U, Pt.locs, Pt.cells, Pt.slots] at X13 l13 y13 z13 st13 hQ13
    subst l13 y13 z13
    obtain ⟨N13, KK13, hR13⟩ := hQ13
    have NA13 := Fr.app NA6 N13
    have XO14 : Old Z n0 T13.heap := XO7.keep KK13 (allS g_b3 all0)
    have f15 := f8.keep KK13
    have f18 := v6_0_0.keep KK13 (ninS (Ne.symm ne12) nin0)
    have K19 : Keep h0 T13.heap [] := K11.trans KK13 (allS (Or.inr sz_b3) all0)
    have Z19 : n0 ≤ T13.heap.size := Nat.le_trans Z11 KK13.1
    obtain ⟨rfl, v13_0_0, v13_0_1, v13_0_2⟩ := hR13
    refine Goes.back st13 ?_
    show Goes _ _ _ _ _ _ _ (T13.setTop (mkF m 25 #[.val (.int x0)] [(.ref b3)]))
    exact Goes.ret X13 hx (BodyLoose.notSynchronized Bd) Bd.returns rfl (Or.inr (Or.inr (Or.inr (Or.inr ⟨rfl, rfl, rfl⟩)))) (hb hby d1_25) (by show Q1 Z x0 y_COMPACT_STRINGS h0 n0 (some (.ref b3)) T13.heap _; exact ⟨NA13, K19, ⟨b3, r6_0_0, kk6_0_0, rfl, u2_1_0, g_b3, sz_b3, g_r6_0_0, sz_r6_0_0, (Ne.symm ne12), v13_0_2, f18, v13_0_1⟩⟩) (by decide) (by decide)
theorem d9_0 : decode jdk_22_method_1_code 0 = .ok (.aload_n 0, 1) := by decide +kernel
theorem d9_1 : decode jdk_22_method_1_code 1 = .ok (.invokespecial 1, 3) := by decide +kernel
theorem d9_4 : decode jdk_22_method_1_code 4 = .ok (.return_, 1) := by decide +kernel
theorem pn_9 : plainName "java/util/AbstractCollection" = true := by first | (simp [plainName, overriddenIn]; done) | decide +kernel
theorem ef_9 (m : MethodId) (x0 : Addr)  : entryFrame m #[(.ref x0)] 1 = mkF m 0 #[.val (.ref x0)] [] := by first | (simp [entryFrame, mkF, argsToLocals, Value.category]; done) | rfl
def Q9 (Z : State) (x0 : Addr) (h0 : Heap) (n0 : Nat) (v : Option Value) (h : Heap) (L : List Loc) : Prop := Fr n0 L ∧ h = h0 ∧ ((v = none))
set_option maxRecDepth 65536 in
set_option maxHeartbeats 40000000 in
theorem rm9 (l : Launch) (Z : State) (a0 : Array Value) (hw : ∀ d ∈ tables_1, d.before a0 Z = true) (ws : List Jvm.Cond) (x0 : Addr) (h0 : Heap) (n0 : Nat) (Z0 : n0 ≤ h0.size) :
    MetFree l (⟨"java/util/AbstractCollection", "<init>", "()V"⟩ : MethodName) (head1 (Jvm.Cond.code (⟨"java/util/AbstractCollection", "<init>", "()V"⟩ : MethodName) jdk_22_method_1_code 1 none :: ws) ({ frames := 1, cells := 0, slots := 0, locals := 12 } : Room)) (fun a U => a = #[(.ref x0)] ∧ Z.Warmed39 U.vm ∧ U.heap = h0) (fun _ _ _ _ _ => True) (fun _ U o U' => ∃ v L, o = .returned v ∧ Q9 Z x0 h0 n0 v U'.heap L ∧ FrameEnd U o U' L ({ frames := 1, cells := 0, slots := 0, locals := 12 } : Room).cells ({ frames := 1, cells := 0, slots := 0, locals := 12 } : Room).slots) := by
  refine MetFree.of_bodySF (plainFor_of_name pn_9) hisR ?_
  intro p e s m args below meth c s₁ Bd hml0 hP hK
  obtain ⟨rfl, hZ, hh⟩ := hP
  have hx := Bd.exec
  have hby := Bd.bytes
  have hml : c.maxLocals = 1 := hml0
  have hown : s.vm.findClass "java/util/AbstractCollection" = some m.cls := findClass_of_methodNamed Bd.named
  have hnm := (name_of_methodNamed Bd.named Bd.method).1
  have X0 : Stand p l e ({ frames := 1, cells := 0, slots := 0, locals := 12 } : Room) s m #[(.ref x0)] below meth c s₁ [] 0 0 := Stand.of_body Bd
  have e0 : s₁.heap = h0 := by rw [← hh, Bd.state]; rfl
  have N0 := Fr.nil n0
  have K0 : Keep h0 h0 [] := Keep.refl h0 _
  refine (?_ : Goes p e below s ({ frames := 1, cells := 0, slots := 0, locals := 12 } : Room).cells ({ frames := 1, cells := 0, slots := 0, locals := 12 } : Room).slots (fun v h L => Q9 Z x0 h0 n0 v h L) (s₁.setTop (entryFrame m #[(.ref x0)] 1)))
  rw [ef_9 m x0 ]
  show Goes _ _ _ _ _ _ _ (s₁.setTop (mkF m 0 #[.val (.ref x0)] []))
  refine Goes.step (fun _ k => XS.aloadN X0.here hx rfl (hb hby d9_0) rfl rfl k) ?_
  show Goes _ _ _ _ _ _ _ (s₁.setTop (mkF m 1 #[.val (.ref x0)] [(.ref x0)]))
  obtain ⟨T1, X1, e1, st1⟩ := initO X0 hx hZ hown (hw _ (List.mem_of_getElem? (i := 52) rfl)) (hw _ (List.mem_of_getElem? (i := 21) rfl)) (hw _ (List.mem_of_getElem? (i := 22) rfl)) e0 (g := (mkF m 1 #[.val (.ref x0)] [(.ref x0)])) rfl (by rw [hml]; rfl) rfl (hb hby d9_1) (by decide) (W := 0) (by show 2 * 0 + _ ≤ _; exact Nat.le_of_eq rfl) (by decide)
  refine Goes.step st1 ?_
  show Goes _ _ _ _ _ _ _ (T1.setTop (mkF m 4 #[.val (.ref x0)] []))
  exact Goes.retV X1 hx (BodyLoose.notSynchronized Bd) Bd.returns (hb hby d9_4) (by show Q9 Z x0 h0 n0 none T1.heap _; rw [e1]; exact ⟨N0, rfl, rfl⟩) (by decide) (by decide)
theorem d8_0 : decode jdk_39_method_1_code 0 = .ok (.aload_n 0, 1) := by decide +kernel
theorem d8_1 : decode jdk_39_method_1_code 1 = .ok (.invokespecial 1, 3) := by decide +kernel
theorem d8_4 : decode jdk_39_method_1_code 4 = .ok (.aload_n 0, 1) := by decide +kernel
theorem d8_5 : decode jdk_39_method_1_code 5 = .ok (.iconst 0, 1) := by decide +kernel
theorem d8_6 : decode jdk_39_method_1_code 6 = .ok (.putfield 7, 3) := by decide +kernel
theorem d8_9 : decode jdk_39_method_1_code 9 = .ok (.return_, 1) := by decide +kernel
theorem pn_8 : plainName "java/util/AbstractList" = true := by first | (simp [plainName, overriddenIn]; done) | decide +kernel
theorem ef_8 (m : MethodId) (x0 : Addr) (f0_modCount : Int32)  : entryFrame m #[(.ref x0)] 1 = mkF m 0 #[.val (.ref x0)] [] := by first | (simp [entryFrame, mkF, argsToLocals, Value.category]; done) | rfl
theorem pd_4 : parseMethodDescriptor "()V" = some ⟨[], none⟩ := by decide +kernel
def Q8 (Z : State) (x0 : Addr) (f0_modCount : Int32) (h0 : Heap) (n0 : Nat) (v : Option Value) (h : Heap) (L : List Loc) : Prop := Fr n0 L ∧ Keep h0 h [x0] ∧ ((v = none ∧ Fld Z h x0 "java/util/AbstractList" "modCount" "I" (.int (0 : Int32)) ∧ Fld Z h x0 "java/util/ArrayList" "elementData" "[Ljava/lang/Object;" .null ∧ Fld Z h x0 "java/util/ArrayList" "size" "I" (.int (0 : Int32)) ∧ Exa Z h x0 "java/util/ArrayList"))
set_option maxRecDepth 65536 in
set_option maxHeartbeats 40000000 in
theorem rm8 (l : Launch) (Z : State) (a0 : Array Value) (hw : ∀ d ∈ tables_1, d.before a0 Z = true) (ws : List Jvm.Cond) (x0 : Addr) (f0_modCount : Int32) (h0 : Heap) (n0 : Nat) (Z0 : n0 ≤ h0.size) (F0_modCount : Fld Z h0 x0 "java/util/AbstractList" "modCount" "I" (.int f0_modCount)) (F0_elementData : Fld Z h0 x0 "java/util/ArrayList" "elementData" "[Ljava/lang/Object;" .null) (F0_size : Fld Z h0 x0 "java/util/ArrayList" "size" "I" (.int (0 : Int32))) (E_x0 : Exa Z h0 x0 "java/util/ArrayList") (g_x0 : n0 ≤ x0) :
    MetFree l (⟨"java/util/AbstractList", "<init>", "()V"⟩ : MethodName) (head1 (Jvm.Cond.code (⟨"java/util/AbstractList", "<init>", "()V"⟩ : MethodName) jdk_39_method_1_code 1 none :: ws) ({ frames := 2, cells := 0, slots := 0, locals := 24 } : Room)) (fun a U => a = #[(.ref x0)] ∧ Z.Warmed39 U.vm ∧ U.heap = h0) (fun _ _ _ _ _ => True) (fun _ U o U' => ∃ v L, o = .returned v ∧ Q8 Z x0 f0_modCount h0 n0 v U'.heap L ∧ FrameEnd U o U' L ({ frames := 2, cells := 0, slots := 0, locals := 24 } : Room).cells ({ frames := 2, cells := 0, slots := 0, locals := 24 } : Room).slots) := by
  refine MetFree.of_bodySF (plainFor_of_name pn_8) hisR ?_
  intro p e s m args below meth c s₁ Bd hml0 hP hK
  obtain ⟨rfl, hZ, hh⟩ := hP
  have hx := Bd.exec
  have hby := Bd.bytes
  have hml : c.maxLocals = 1 := hml0
  have hown : s.vm.findClass "java/util/AbstractList" = some m.cls := findClass_of_methodNamed Bd.named
  have hnm := (name_of_methodNamed Bd.named Bd.method).1
  have X0 : Stand p l e ({ frames := 2, cells := 0, slots := 0, locals := 24 } : Room) s m #[(.ref x0)] below meth c s₁ [] 0 0 := Stand.of_body Bd
  have e0 : s₁.heap = h0 := by rw [← hh, Bd.state]; rfl
  have N0 := Fr.nil n0
  have K0 : Keep h0 h0 [x0] := Keep.refl h0 _
  refine (?_ : Goes p e below s ({ frames := 2, cells := 0, slots := 0, locals := 24 } : Room).cells ({ frames := 2, cells := 0, slots := 0, locals := 24 } : Room).slots (fun v h L => Q8 Z x0 f0_modCount h0 n0 v h L) (s₁.setTop (entryFrame m #[(.ref x0)] 1)))
  rw [ef_8 m x0 f0_modCount ]
  show Goes _ _ _ _ _ _ _ (s₁.setTop (mkF m 0 #[.val (.ref x0)] []))
  refine Goes.step (fun _ k => XS.aloadN X0.here hx rfl (hb hby d8_0) rfl rfl k) ?_
  show Goes _ _ _ _ _ _ _ (s₁.setTop (mkF m 1 #[.val (.ref x0)] [(.ref x0)]))
  obtain ⟨_, _, ⟨T1, L1, k1, n1⟩, -, X1, ⟨Lc1, hQ1, l1, y1, z1⟩, st1⟩ := X0.specialBack hx (y := (⟨"java/util/AbstractCollection", "<init>", "()V"⟩ : MethodName)) rfl hown (mvT hZ (hw _ (List.mem_of_getElem? (i := 46) rfl))) (mvT hZ (hw _ (List.mem_of_getElem? (i := 47) rfl))) (mvT hZ (hw _ (List.mem_of_getElem? (i := 51) rfl))) (by decide) (backOf (W := 0) (rm9 l Z a0 hw [] x0 h0 n0 Z0 ) hZ (hw _ (List.mem_of_getElem? (i := 51) rfl)) (hw _ (List.mem_of_getElem? (i := 50) rfl)) (by decide) (by decide)) (g := (mkF m 1 #[.val (.ref x0)] [(.ref x0)])) rfl (by rw [hml]; rfl) (Steps.refl _) (a := x0) (argsL := []) (rest := []) (lenOf pd_4 rfl) rfl (by show 2 * 0 + _ ≤ _; exact Nat.le_of_eq rfl) (hb hby d8_1) (fun _ _ => ⟨rfl, e0, (by decide : 0 + 0 ≤ _), (by decide : 0 + 0 ≤ _)⟩)
  dsimp only [Pt.U, Pt.locs, Pt.cells, Pt.slots] at X1 l1 y1 z1 st1 hQ1
  subst l1 y1 z1
  obtain ⟨N1, KK1, hR1⟩ := hQ1
  have NA1 := Fr.app N0 N1
  obtain rfl := hR1
  refine Goes.back st1 ?_
  show Goes _ _ _ _ _ _ _ (T1.setTop (mkF m 4 #[.val (.ref x0)] []))
  refine Goes.step (fun _ k => XS.aloadN X1.here hx rfl (hb hby d8_4) rfl rfl k) ?_
  show Goes _ _ _ _ _ _ _ (T1.setTop (mkF m 5 #[.val (.ref x0)] [(.ref x0)]))
  refine Goes.step (fun _ k => XS.iconst X1.here hx rfl (hb hby d8_5) k) ?_
  show Goes _ _ _ _ _ _ _ (T1.setTop (mkF m 6 #[.val (.ref x0)] [(.int (0 : Int32)), (.ref x0)]))
  obtain ⟨T2, h2, X2, e2, W2, st2⟩ := putF X1 hx hZ hown (host := "") (Or.inl (hw _ (List.mem_of_getElem? (i := 53) rfl))) Via.refl KK1 F0_modCount E_x0 (Or.inl (hw _ (List.mem_of_getElem? (i := 54) rfl))) (hw _ (List.mem_of_getElem? (i := 35) rfl)) (ty := .int) (by decide) rfl rfl (g := (mkF m 6 #[.val (.ref x0)] [(.int (0 : Int32)), (.ref x0)])) rfl rfl (hb hby d8_6)
  refine Goes.step st2 ?_
  have f3 := F0_modCount.same W2
  have f4 := F0_elementData.other W2 (Or.inr (slot_ne (Or.inl (hw _ (List.mem_of_getElem? (i := 57) rfl))) (Or.inl (hw _ (List.mem_of_getElem? (i := 54) rfl))) (by decide) (t := (.array (.object "java/lang/Object"))) (t' := .int) (by decide) (by decide)))
  have f5 := F0_size.other W2 (Or.inr (slot_ne (Or.inl (hw _ (List.mem_of_getElem? (i := 87) rfl))) (Or.inl (hw _ (List.mem_of_getElem? (i := 54) rfl))) (by decide) (t := .int) (t' := .int) (by decide) (by decide)))
  have f6 := E_x0.wr W2
  have K7 : Keep h0 h2 [x0] := K0.wr W2 (Or.inl (List.mem_of_getElem? (i := 0) rfl))
  have Z7 : n0 ≤ h2.size := by rw [Wr.size W2]; exact Z0
  have N7 := Fr.snoc X2 NA1 g_x0
  show Goes _ _ _ _ _ _ _ (T2.setTop (mkF m 9 #[.val (.ref x0)] []))
  exact Goes.retV X2 hx (BodyLoose.notSynchronized Bd) Bd.returns (hb hby d8_9) (by show Q8 Z x0 f0_modCount h0 n0 none T2.heap _; rw [e2]; exact ⟨N7, K7, ⟨rfl, f3, f4, f5, f6⟩⟩) (by decide) (by decide)
theorem d7_0 : decode jdk_38_method_2_code 0 = .ok (.aload_n 0, 1) := by decide +kernel
theorem d7_1 : decode jdk_38_method_2_code 1 = .ok (.invokespecial 1, 3) := by decide +kernel
theorem d7_4 : decode jdk_38_method_2_code 4 = .ok (.aload_n 0, 1) := by decide +kernel
theorem d7_5 : decode jdk_38_method_2_code 5 = .ok (.getstatic 39, 3) := by decide +kernel
theorem d7_8 : decode jdk_38_method_2_code 8 = .ok (.putfield 9, 3) := by decide +kernel
theorem d7_11 : decode jdk_38_method_2_code 11 = .ok (.return_, 1) := by decide +kernel
theorem pn_7 : plainName "java/util/ArrayList" = true := by first | (simp [plainName, overriddenIn]; done) | decide +kernel
theorem ef_7 (m : MethodId) (x0 : Addr) (y_DEFAULTCAPACITY_EMPTY_ELEMENTDATA : Addr) (f0_modCount : Int32)  : entryFrame m #[(.ref x0)] 1 = mkF m 0 #[.val (.ref x0)] [] := by first | (simp [entryFrame, mkF, argsToLocals, Value.category]; done) | rfl
def Q7 (Z : State) (x0 : Addr) (y_DEFAULTCAPACITY_EMPTY_ELEMENTDATA : Addr) (f0_modCount : Int32) (h0 : Heap) (n0 : Nat) (v : Option Value) (h : Heap) (L : List Loc) : Prop := Fr n0 L ∧ Keep h0 h [x0] ∧ ((v = none ∧ Exa Z h x0 "java/util/ArrayList" ∧ Fld Z h x0 "java/util/AbstractList" "modCount" "I" (.int (0 : Int32)) ∧ Fld Z h x0 "java/util/ArrayList" "elementData" "[Ljava/lang/Object;" (.ref y_DEFAULTCAPACITY_EMPTY_ELEMENTDATA) ∧ Fld Z h x0 "java/util/ArrayList" "size" "I" (.int (0 : Int32))))
set_option maxRecDepth 65536 in
set_option maxHeartbeats 40000000 in
theorem rm7 (l : Launch) (Z : State) (a0 : Array Value) (hw : ∀ d ∈ tables_1, d.before a0 Z = true) (ws : List Jvm.Cond) (x0 : Addr) (y_DEFAULTCAPACITY_EMPTY_ELEMENTDATA : Addr) (f0_modCount : Int32) (h0 : Heap) (n0 : Nat) (Z0 : n0 ≤ h0.size) (S_DEFAULTCAPACITY_EMPTY_ELEMENTDATA : Sta Z Z.heap "java/util/ArrayList" "DEFAULTCAPACITY_EMPTY_ELEMENTDATA" "[Ljava/lang/Object;" (.ref y_DEFAULTCAPACITY_EMPTY_ELEMENTDATA)) (X00 : Old Z n0 h0) (F0_modCount : Fld Z h0 x0 "java/util/AbstractList" "modCount" "I" (.int f0_modCount)) (F0_elementData : Fld Z h0 x0 "java/util/ArrayList" "elementData" "[Ljava/lang/Object;" .null) (F0_size : Fld Z h0 x0 "java/util/ArrayList" "size" "I" (.int (0 : Int32))) (E_x0 : Exa Z h0 x0 "java/util/ArrayList") (g_x0 : n0 ≤ x0) :
    MetFree l (⟨"java/util/ArrayList", "<init>", "()V"⟩ : MethodName) (head1 (Jvm.Cond.code (⟨"java/util/ArrayList", "<init>", "()V"⟩ : MethodName) jdk_38_method_2_code 1 none :: ws) ({ frames := 3, cells := 0, slots := 0, locals := 36 } : Room)) (fun a U => a = #[(.ref x0)] ∧ Z.Warmed39 U.vm ∧ U.heap = h0) (fun _ _ _ _ _ => True) (fun _ U o U' => ∃ v L, o = .returned v ∧ Q7 Z x0 y_DEFAULTCAPACITY_EMPTY_ELEMENTDATA f0_modCount h0 n0 v U'.heap L ∧ FrameEnd U o U' L ({ frames := 3, cells := 0, slots := 0, locals := 36 } : Room).cells ({ frames := 3, cells := 0, slots := 0, locals := 36 } : Room).slots) := by
  refine MetFree.of_bodySF (plainFor_of_name pn_7) hisR ?_
  intro p e s m args below meth c s₁ Bd hml0 hP hK
  obtain ⟨rfl, hZ, hh⟩ := hP
  have hx := Bd.exec
  have hby := Bd.bytes
  have hml : c.maxLocals = 1 := hml0
  have hown : s.vm.findClass "java/util/ArrayList" = some m.cls := findClass_of_methodNamed Bd.named
  have hnm := (name_of_methodNamed Bd.named Bd.method).1
  have X0 : Stand p l e ({ frames := 3, cells := 0, slots := 0, locals := 36 } : Room) s m #[(.ref x0)] below meth c s₁ [] 0 0 := Stand.of_body Bd
  have e0 : s₁.heap = h0 := by rw [← hh, Bd.state]; rfl
  have N0 := Fr.nil n0
  have K0 : Keep h0 h0 [x0] := Keep.refl h0 _
  refine (?_ : Goes p e below s ({ frames := 3, cells := 0, slots := 0, locals := 36 } : Room).cells ({ frames := 3, cells := 0, slots := 0, locals := 36 } : Room).slots (fun v h L => Q7 Z x0 y_DEFAULTCAPACITY_EMPTY_ELEMENTDATA f0_modCount h0 n0 v h L) (s₁.setTop (entryFrame m #[(.ref x0)] 1)))
  rw [ef_7 m x0 y_DEFAULTCAPACITY_EMPTY_ELEMENTDATA f0_modCount ]
  show Goes _ _ _ _ _ _ _ (s₁.setTop (mkF m 0 #[.val (.ref x0)] []))
  refine Goes.step (fun _ k => XS.aloadN X0.here hx rfl (hb hby d7_0) rfl rfl k) ?_
  show Goes _ _ _ _ _ _ _ (s₁.setTop (mkF m 1 #[.val (.ref x0)] [(.ref x0)]))
  obtain ⟨_, _, ⟨T1, L1, k1, n1⟩, -, X1, ⟨Lc1, hQ1, l1, y1, z1⟩, st1⟩ := X0.specialBack hx (y := (⟨"java/util/AbstractList", "<init>", "()V"⟩ : MethodName)) rfl hown (mvT hZ (hw _ (List.mem_of_getElem? (i := 40) rfl))) (mvT hZ (hw _ (List.mem_of_getElem? (i := 41) rfl))) (mvT hZ (hw _ (List.mem_of_getElem? (i := 45) rfl))) (by decide) (backOf (W := 0) (rm8 l Z a0 hw [] x0 f0_modCount h0 n0 Z0 F0_modCount F0_elementData F0_size E_x0 g_x0) hZ (hw _ (List.mem_of_getElem? (i := 45) rfl)) (hw _ (List.mem_of_getElem? (i := 44) rfl)) (by decide) (by decide)) (g := (mkF m 1 #[.val (.ref x0)] [(.ref x0)])) rfl (by rw [hml]; rfl) (Steps.refl _) (a := x0) (argsL := []) (rest := []) (lenOf pd_4 rfl) rfl (by show 2 * 0 + _ ≤ _; exact Nat.le_of_eq rfl) (hb hby d7_1) (fun _ _ => ⟨rfl, e0, (by decide : 0 + 0 ≤ _), (by decide : 0 + 0 ≤ _)⟩)
  dsimp only [Pt.U, Pt.locs, Pt.cells, Pt.slots] at X1 l1 y1 z1 st1 hQ1
  subst l1 y1 z1
  obtain ⟨N1, KK1, hR1⟩ := hQ1
  have NA1 := Fr.app N0 N1
  have XO2 : Old Z n0 T1.heap := X00.keep KK1 (allS g_x0 all0)
  have f6 := E_x0.keep KK1
  have K7 : Keep h0 T1.heap [x0] := K0.trans KK1 (allS (Or.inl (List.mem_of_getElem? (i := 0) rfl)) all0)
  have Z7 : n0 ≤ T1.heap.size := Nat.le_trans Z0 KK1.1
  obtain ⟨rfl, v1_0_0, v1_0_1, v1_0_2, v1_0_3⟩ := hR1
  refine Goes.back st1 ?_
  show Goes _ _ _ _ _ _ _ (T1.setTop (mkF m 4 #[.val (.ref x0)] []))
  refine Goes.step (fun _ k => XS.aloadN X1.here hx rfl (hb hby d7_4) rfl rfl k) ?_
  show Goes _ _ _ _ _ _ _ (T1.setTop (mkF m 5 #[.val (.ref x0)] [(.ref x0)]))
  obtain ⟨T8, X8, e8, st8⟩ := getS2 X1 hx hZ hown (host := "") (Or.inl (hw _ (List.mem_of_getElem? (i := 55) rfl))) Via.refl rfl (S_DEFAULTCAPACITY_EMPTY_ELEMENTDATA.ext XO2.2) (g := (mkF m 5 #[.val (.ref x0)] [(.ref x0)])) rfl (hb hby d7_5)
  refine Goes.step st8 ?_
  show Goes _ _ _ _ _ _ _ (T8.setTop (mkF m 8 #[.val (.ref x0)] [(.ref y_DEFAULTCAPACITY_EMPTY_ELEMENTDATA), (.ref x0)]))
  obtain ⟨T9, h9, X9, e9, W9, st9⟩ := putF X8 hx hZ hown (host := "") (Or.inl (hw _ (List.mem_of_getElem? (i := 56) rfl))) Via.refl e8 v1_0_1 v1_0_3 (Or.inl (hw _ (List.mem_of_getElem? (i := 57) rfl))) (hw _ (List.mem_of_getElem? (i := 35) rfl)) (ty := (.array (.object "java/lang/Object"))) (by decide) rfl rfl (g := (mkF m 8 #[.val (.ref x0)] [(.ref y_DEFAULTCAPACITY_EMPTY_ELEMENTDATA), (.ref x0)])) rfl rfl (hb hby d7_8)
  refine Goes.step st9 ?_
  have XO10 : Old Z n0 h9 := XO2.wr W9 g_x0
  have f11 := v1_0_3.wr W9
  have f12 := v1_0_0.other W9 (Or.inr (slot_ne (Or.inl (hw _ (List.mem_of_getElem? (i := 54) rfl))) (Or.inl (hw _ (List.mem_of_getElem? (i := 57) rfl))) (by decide) (t := .int) (t' := (.array (.object "java/lang/Object"))) (by decide) (by decide)))
  have f13 := v1_0_1.same W9
  have f14 := v1_0_2.other W9 (Or.inr (slot_ne (Or.inl (hw _ (List.mem_of_getElem? (i := 87) rfl))) (Or.inl (hw _ (List.mem_of_getElem? (i := 57) rfl))) (by decide) (t := .int) (t' := (.array (.object "java/lang/Object"))) (by decide) (by decide)))
  have K15 : Keep h0 h9 [x0] := K7.wr W9 (Or.inl (List.mem_of_getElem? (i := 0) rfl))
  have Z15 : n0 ≤ h9.size := by rw [Wr.size W9]; exact Z7
  have N15 := Fr.snoc X9 NA1 g_x0
  show Goes _ _ _ _ _ _ _ (T9.setTop (mkF m 11 #[.val (.ref x0)] []))
  exact Goes.retV X9 hx (BodyLoose.notSynchronized Bd) Bd.returns (hb hby d7_11) (by show Q7 Z x0 y_DEFAULTCAPACITY_EMPTY_ELEMENTDATA f0_modCount h0 n0 none T9.heap _; rw [e9]; exact ⟨N15, K15, ⟨rfl, f11, f12, f13, f14⟩⟩) (by decide) (by decide)
theorem d6_0 : decode prog_17_method_1_code 0 = .ok (.aload_n 0, 1) := by decide +kernel
theorem d6_1 : decode prog_17_method_1_code 1 = .ok (.invokespecial 1, 3) := by decide +kernel
theorem d6_4 : decode prog_17_method_1_code 4 = .ok (.aload_n 0, 1) := by decide +kernel
theorem d6_5 : decode prog_17_method_1_code 5 = .ok (.new 7, 3) := by decide +kernel
theorem d6_8 : decode prog_17_method_1_code 8 = .ok (.dup, 1) := by decide +kernel
theorem d6_9 : decode prog_17_method_1_code 9 = .ok (.invokespecial 9, 3) := by decide +kernel
theorem d6_12 : decode prog_17_method_1_code 12 = .ok (.putfield 10, 3) := by decide +kernel
theorem d6_15 : decode prog_17_method_1_code 15 = .ok (.return_, 1) := by decide +kernel
theorem pn_6 : plainName "com/example/roles_to_grants/rolestogrants/input/ProblemList" = true := by first | (simp [plainName, overriddenIn]; done) | decide +kernel
theorem ef_6 (m : MethodId) (x0 : Addr) (y_DEFAULTCAPACITY_EMPTY_ELEMENTDATA : Addr)  : entryFrame m #[(.ref x0)] 1 = mkF m 0 #[.val (.ref x0)] [] := by first | (simp [entryFrame, mkF, argsToLocals, Value.category]; done) | rfl
def Q6 (Z : State) (x0 : Addr) (y_DEFAULTCAPACITY_EMPTY_ELEMENTDATA : Addr) (h0 : Heap) (n0 : Nat) (v : Option Value) (h : Heap) (L : List Loc) : Prop := Fr n0 L ∧ Keep h0 h [x0] ∧ ((∃ (r_0 : Addr), v = none ∧ n0 ≤ r_0 ∧ h0.size ≤ r_0 ∧ Fld Z h x0 "com/example/roles_to_grants/rolestogrants/input/ProblemList" "named" "Ljava/util/List;" (.ref r_0) ∧ Fld Z h x0 "com/example/roles_to_grants/rolestogrants/input/ProblemList" "count" "J" (.long (0 : Int64)) ∧ Exa Z h x0 "com/example/roles_to_grants/rolestogrants/input/ProblemList" ∧ Exa Z h r_0 "java/util/ArrayList" ∧ Fld Z h r_0 "java/util/AbstractList" "modCount" "I" (.int (0 : Int32)) ∧ Fld Z h r_0 "java/util/ArrayList" "elementData" "[Ljava/lang/Object;" (.ref y_DEFAULTCAPACITY_EMPTY_ELEMENTDATA) ∧ Fld Z h r_0 "java/util/ArrayList" "size" "I" (.int (0 : Int32))))
set_option maxRecDepth 65536 in
set_option maxHeartbeats 40000000 in
theorem rm6 (l : Launch) (Z : State) (a0 : Array Value) (hw : ∀ d ∈ tables_1, d.before a0 Z = true) (ws : List Jvm.Cond) (x0 : Addr) (y_DEFAULTCAPACITY_EMPTY_ELEMENTDATA : Addr) (h0 : Heap) (n0 : Nat) (Z0 : n0 ≤ h0.size) (S_DEFAULTCAPACITY_EMPTY_ELEMENTDATA : Sta Z Z.heap "java/util/ArrayList" "DEFAULTCAPACITY_EMPTY_ELEMENTDATA" "[Ljava/lang/Object;" (.ref y_DEFAULTCAPACITY_EMPTY_ELEMENTDATA)) (X00 : Old Z n0 h0) (F0_named : Fld Z h0 x0 "com/example/roles_to_grants/rolestogrants/input/ProblemList" "named" "Ljava/util/List;" .null) (F0_count : Fld Z h0 x0 "com/example/roles_to_grants/rolestogrants/input/ProblemList" "count" "J" (.long (0 : Int64))) (E_x0 : Exa Z h0 x0 "com/example/roles_to_grants/rolestogrants/input/ProblemList") (g_x0 : n0 ≤ x0) :
    MetFree l (⟨"com/example/roles_to_grants/rolestogrants/input/ProblemList", "<init>", "()V"⟩ : MethodName) (head1 (Jvm.Cond.code (⟨"com/example/roles_to_grants/rolestogrants/input/ProblemList", "<init>", "()V"⟩ : MethodName) prog_17_method_1_code 1 none :: ws) ({ frames := 4, cells := 1, slots := 3, locals := 50 } : Room)) (fun a U => a = #[(.ref x0)] ∧ Z.Warmed39 U.vm ∧ U.heap = h0) (fun _ _ _ _ _ => True) (fun _ U o U' => ∃ v L, o = .returned v ∧ Q6 Z x0 y_DEFAULTCAPACITY_EMPTY_ELEMENTDATA h0 n0 v U'.heap L ∧ FrameEnd U o U' L ({ frames := 4, cells := 1, slots := 3, locals := 50 } : Room).cells ({ frames := 4, cells := 1, slots := 3, locals := 50 } : Room).slots) := by
  refine MetFree.of_bodySF (plainFor_of_name pn_6) hisR ?_
  intro p e s m args below meth c s₁ Bd hml0 hP hK
  obtain ⟨rfl, hZ, hh⟩ := hP
  have hx := Bd.exec
  have hby := Bd.bytes
  have hml : c.maxLocals = 1 := hml0
  have hown : s.vm.findClass "com/example/roles_to_grants/rolestogrants/input/ProblemList" = some m.cls := findClass_of_methodNamed Bd.named
  have hnm := (name_of_methodNamed Bd.named Bd.method).1
  have X0 : Stand p l e ({ frames := 4, cells := 1, slots := 3, locals := 50 } : Room) s m #[(.ref x0)] below meth c s₁ [] 0 0 := Stand.of_body Bd
  have e0 : s₁.heap = h0 := by rw [← hh, Bd.state]; rfl
  have N0 := Fr.nil n0
  have K0 : Keep h0 h0 [x0] := Keep.refl h0 _
  refine (?_ : Goes p e below s ({ frames := 4, cells := 1, slots := 3, locals := 50 } : Room).cells ({ frames := 4, cells := 1, slots := 3, locals := 50 } : Room).slots (fun v h L => Q6 Z x0 y_DEFAULTCAPACITY_EMPTY_ELEMENTDATA h0 n0 v h L) (s₁.setTop (entryFrame m #[(.ref x0)] 1)))
  rw [ef_6 m x0 y_DEFAULTCAPACITY_EMPTY_ELEMENTDATA ]
  show Goes _ _ _ _ _ _ _ (s₁.setTop (mkF m 0 #[.val (.ref x0)] []))
  refine Goes.step (fun _ k => XS.aloadN X0.here hx rfl (hb hby d6_0) rfl rfl k) ?_
  show Goes _ _ _ _ _ _ _ (s₁.setTop (mkF m 1 #[.val (.ref x0)] [(.ref x0)]))
  obtain ⟨T1, X1, e1, st1⟩ := initO X0 hx hZ hown (hw _ (List.mem_of_getElem? (i := 33) rfl)) (hw _ (List.mem_of_getElem? (i := 21) rfl)) (hw _ (List.mem_of_getElem? (i := 22) rfl)) e0 (g := (mkF m 1 #[.val (.ref x0)] [(.ref x0)])) rfl (by rw [hml]; rfl) rfl (hb hby d6_1) (by decide) (W := 0) (by show 2 * 0 + _ ≤ _; exact Nat.le_of_eq rfl) (by decide)
  refine Goes.step st1 ?_
  show Goes _ _ _ _ _ _ _ (T1.setTop (mkF m 4 #[.val (.ref x0)] []))
  refine Goes.step (fun _ k => XS.aloadN X1.here hx rfl (hb hby d6_4) rfl rfl k) ?_
  show Goes _ _ _ _ _ _ _ (T1.setTop (mkF m 5 #[.val (.ref x0)] [(.ref x0)]))
  obtain ⟨T2, h2, X2, e2, E2, A2, D2, -, st2⟩ := newO X1 hx hZ hown (hw _ (List.mem_of_getElem? (i := 34) rfl)) (hw _ (List.mem_of_getElem? (i := 35) rfl)) (hw _ (List.mem_of_getElem? (i := 36) rfl)) e1 (g := (mkF m 5 #[.val (.ref x0)] [(.ref x0)])) rfl (hb hby d6_5) (by decide) (by decide)
  obtain ⟨b2, g2⟩ : ∃ z, z = h0.size := ⟨_, rfl⟩
  rw [← g2] at A2 D2 st2
  refine Goes.step st2 ?_
  have g_b2 : n0 ≤ b2 := Nat.le_trans Z0 (Nat.le_of_eq g2.symm)
  have sz_b2 : h0.size ≤ b2 := Nat.le_trans K0.1 (Nat.le_of_eq g2.symm)
  have ne3 : x0 ≠ b2 := Nat.ne_of_lt (Nat.lt_of_lt_of_le F0_named.lt (Nat.le_of_eq g2.symm))
  have XO4 : Old Z n0 h2 := X00.ext E2
  have f5 := F0_named.ext E2
  have f6 := F0_count.ext E2
  have f7 := E_x0.ext E2
  have K8 : Keep h0 h2 [x0] := K0.ext E2
  have Z8 : n0 ≤ h2.size := Nat.le_trans Z0 E2.1
  have E_b2 := A2
  have F_modCount_b2 : Fld Z h2 b2 "java/util/AbstractList" "modCount" "I" (.int (0 : Int32)) := D2 (Or.inl (hw _ (List.mem_of_getElem? (i := 54) rfl))) (ty := .int) (by decide)
  have F_elementData_b2 : Fld Z h2 b2 "java/util/ArrayList" "elementData" "[Ljava/lang/Object;" .null := D2 (Or.inl (hw _ (List.mem_of_getElem? (i := 57) rfl))) (ty := (.array (.object "java/lang/Object"))) (by decide)
  have F_size_b2 : Fld Z h2 b2 "java/util/ArrayList" "size" "I" (.int (0 : Int32)) := D2 (Or.inl (hw _ (List.mem_of_getElem? (i := 87) rfl))) (ty := .int) (by decide)
  show Goes _ _ _ _ _ _ _ (T2.setTop (mkF m 8 #[.val (.ref x0)] [(.ref b2), (.ref x0)]))
  refine Goes.step (fun _ k => XS.dup X2.here hx rfl (hb hby d6_8) rfl rfl k) ?_
  show Goes _ _ _ _ _ _ _ (T2.setTop (mkF m 9 #[.val (.ref x0)] [(.ref b2), (.ref b2), (.ref x0)]))
  obtain ⟨_, _, ⟨T9, L9, k9, n9⟩, -, X9, ⟨Lc9, hQ9, l9, y9, z9⟩, st9⟩ := X2.specialBack hx (y := (⟨"java/util/ArrayList", "<init>", "()V"⟩ : MethodName)) rfl hown (mvT hZ (hw _ (List.mem_of_getElem? (i := 37) rfl))) (mvT hZ (hw _ (List.mem_of_getElem? (i := 38) rfl))) (mvT hZ (hw _ (List.mem_of_getElem? (i := 39) rfl))) (by decide) (backOf (W := 2) (rm7 l Z a0 hw [] b2 y_DEFAULTCAPACITY_EMPTY_ELEMENTDATA (0 : Int32) h2 n0 Z8 S_DEFAULTCAPACITY_EMPTY_ELEMENTDATA XO4 F_modCount_b2 F_elementData_b2 F_size_b2 E_b2 g_b2) hZ (hw _ (List.mem_of_getElem? (i := 39) rfl)) (hw _ (List.mem_of_getElem? (i := 36) rfl)) (by decide) (by decide)) (g := (mkF m 9 #[.val (.ref x0)] [(.ref b2), (.ref b2), (.ref x0)])) rfl (by rw [hml]; rfl) (Steps.refl _) (a := b2) (argsL := []) (rest := [(.ref b2), (.ref x0)]) (lenOf pd_4 rfl) rfl (by show 2 * 0 + _ ≤ _; exact Nat.le_of_eq rfl) (hb hby d6_9) (fun _ _ => ⟨rfl, e2, (by decide : 1 + 0 ≤ _), (by decide : 3 + 0 ≤ _)⟩)
  dsimp only [Pt.U, Pt.locs, Pt.cells, Pt.slots] at X9 l9 y9 z9 st9 hQ9
  subst l9 y9 z9
  obtain ⟨N9, KK9, hR9⟩ := hQ9
  have NA9 := Fr.app N0 N9
  have XO10 : Old Z n0 T9.heap := XO4.keep KK9 (allS g_b2 all0)
  have f11 := f5.keep KK9 (ninS ne3 nin0)
  have f12 := f6.keep KK9 (ninS ne3 nin0)
  have f13 := f7.keep KK9
  have f14 := E_b2.keep KK9
  have K18 : Keep h0 T9.heap [x0] := K8.trans KK9 (allS (Or.inr sz_b2) all0)
  have Z18 : n0 ≤ T9.heap.size := Nat.le_trans Z8 KK9.1
  obtain ⟨rfl, v9_0_0, v9_0_1, v9_0_2, v9_0_3⟩ := hR9
  refine Goes.back st9 ?_
  show Goes _ _ _ _ _ _ _ (T9.setTop (mkF m 12 #[.val (.ref x0)] [(.ref b2), (.ref x0)]))
  obtain ⟨T19, h19, X19, e19, W19, st19⟩ := putF X9 hx hZ hown (host := "") (Or.inl (hw _ (List.mem_of_getElem? (i := 58) rfl))) Via.refl rfl f11 f13 (Or.inr ⟨(hw _ (List.mem_of_getElem? (i := 59) rfl)), rfl, hnm⟩) (hw _ (List.mem_of_getElem? (i := 28) rfl)) (ty := (.object "java/util/List")) (by decide) rfl rfl (g := (mkF m 12 #[.val (.ref x0)] [(.ref b2), (.ref x0)])) rfl rfl (hb hby d6_12)
  refine Goes.step st19 ?_
  have XO20 : Old Z n0 h19 := XO10.wr W19 g_x0
  have f21 := f11.same W19
  have f22 := f12.other W19 (Or.inr (slot_ne (Or.inl (hw _ (List.mem_of_getElem? (i := 66) rfl))) (Or.inr (hw _ (List.mem_of_getElem? (i := 59) rfl))) (by decide) (t := .long) (t' := (.object "java/util/List")) (by decide) (by decide)))
  have f23 := f13.wr W19
  have f24 := v9_0_0.wr W19
  have f25 := v9_0_1.other W19 (Or.inl (Ne.symm ne3))
  have f26 := v9_0_2.other W19 (Or.inl (Ne.symm ne3))
  have f27 := v9_0_3.other W19 (Or.inl (Ne.symm ne3))
  have K28 : Keep h0 h19 [x0] := K18.wr W19 (Or.inl (List.mem_of_getElem? (i := 0) rfl))
  have Z28 : n0 ≤ h19.size := by rw [Wr.size W19]; exact Z18
  have N28 := Fr.snoc X19 NA9 g_x0
  show Goes _ _ _ _ _ _ _ (T19.setTop (mkF m 15 #[.val (.ref x0)] []))
  exact Goes.retV X19 hx (BodyLoose.notSynchronized Bd) Bd.returns (hb hby d6_15) (by show Q6 Z x0 y_DEFAULTCAPACITY_EMPTY_ELEMENTDATA h0 n0 none T19.heap _; rw [e19]; exact ⟨N28, K28, ⟨b2, rfl, g_b2, sz_b2, f21, f22, f23, f24, f25, f26, f27⟩⟩) (by decide) (by decide)
theorem d10_0 : decode prog_17_method_4_code 0 = .ok (.aload_n 0, 1) := by decide +kernel
theorem d10_1 : decode prog_17_method_4_code 1 = .ok (.getfield 26, 3) := by decide +kernel
theorem d10_4 : decode prog_17_method_4_code 4 = .ok (.lconst 0, 1) := by decide +kernel
theorem d10_5 : decode prog_17_method_4_code 5 = .ok (.lcmp, 1) := by decide +kernel
theorem d10_6 : decode prog_17_method_4_code 6 = .ok (.ifCond .ne 7, 3) := by decide +kernel
theorem d10_9 : decode prog_17_method_4_code 9 = .ok (.iconst 1, 1) := by decide +kernel
theorem d10_10 : decode prog_17_method_4_code 10 = .ok (.goto 4, 3) := by decide +kernel
theorem d10_13 : decode prog_17_method_4_code 13 = .ok (.iconst 0, 1) := by decide +kernel
theorem d10_14 : decode prog_17_method_4_code 14 = .ok (.ireturn, 1) := by decide +kernel
theorem pn_10 : plainName "com/example/roles_to_grants/rolestogrants/input/ProblemList" = true := by first | (simp [plainName, overriddenIn]; done) | decide +kernel
theorem ef_10 (m : MethodId) (x0 : Addr) (f0_count : Int64)  : entryFrame m #[(.ref x0)] 1 = mkF m 0 #[.val (.ref x0)] [] := by first | (simp [entryFrame, mkF, argsToLocals, Value.category]; done) | rfl
def Q10 (Z : State) (x0 : Addr) (f0_count : Int64) (h0 : Heap) (n0 : Nat) (v : Option Value) (h : Heap) (L : List Loc) : Prop := Fr n0 L ∧ h = h0 ∧ ((v = some (.int (1 : Int32)) ∧ f0_count = (0 : Int64)) ∨ (v = some (.int (0 : Int32)) ∧ ¬ (f0_count = (0 : Int64))))
set_option maxRecDepth 65536 in
set_option maxHeartbeats 40000000 in
theorem rm10 (l : Launch) (Z : State) (a0 : Array Value) (hw : ∀ d ∈ tables_1, d.before a0 Z = true) (ws : List Jvm.Cond) (x0 : Addr) (f0_count : Int64) (h0 : Heap) (n0 : Nat) (Z0 : n0 ≤ h0.size) (F0_count : Fld Z h0 x0 "com/example/roles_to_grants/rolestogrants/input/ProblemList" "count" "J" (.long f0_count)) :
    MetFree l (⟨"com/example/roles_to_grants/rolestogrants/input/ProblemList", "isEmpty", "()Z"⟩ : MethodName) (head1 (Jvm.Cond.code (⟨"com/example/roles_to_grants/rolestogrants/input/ProblemList", "isEmpty", "()Z"⟩ : MethodName) prog_17_method_4_code 1 (some .boolean) :: ws) ({ frames := 0, cells := 0, slots := 0, locals := 0 } : Room)) (fun a U => a = #[(.ref x0)] ∧ Z.Warmed39 U.vm ∧ U.heap = h0) (fun _ _ _ _ _ => True) (fun _ U o U' => ∃ v L, o = .returned v ∧ Q10 Z x0 f0_count h0 n0 v U'.heap L ∧ FrameEnd U o U' L ({ frames := 0, cells := 0, slots := 0, locals := 0 } : Room).cells ({ frames := 0, cells := 0, slots := 0, locals := 0 } : Room).slots) := by
  refine MetFree.of_bodySF (plainFor_of_name pn_10) hisR ?_
  intro p e s m args below meth c s₁ Bd hml0 hP hK
  obtain ⟨rfl, hZ, hh⟩ := hP
  have hx := Bd.exec
  have hby := Bd.bytes
  have hml : c.maxLocals = 1 := hml0
  have hown : s.vm.findClass "com/example/roles_to_grants/rolestogrants/input/ProblemList" = some m.cls := findClass_of_methodNamed Bd.named
  have hnm := (name_of_methodNamed Bd.named Bd.method).1
  have X0 : Stand p l e ({ frames := 0, cells := 0, slots := 0, locals := 0 } : Room) s m #[(.ref x0)] below meth c s₁ [] 0 0 := Stand.of_body Bd
  have e0 : s₁.heap = h0 := by rw [← hh, Bd.state]; rfl
  have N0 := Fr.nil n0
  have K0 : Keep h0 h0 [] := Keep.refl h0 _
  refine (?_ : Goes p e below s ({ frames := 0, cells := 0, slots := 0, locals := 0 } : Room).cells ({ frames := 0, cells := 0, slots := 0, locals := 0 } : Room).slots (fun v h L => Q10 Z x0 f0_count h0 n0 v h L) (s₁.setTop (entryFrame m #[(.ref x0)] 1)))
  rw [ef_10 m x0 f0_count ]
  show Goes _ _ _ _ _ _ _ (s₁.setTop (mkF m 0 #[.val (.ref x0)] []))
  refine Goes.step (fun _ k => XS.aloadN X0.here hx rfl (hb hby d10_0) rfl rfl k) ?_
  show Goes _ _ _ _ _ _ _ (s₁.setTop (mkF m 1 #[.val (.ref x0)] [(.ref x0)]))
  obtain ⟨T1, X1, e1, st1⟩ := getF X0 hx hZ hown (host := "") (Or.inl (hw _ (List.mem_of_getElem? (i := 65) rfl))) Via.refl e0 F0_count (g := (mkF m 1 #[.val (.ref x0)] [(.ref x0)])) rfl rfl (hb hby d10_1)
  refine Goes.step st1 ?_
  show Goes _ _ _ _ _ _ _ (T1.setTop (mkF m 4 #[.val (.ref x0)] [(.long f0_count)]))
  refine Goes.step (fun _ k => XS.lconst X1.here hx rfl (hb hby d10_4) k) ?_
  show Goes _ _ _ _ _ _ _ (T1.setTop (mkF m 5 #[.val (.ref x0)] [(.long (0 : Int64)), (.long f0_count)]))
  refine Goes.step (fun _ k => XS.lcmp X1.here hx rfl (hb hby d10_5) rfl k) ?_
  show Goes _ _ _ _ _ _ _ (T1.setTop (mkF m 6 #[.val (.ref x0)] [(.int (lcmpW f0_count (0 : Int64)))]))
  by_cases c6_2 : f0_count = (0 : Int64)
  · refine Goes.step (fun _ k => XS.ifNo X1.here hx rfl (hb hby d10_6) rfl ((if0 _ _).trans (teq ((lw_eq _ _).mpr c6_2)).2) k) ?_
    show Goes _ _ _ _ _ _ _ (T1.setTop (mkF m 9 #[.val (.ref x0)] []))
    refine Goes.step (fun _ k => XS.iconst X1.here hx rfl (hb hby d10_9) k) ?_
    show Goes _ _ _ _ _ _ _ (T1.setTop (mkF m 10 #[.val (.ref x0)] [(.int (1 : Int32))]))
    refine Goes.step (fun _ k => XS.goto X1.here hx rfl (pc0 := 10) (pc' := 14) rfl (hb hby d10_10) (by decide) (by decide) k) ?_
    show Goes _ _ _ _ _ _ _ (T1.setTop (mkF m 14 #[.val (.ref x0)] [(.int (1 : Int32))]))
    exact Goes.ret X1 hx (BodyLoose.notSynchronized Bd) Bd.returns rfl (Or.inl ⟨rfl, by simp, _, rfl⟩) (hb hby d10_14) (by show Q10 Z x0 f0_count h0 n0 (some (.int (1 : Int32))) T1.heap _; rw [e1]; exact ⟨N0, rfl, Or.inl (⟨rfl, c6_2⟩)⟩) (by decide) (by decide)
  · refine Goes.step (fun _ k => XS.ifYes X1.here hx rfl (pc0 := 6) (pc' := 13) rfl (hb hby d10_6) rfl ((if0 _ _).trans (feq (fun q => c6_2 ((lw_eq _ _).mp q))).2) (by decide) (by decide) k) ?_
    show Goes _ _ _ _ _ _ _ (T1.setTop (mkF m 13 #[.val (.ref x0)] []))
    refine Goes.step (fun _ k => XS.iconst X1.here hx rfl (hb hby d10_13) k) ?_
    show Goes _ _ _ _ _ _ _ (T1.setTop (mkF m 14 #[.val (.ref x0)] [(.int (0 : Int32))]))
    exact Goes.ret X1 hx (BodyLoose.notSynchronized Bd) Bd.returns rfl (Or.inl ⟨rfl, by simp, _, rfl⟩) (hb hby d10_14) (by show Q10 Z x0 f0_count h0 n0 (some (.int (0 : Int32))) T1.heap _; rw [e1]; exact ⟨N0, rfl, Or.inr (⟨rfl, c6_2⟩)⟩) (by decide) (by decide)
theorem d11_0 : decode prog_17_method_3_code 0 = .ok (.aload_n 0, 1) := by decide +kernel
theorem d11_1 : decode prog_17_method_3_code 1 = .ok (.dup, 1) := by decide +kernel
theorem d11_2 : decode prog_17_method_3_code 2 = .ok (.getfield 26, 3) := by decide +kernel
theorem d11_5 : decode prog_17_method_3_code 5 = .ok (.lload_n 1, 1) := by decide +kernel
theorem d11_6 : decode prog_17_method_3_code 6 = .ok (.ladd, 1) := by decide +kernel
theorem d11_7 : decode prog_17_method_3_code 7 = .ok (.putfield 26, 3) := by decide +kernel
theorem d11_10 : decode prog_17_method_3_code 10 = .ok (.return_, 1) := by decide +kernel
theorem pn_11 : plainName "com/example/roles_to_grants/rolestogrants/input/ProblemList" = true := by first | (simp [plainName, overriddenIn]; done) | decide +kernel
theorem ef_11 (m : MethodId) (x0 : Addr) (x1 : Int64) (f0_named : Addr) (f0_count : Int64)  : entryFrame m #[(.ref x0), (.long x1)] 3 = mkF m 0 #[.val (.ref x0), .val (.long x1), .second] [] := by first | (simp [entryFrame, mkF, argsToLocals, Value.category]; done) | rfl
def Q11 (Z : State) (x0 : Addr) (x1 : Int64) (f0_named : Addr) (f0_count : Int64) (h0 : Heap) (n0 : Nat) (v : Option Value) (h : Heap) (L : List Loc) : Prop := Fr n0 L ∧ Keep h0 h [x0] ∧ ((v = none ∧ Fld Z h x0 "com/example/roles_to_grants/rolestogrants/input/ProblemList" "named" "Ljava/util/List;" (.ref f0_named) ∧ Fld Z h x0 "com/example/roles_to_grants/rolestogrants/input/ProblemList" "count" "J" (.long (f0_count + x1)) ∧ Exa Z h x0 "com/example/roles_to_grants/rolestogrants/input/ProblemList"))
set_option maxRecDepth 65536 in
set_option maxHeartbeats 40000000 in
theorem rm11 (l : Launch) (Z : State) (a0 : Array Value) (hw : ∀ d ∈ tables_1, d.before a0 Z = true) (ws : List Jvm.Cond) (x0 : Addr) (x1 : Int64) (f0_named : Addr) (f0_count : Int64) (h0 : Heap) (n0 : Nat) (Z0 : n0 ≤ h0.size) (F0_named : Fld Z h0 x0 "com/example/roles_to_grants/rolestogrants/input/ProblemList" "named" "Ljava/util/List;" (.ref f0_named)) (F0_count : Fld Z h0 x0 "com/example/roles_to_grants/rolestogrants/input/ProblemList" "count" "J" (.long f0_count)) (E_x0 : Exa Z h0 x0 "com/example/roles_to_grants/rolestogrants/input/ProblemList") (g_x0 : n0 ≤ x0) :
    MetFree l (⟨"com/example/roles_to_grants/rolestogrants/input/ProblemList", "addUnnamed", "(J)V"⟩ : MethodName) (head1 (Jvm.Cond.code (⟨"com/example/roles_to_grants/rolestogrants/input/ProblemList", "addUnnamed", "(J)V"⟩ : MethodName) prog_17_method_3_code 3 none :: ws) ({ frames := 0, cells := 0, slots := 0, locals := 0 } : Room)) (fun a U => a = #[(.ref x0), (.long x1)] ∧ Z.Warmed39 U.vm ∧ U.heap = h0) (fun _ _ _ _ _ => True) (fun _ U o U' => ∃ v L, o = .returned v ∧ Q11 Z x0 x1 f0_named f0_count h0 n0 v U'.heap L ∧ FrameEnd U o U' L ({ frames := 0, cells := 0, slots := 0, locals := 0 } : Room).cells ({ frames := 0, cells := 0, slots := 0, locals := 0 } : Room).slots) := by
  refine MetFree.of_bodySF (plainFor_of_name pn_11) hisR ?_
  intro p e s m args below meth c s₁ Bd hml0 hP hK
  obtain ⟨rfl, hZ, hh⟩ := hP
  have hx := Bd.exec
  have hby := Bd.bytes
  have hml : c.maxLocals = 3 := hml0
  have hown : s.vm.findClass "com/example/roles_to_grants/rolestogrants/input/ProblemList" = some m.cls := findClass_of_methodNamed Bd.named
  have hnm := (name_of_methodNamed Bd.named Bd.method).1
  have X0 : Stand p l e ({ frames := 0, cells := 0, slots := 0, locals := 0 } : Room) s m #[(.ref x0), (.long x1)] below meth c s₁ [] 0 0 := Stand.of_body Bd
  have e0 : s₁.heap = h0 := by rw [← hh, Bd.state]; rfl
  have N0 := Fr.nil n0
  have K0 : Keep h0 h0 [x0] := Keep.refl h0 _
  refine (?_ : Goes p e below s ({ frames := 0, cells := 0, slots := 0, locals := 0 } : Room).cells ({ frames := 0, cells := 0, slots := 0, locals := 0 } : Room).slots (fun v h L => Q11 Z x0 x1 f0_named f0_count h0 n0 v h L) (s₁.setTop (entryFrame m #[(.ref x0), (.long x1)] 3)))
  rw [ef_11 m x0 x1 f0_named f0_count ]
  show Goes _ _ _ _ _ _ _ (s₁.setTop (mkF m 0 #[.val (.ref x0), .val (.long x1), .second] []))
  refine Goes.step (fun _ k => XS.aloadN X0.here hx rfl (hb hby d11_0) rfl rfl k) ?_
  show Goes _ _ _ _ _ _ _ (s₁.setTop (mkF m 1 #[.val (.ref x0), .val (.long x1), .second] [(.ref x0)]))
  refine Goes.step (fun _ k => XS.dup X0.here hx rfl (hb hby d11_1) rfl rfl k) ?_
  show Goes _ _ _ _ _ _ _ (s₁.setTop (mkF m 2 #[.val (.ref x0), .val (.long x1), .second] [(.ref x0), (.ref x0)]))
  obtain ⟨T1, X1, e1, st1⟩ := getF X0 hx hZ hown (host := "") (Or.inl (hw _ (List.mem_of_getElem? (i := 65) rfl))) Via.refl e0 F0_count (g := (mkF m 2 #[.val (.ref x0), .val (.long x1), .second] [(.ref x0), (.ref x0)])) rfl rfl (hb hby d11_2)
  refine Goes.step st1 ?_
  show Goes _ _ _ _ _ _ _ (T1.setTop (mkF m 5 #[.val (.ref x0), .val (.long x1), .second] [(.long f0_count), (.ref x0)]))
  refine Goes.step (fun _ k => XS.lloadN X1.here hx rfl (hb hby d11_5) rfl  k) ?_
  show Goes _ _ _ _ _ _ _ (T1.setTop (mkF m 6 #[.val (.ref x0), .val (.long x1), .second] [(.long x1), (.long f0_count), (.ref x0)]))
  refine Goes.step (fun _ k => XS.ladd X1.here hx rfl (hb hby d11_6) rfl k) ?_
  show Goes _ _ _ _ _ _ _ (T1.setTop (mkF m 7 #[.val (.ref x0), .val (.long x1), .second] [(.long (f0_count + x1)), (.ref x0)]))
  obtain ⟨T2, h2, X2, e2, W2, st2⟩ := putF X1 hx hZ hown (host := "") (Or.inl (hw _ (List.mem_of_getElem? (i := 65) rfl))) Via.refl e1 F0_count E_x0 (Or.inl (hw _ (List.mem_of_getElem? (i := 66) rfl))) (hw _ (List.mem_of_getElem? (i := 28) rfl)) (ty := .long) (by decide) rfl rfl (g := (mkF m 7 #[.val (.ref x0), .val (.long x1), .second] [(.long (f0_count + x1)), (.ref x0)])) rfl rfl (hb hby d11_7)
  refine Goes.step st2 ?_
  have f3 := F0_named.other W2 (Or.inr (slot_ne (Or.inr (hw _ (List.mem_of_getElem? (i := 59) rfl))) (Or.inl (hw _ (List.mem_of_getElem? (i := 66) rfl))) (by decide) (t := (.object "java/util/List")) (t' := .long) (by decide) (by decide)))
  have f4 := F0_count.same W2
  have f5 := E_x0.wr W2
  have K6 : Keep h0 h2 [x0] := K0.wr W2 (Or.inl (List.mem_of_getElem? (i := 0) rfl))
  have Z6 : n0 ≤ h2.size := by rw [Wr.size W2]; exact Z0
  have N6 := Fr.snoc X2 N0 g_x0
  show Goes _ _ _ _ _ _ _ (T2.setTop (mkF m 10 #[.val (.ref x0), .val (.long x1), .second] []))
  exact Goes.retV X2 hx (BodyLoose.notSynchronized Bd) Bd.returns (hb hby d11_10) (by show Q11 Z x0 x1 f0_named f0_count h0 n0 none T2.heap _; rw [e2]; exact ⟨N6, K6, ⟨rfl, f3, f4, f5⟩⟩) (by decide) (by decide)
theorem d13_0 : decode jdk_38_method_8_code 0 = .ok (.aload_n 0, 1) := by decide +kernel
theorem d13_1 : decode jdk_38_method_8_code 1 = .ok (.getfield 48, 3) := by decide +kernel
theorem d13_4 : decode jdk_38_method_8_code 4 = .ok (.ireturn, 1) := by decide +kernel
theorem pn_13 : plainName "java/util/ArrayList" = true := by first | (simp [plainName, overriddenIn]; done) | decide +kernel
theorem ef_13 (m : MethodId) (x0 : Addr) (f0_size : Int32)  : entryFrame m #[(.ref x0)] 1 = mkF m 0 #[.val (.ref x0)] [] := by first | (simp [entryFrame, mkF, argsToLocals, Value.category]; done) | rfl
def Q13 (Z : State) (x0 : Addr) (f0_size : Int32) (h0 : Heap) (n0 : Nat) (v : Option Value) (h : Heap) (L : List Loc) : Prop := Fr n0 L ∧ h = h0 ∧ ((v = some (.int f0_size)))
set_option maxRecDepth 65536 in
set_option maxHeartbeats 40000000 in
theorem rm13 (l : Launch) (Z : State) (a0 : Array Value) (hw : ∀ d ∈ tables_1, d.before a0 Z = true) (ws : List Jvm.Cond) (x0 : Addr) (f0_size : Int32) (h0 : Heap) (n0 : Nat) (Z0 : n0 ≤ h0.size) (F0_size : Fld Z h0 x0 "java/util/ArrayList" "size" "I" (.int f0_size)) :
    MetFree l (⟨"java/util/ArrayList", "size", "()I"⟩ : MethodName) (head1 (Jvm.Cond.code (⟨"java/util/ArrayList", "size", "()I"⟩ : MethodName) jdk_38_method_8_code 1 (some .int) :: ws) ({ frames := 0, cells := 0, slots := 0, locals := 0 } : Room)) (fun a U => a = #[(.ref x0)] ∧ Z.Warmed39 U.vm ∧ U.heap = h0) (fun _ _ _ _ _ => True) (fun _ U o U' => ∃ v L, o = .returned v ∧ Q13 Z x0 f0_size h0 n0 v U'.heap L ∧ FrameEnd U o U' L ({ frames := 0, cells := 0, slots := 0, locals := 0 } : Room).cells ({ frames := 0, cells := 0, slots := 0, locals := 0 } : Room).slots) := by
  refine MetFree.of_bodySF (plainFor_of_name pn_13) hisR ?_
  intro p e s m args below meth c s₁ Bd hml0 hP hK
  obtain ⟨rfl, hZ, hh⟩ := hP
  have hx := Bd.exec
  have hby := Bd.bytes
  have hml : c.maxLocals = 1 := hml0
  have hown : s.vm.findClass "java/util/ArrayList" = some m.cls := findClass_of_methodNamed Bd.named
  have hnm := (name_of_methodNamed Bd.named Bd.method).1
  have X0 : Stand p l e ({ frames := 0, cells := 0, slots := 0, locals := 0 } : Room) s m #[(.ref x0)] below meth c s₁ [] 0 0 := Stand.of_body Bd
  have e0 : s₁.heap = h0 := by rw [← hh, Bd.state]; rfl
  have N0 := Fr.nil n0
  have K0 : Keep h0 h0 [] := Keep.refl h0 _
  refine (?_ : Goes p e below s ({ frames := 0, cells := 0, slots := 0, locals := 0 } : Room).cells ({ frames := 0, cells := 0, slots := 0, locals := 0 } : Room).slots (fun v h L => Q13 Z x0 f0_size h0 n0 v h L) (s₁.setTop (entryFrame m #[(.ref x0)] 1)))
  rw [ef_13 m x0 f0_size ]
  show Goes _ _ _ _ _ _ _ (s₁.setTop (mkF m 0 #[.val (.ref x0)] []))
  refine Goes.step (fun _ k => XS.aloadN X0.here hx rfl (hb hby d13_0) rfl rfl k) ?_
  show Goes _ _ _ _ _ _ _ (s₁.setTop (mkF m 1 #[.val (.ref x0)] [(.ref x0)]))
  obtain ⟨T1, X1, e1, st1⟩ := getF X0 hx hZ hown (host := "") (Or.inl (hw _ (List.mem_of_getElem? (i := 86) rfl))) Via.refl e0 F0_size (g := (mkF m 1 #[.val (.ref x0)] [(.ref x0)])) rfl rfl (hb hby d13_1)
  refine Goes.step st1 ?_
  show Goes _ _ _ _ _ _ _ (T1.setTop (mkF m 4 #[.val (.ref x0)] [(.int f0_size)]))
  exact Goes.ret X1 hx (BodyLoose.notSynchronized Bd) Bd.returns rfl (Or.inl ⟨rfl, by simp, _, rfl⟩) (hb hby d13_4) (by show Q13 Z x0 f0_size h0 n0 (some (.int f0_size)) T1.heap _; rw [e1]; exact ⟨N0, rfl, rfl⟩) (by decide) (by decide)
theorem d18_0 : decode jdk_29_method_65_code 0 = .ok (.iload_n 0, 1) := by decide +kernel
theorem d18_1 : decode jdk_29_method_65_code 1 = .ok (.iload_n 1, 1) := by decide +kernel
theorem d18_2 : decode jdk_29_method_65_code 2 = .ok (.if_icmp .lt 7, 3) := by decide +kernel
theorem d18_5 : decode jdk_29_method_65_code 5 = .ok (.iload_n 0, 1) := by decide +kernel
theorem d18_6 : decode jdk_29_method_65_code 6 = .ok (.goto 4, 3) := by decide +kernel
theorem d18_9 : decode jdk_29_method_65_code 9 = .ok (.iload_n 1, 1) := by decide +kernel
theorem d18_10 : decode jdk_29_method_65_code 10 = .ok (.ireturn, 1) := by decide +kernel
theorem ef_18 (m : MethodId) (x0 : Int32) (x1 : Int32)  : entryFrame m #[(.int x0), (.int x1)] 2 = mkF m 0 #[.val (.int x0), .val (.int x1)] [] := by first | (simp [entryFrame, mkF, argsToLocals, Value.category]; done) | rfl
def Q18 (Z : State) (x0 : Int32) (x1 : Int32) (h0 : Heap) (n0 : Nat) (v : Option Value) (h : Heap) (L : List Loc) : Prop := Fr n0 L ∧ h = h0 ∧ ((v = some (.int x1) ∧ x0 < x1) ∨ (v = some (.int x0) ∧ ¬ (x0 < x1)))
set_option maxRecDepth 65536 in
set_option maxHeartbeats 40000000 in
theorem rm18 (l : Launch) (Z : State) (a0 : Array Value) (hw : ∀ d ∈ tables_1, d.before a0 Z = true) (ws : List Jvm.Cond) (x0 : Int32) (x1 : Int32) (h0 : Heap) (n0 : Nat) (Z0 : n0 ≤ h0.size) :
    MetFree l (⟨"java/lang/Math", "max", "(II)I"⟩ : MethodName) (head1 (Jvm.Cond.code (⟨"java/lang/Math", "max", "(II)I"⟩ : MethodName) jdk_29_method_65_code 2 (some .int) :: ws) ({ frames := 0, cells := 0, slots := 0, locals := 0 } : Room)) (fun a U => a = #[(.int x0), (.int x1)] ∧ Z.Warmed39 U.vm ∧ U.heap = h0) (fun _ _ _ _ _ => True) (fun _ U o U' => ∃ v L, o = .returned v ∧ Q18 Z x0 x1 h0 n0 v U'.heap L ∧ FrameEnd U o U' L ({ frames := 0, cells := 0, slots := 0, locals := 0 } : Room).cells ({ frames := 0, cells := 0, slots := 0, locals := 0 } : Room).slots) := by
  refine MetFree.of_bodySF (Jvm.Free.JP.mathPlain rfl (by decide +kernel)) hisR ?_
  intro p e s m args below meth c s₁ Bd hml0 hP hK
  obtain ⟨rfl, hZ, hh⟩ := hP
  have hx := Bd.exec
  have hby := Bd.bytes
  have hml : c.maxLocals = 2 := hml0
  have hown : s.vm.findClass "java/lang/Math" = some m.cls := findClass_of_methodNamed Bd.named
  have hnm := (name_of_methodNamed Bd.named Bd.method).1
  have X0 : Stand p l e ({ frames := 0, cells := 0, slots := 0, locals := 0 } : Room) s m #[(.int x0), (.int x1)] below meth c s₁ [] 0 0 := Stand.of_body Bd
  have e0 : s₁.heap = h0 := by rw [← hh, Bd.state]; rfl
  have N0 := Fr.nil n0
  have K0 : Keep h0 h0 [] := Keep.refl h0 _
  refine (?_ : Goes p e below s ({ frames := 0, cells := 0, slots := 0, locals := 0 } : Room).cells ({ frames := 0, cells := 0, slots := 0, locals := 0 } : Room).slots (fun v h L => Q18 Z x0 x1 h0 n0 v h L) (s₁.setTop (entryFrame m #[(.int x0), (.int x1)] 2)))
  rw [ef_18 m x0 x1 ]
  show Goes _ _ _ _ _ _ _ (s₁.setTop (mkF m 0 #[.val (.int x0), .val (.int x1)] []))
  refine Goes.step (fun _ k => XS.iloadN X0.here hx rfl (hb hby d18_0) rfl  k) ?_
  show Goes _ _ _ _ _ _ _ (s₁.setTop (mkF m 1 #[.val (.int x0), .val (.int x1)] [(.int x0)]))
  refine Goes.step (fun _ k => XS.iloadN X0.here hx rfl (hb hby d18_1) rfl  k) ?_
  show Goes _ _ _ _ _ _ _ (s₁.setTop (mkF m 2 #[.val (.int x0), .val (.int x1)] [(.int x1), (.int x0)]))
  by_cases c2_1 : x0 < x1
  · refine Goes.step (fun _ k => XS.icmpYes X0.here hx rfl (pc0 := 2) (pc' := 9) rfl (hb hby d18_2) rfl (tlt c2_1).1 (by decide) (by decide) k) ?_
    show Goes _ _ _ _ _ _ _ (s₁.setTop (mkF m 9 #[.val (.int x0), .val (.int x1)] []))
    refine Goes.step (fun _ k => XS.iloadN X0.here hx rfl (hb hby d18_9) rfl  k) ?_
    show Goes _ _ _ _ _ _ _ (s₁.setTop (mkF m 10 #[.val (.int x0), .val (.int x1)] [(.int x1)]))
    exact Goes.ret X0 hx (BodyLoose.notSynchronized Bd) Bd.returns rfl (Or.inl ⟨rfl, by simp, _, rfl⟩) (hb hby d18_10) (by show Q18 Z x0 x1 h0 n0 (some (.int x1)) s₁.heap _; rw [e0]; exact ⟨N0, rfl, Or.inl (⟨rfl, c2_1⟩)⟩) (by decide) (by decide)
  · refine Goes.step (fun _ k => XS.icmpNo X0.here hx rfl (hb hby d18_2) rfl (flt c2_1).1 k) ?_
    show Goes _ _ _ _ _ _ _ (s₁.setTop (mkF m 5 #[.val (.int x0), .val (.int x1)] []))
    refine Goes.step (fun _ k => XS.iloadN X0.here hx rfl (hb hby d18_5) rfl  k) ?_
    show Goes _ _ _ _ _ _ _ (s₁.setTop (mkF m 6 #[.val (.int x0), .val (.int x1)] [(.int x0)]))
    refine Goes.step (fun _ k => XS.goto X0.here hx rfl (pc0 := 6) (pc' := 10) rfl (hb hby d18_6) (by decide) (by decide) k) ?_
    show Goes _ _ _ _ _ _ _ (s₁.setTop (mkF m 10 #[.val (.int x0), .val (.int x1)] [(.int x0)]))
    exact Goes.ret X0 hx (BodyLoose.notSynchronized Bd) Bd.returns rfl (Or.inl ⟨rfl, by simp, _, rfl⟩) (hb hby d18_10) (by show Q18 Z x0 x1 h0 n0 (some (.int x0)) s₁.heap _; rw [e0]; exact ⟨N0, rfl, Or.inr (⟨rfl, c2_1⟩)⟩) (by decide) (by decide)
theorem d17_0 : decode jdk_38_method_6_code 0 = .ok (.aload_n 0, 1) := by decide +kernel
theorem d17_1 : decode jdk_38_method_6_code 1 = .ok (.getfield 9, 3) := by decide +kernel
theorem d17_4 : decode jdk_38_method_6_code 4 = .ok (.arraylength, 1) := by decide +kernel
theorem d17_5 : decode jdk_38_method_6_code 5 = .ok (.istore_n 2, 1) := by decide +kernel
theorem d17_6 : decode jdk_38_method_6_code 6 = .ok (.iload_n 2, 1) := by decide +kernel
theorem d17_7 : decode jdk_38_method_6_code 7 = .ok (.ifCond .gt 13, 3) := by decide +kernel
theorem d17_10 : decode jdk_38_method_6_code 10 = .ok (.aload_n 0, 1) := by decide +kernel
theorem d17_11 : decode jdk_38_method_6_code 11 = .ok (.getfield 9, 3) := by decide +kernel
theorem d17_14 : decode jdk_38_method_6_code 14 = .ok (.getstatic 39, 3) := by decide +kernel
theorem d17_17 : decode jdk_38_method_6_code 17 = .ok (.if_acmp .eq 28, 3) := by decide +kernel
theorem d17_45 : decode jdk_38_method_6_code 45 = .ok (.aload_n 0, 1) := by decide +kernel
theorem d17_46 : decode jdk_38_method_6_code 46 = .ok (.bipush 10, 2) := by decide +kernel
theorem d17_48 : decode jdk_38_method_6_code 48 = .ok (.iload_n 1, 1) := by decide +kernel
theorem d17_49 : decode jdk_38_method_6_code 49 = .ok (.invokestatic 79, 3) := by decide +kernel
theorem d17_52 : decode jdk_38_method_6_code 52 = .ok (.anewarray 7, 3) := by decide +kernel
theorem d17_55 : decode jdk_38_method_6_code 55 = .ok (.dup_x1, 1) := by decide +kernel
theorem d17_56 : decode jdk_38_method_6_code 56 = .ok (.putfield 9, 3) := by decide +kernel
theorem d17_59 : decode jdk_38_method_6_code 59 = .ok (.areturn, 1) := by decide +kernel
theorem pn_17 : plainName "java/util/ArrayList" = true := by first | (simp [plainName, overriddenIn]; done) | decide +kernel
theorem ef_17 (m : MethodId) (x0 : Addr) (y_DEFAULTCAPACITY_EMPTY_ELEMENTDATA : Addr) (f0_modCount : Int32) (ka_y_DEFAULTCAPACITY_EMPTY_ELEMENTDATA : ClassId)  : entryFrame m #[(.ref x0), (.int (1 : Int32))] 4 = mkF m 0 #[.val (.ref x0), .val (.int (1 : Int32)), .unset, .unset] [] := by first | (simp [entryFrame, mkF, argsToLocals, Value.category]; done) | rfl
theorem pd_13 : parseMethodDescriptor "(II)I" = some ⟨[.int, .int], some .int⟩ := by decide +kernel
def Q17 (Z : State) (x0 : Addr) (y_DEFAULTCAPACITY_EMPTY_ELEMENTDATA : Addr) (f0_modCount : Int32) (ka_y_DEFAULTCAPACITY_EMPTY_ELEMENTDATA : ClassId) (h0 : Heap) (n0 : Nat) (v : Option Value) (h : Heap) (L : List Loc) : Prop := Fr n0 L ∧ Keep h0 h [x0] ∧ ((∃ (r_0 : Addr) (k_0 : ClassId), v = some (.ref r_0) ∧ ¬ ((10 : Int32) < (1 : Int32)) ∧ n0 ≤ r_0 ∧ h0.size ≤ r_0 ∧ Fld Z h x0 "java/util/AbstractList" "modCount" "I" (.int f0_modCount) ∧ Fld Z h x0 "java/util/ArrayList" "elementData" "[Ljava/lang/Object;" (.ref r_0) ∧ Fld Z h x0 "java/util/ArrayList" "size" "I" (.int (0 : Int32)) ∧ Exa Z h x0 "java/util/ArrayList" ∧ Arv Z h r_0 k_0 (.object "java/lang/Object") (10 : Int32) [.null, .null, .null, .null, .null, .null, .null, .null, .null, .null] .null ∧ Ovr Z k_0 "java/lang/Object"))
set_option maxRecDepth 65536 in
set_option maxHeartbeats 40000000 in
theorem rm17 (l : Launch) (Z : State) (a0 : Array Value) (hw : ∀ d ∈ tables_1, d.before a0 Z = true) (ws : List Jvm.Cond) (x0 : Addr) (y_DEFAULTCAPACITY_EMPTY_ELEMENTDATA : Addr) (f0_modCount : Int32) (ka_y_DEFAULTCAPACITY_EMPTY_ELEMENTDATA : ClassId) (h0 : Heap) (n0 : Nat) (Z0 : n0 ≤ h0.size) (S_DEFAULTCAPACITY_EMPTY_ELEMENTDATA : Sta Z Z.heap "java/util/ArrayList" "DEFAULTCAPACITY_EMPTY_ELEMENTDATA" "[Ljava/lang/Object;" (.ref y_DEFAULTCAPACITY_EMPTY_ELEMENTDATA)) (X00 : Old Z n0 h0) (F0_modCount : Fld Z h0 x0 "java/util/AbstractList" "modCount" "I" (.int f0_modCount)) (F0_elementData : Fld Z h0 x0 "java/util/ArrayList" "elementData" "[Ljava/lang/Object;" (.ref y_DEFAULTCAPACITY_EMPTY_ELEMENTDATA)) (F0_size : Fld Z h0 x0 "java/util/ArrayList" "size" "I" (.int (0 : Int32))) (E_x0 : Exa Z h0 x0 "java/util/ArrayList") (V_y_DEFAULTCAPACITY_EMPTY_ELEMENTDATA : Arx Z h0 y_DEFAULTCAPACITY_EMPTY_ELEMENTDATA ka_y_DEFAULTCAPACITY_EMPTY_ELEMENTDATA (.object "java/lang/Object") (0 : Int32)) (g_x0 : n0 ≤ x0) (ne_y_DEFAULTCAPACITY_EMPTY_ELEMENTDATA_x0 : y_DEFAULTCAPACITY_EMPTY_ELEMENTDATA ≠ x0) :
    MetFree l (⟨"java/util/ArrayList", "grow", "(I)[Ljava/lang/Object;"⟩ : MethodName) (head1 (Jvm.Cond.code (⟨"java/util/ArrayList", "grow", "(I)[Ljava/lang/Object;"⟩ : MethodName) jdk_38_method_6_code 4 (some (.array (.object "java/lang/Object"))) :: ws) ({ frames := 1, cells := 1, slots := 10, locals := 14 } : Room)) (fun a U => a = #[(.ref x0), (.int (1 : Int32))] ∧ Z.Warmed39 U.vm ∧ U.heap = h0) (fun _ _ _ _ _ => True) (fun _ U o U' => ∃ v L, o = .returned v ∧ Q17 Z x0 y_DEFAULTCAPACITY_EMPTY_ELEMENTDATA f0_modCount ka_y_DEFAULTCAPACITY_EMPTY_ELEMENTDATA h0 n0 v U'.heap L ∧ FrameEnd U o U' L ({ frames := 1, cells := 1, slots := 10, locals := 14 } : Room).cells ({ frames := 1, cells := 1, slots := 10, locals := 14 } : Room).slots) := by
  refine MetFree.of_bodySF (plainFor_of_name pn_17) hisR ?_
  intro p e s m args below meth c s₁ Bd hml0 hP hK
  obtain ⟨rfl, hZ, hh⟩ := hP
  have hx := Bd.exec
  have hby := Bd.bytes
  have hml : c.maxLocals = 4 := hml0
  have hown : s.vm.findClass "java/util/ArrayList" = some m.cls := findClass_of_methodNamed Bd.named
  have hnm := (name_of_methodNamed Bd.named Bd.method).1
  have X0 : Stand p l e ({ frames := 1, cells := 1, slots := 10, locals := 14 } : Room) s m #[(.ref x0), (.int (1 : Int32))] below meth c s₁ [] 0 0 := Stand.of_body Bd
  have e0 : s₁.heap = h0 := by rw [← hh, Bd.state]; rfl
  have N0 := Fr.nil n0
  have K0 : Keep h0 h0 [x0] := Keep.refl h0 _
  refine (?_ : Goes p e below s ({ frames := 1, cells := 1, slots := 10, locals := 14 } : Room).cells ({ frames := 1, cells := 1, slots := 10, locals := 14 } : Room).slots (fun v h L => Q17 Z x0 y_DEFAULTCAPACITY_EMPTY_ELEMENTDATA f0_modCount ka_y_DEFAULTCAPACITY_EMPTY_ELEMENTDATA h0 n0 v h L) (s₁.setTop (entryFrame m #[(.ref x0), (.int (1 : Int32))] 4)))
  rw [ef_17 m x0 y_DEFAULTCAPACITY_EMPTY_ELEMENTDATA f0_modCount ka_y_DEFAULTCAPACITY_EMPTY_ELEMENTDATA ]
  show Goes _ _ _ _ _ _ _ (s₁.setTop (mkF m 0 #[.val (.ref x0), .val (.int (1 : Int32)), .unset, .unset] []))
  refine Goes.step (fun _ k => XS.aloadN X0.here hx rfl (hb hby d17_0) rfl rfl k) ?_
  show Goes _ _ _ _ _ _ _ (s₁.setTop (mkF m 1 #[.val (.ref x0), .val (.int (1 : Int32)), .unset, .unset] [(.ref x0)]))
  obtain ⟨T1, X1, e1, st1⟩ := getF X0 hx hZ hown (host := "") (Or.inl (hw _ (List.mem_of_getElem? (i := 56) rfl))) Via.refl e0 F0_elementData (g := (mkF m 1 #[.val (.ref x0), .val (.int (1 : Int32)), .unset, .unset] [(.ref x0)])) rfl rfl (hb hby d17_1)
  refine Goes.step st1 ?_
  show Goes _ _ _ _ _ _ _ (T1.setTop (mkF m 4 #[.val (.ref x0), .val (.int (1 : Int32)), .unset, .unset] [(.ref y_DEFAULTCAPACITY_EMPTY_ELEMENTDATA)]))
  obtain ⟨cl2, Ar2, q2, S2, P2, G2⟩ := id V_y_DEFAULTCAPACITY_EMPTY_ELEMENTDATA
  refine Goes.step (fun _ k => X1.arraylength hx (by rw [e1]; exact Ar2.1) (State.isArrayOf_alike hZ.alike Ar2.2.1) (g := (mkF m 4 #[.val (.ref x0), .val (.int (1 : Int32)), .unset, .unset] [(.ref y_DEFAULTCAPACITY_EMPTY_ELEMENTDATA)])) rfl rfl (hb hby d17_4) _ k) ?_
  rw [len_of S2 P2]
  show Goes _ _ _ _ _ _ _ (T1.setTop (mkF m 5 #[.val (.ref x0), .val (.int (1 : Int32)), .unset, .unset] [(.int (0 : Int32))]))
  refine Goes.step (fun _ k => XS.istoreN X1.here hx rfl (hb hby d17_5) rfl (l' := #[.val (.ref x0), .val (.int (1 : Int32)), .val (.int (0 : Int32)), .unset]) rfl k) ?_
  show Goes _ _ _ _ _ _ _ (T1.setTop (mkF m 6 #[.val (.ref x0), .val (.int (1 : Int32)), .val (.int (0 : Int32)), .unset] []))
  refine Goes.step (fun _ k => XS.iloadN X1.here hx rfl (hb hby d17_6) rfl  k) ?_
  show Goes _ _ _ _ _ _ _ (T1.setTop (mkF m 7 #[.val (.ref x0), .val (.int (1 : Int32)), .val (.int (0 : Int32)), .unset] [(.int (0 : Int32))]))
  refine Goes.step (fun _ k => XS.ifNo X1.here hx rfl (hb hby d17_7) rfl ((if0 _ _).trans (flt (by decide : ¬ ((0 : Int32) < (0 : Int32)))).2.2.1) k) ?_
  show Goes _ _ _ _ _ _ _ (T1.setTop (mkF m 10 #[.val (.ref x0), .val (.int (1 : Int32)), .val (.int (0 : Int32)), .unset] []))
  refine Goes.step (fun _ k => XS.aloadN X1.here hx rfl (hb hby d17_10) rfl rfl k) ?_
  show Goes _ _ _ _ _ _ _ (T1.setTop (mkF m 11 #[.val (.ref x0), .val (.int (1 : Int32)), .val (.int (0 : Int32)), .unset] [(.ref x0)]))
  obtain ⟨T3, X3, e3, st3⟩ := getF X1 hx hZ hown (host := "") (Or.inl (hw _ (List.mem_of_getElem? (i := 56) rfl))) Via.refl e1 F0_elementData (g := (mkF m 11 #[.val (.ref x0), .val (.int (1 : Int32)), .val (.int (0 : Int32)), .unset] [(.ref x0)])) rfl rfl (hb hby d17_11)
  refine Goes.step st3 ?_
  show Goes _ _ _ _ _ _ _ (T3.setTop (mkF m 14 #[.val (.ref x0), .val (.int (1 : Int32)), .val (.int (0 : Int32)), .unset] [(.ref y_DEFAULTCAPACITY_EMPTY_ELEMENTDATA)]))
  obtain ⟨T4, X4, e4, st4⟩ := getS2 X3 hx hZ hown (host := "") (Or.inl (hw _ (List.mem_of_getElem? (i := 55) rfl))) Via.refl e3 (S_DEFAULTCAPACITY_EMPTY_ELEMENTDATA.ext X00.2) (g := (mkF m 14 #[.val (.ref x0), .val (.int (1 : Int32)), .val (.int (0 : Int32)), .unset] [(.ref y_DEFAULTCAPACITY_EMPTY_ELEMENTDATA)])) rfl (hb hby d17_14)
  refine Goes.step st4 ?_
  show Goes _ _ _ _ _ _ _ (T4.setTop (mkF m 17 #[.val (.ref x0), .val (.int (1 : Int32)), .val (.int (0 : Int32)), .unset] [(.ref y_DEFAULTCAPACITY_EMPTY_ELEMENTDATA), (.ref y_DEFAULTCAPACITY_EMPTY_ELEMENTDATA)]))
  refine Goes.step (fun _ k => Jvm.RoadKit.acmp X4 hx rfl rfl rfl (pc0 := 17) (pc' := 45) (same := true) rfl (hb hby d17_17) rfl (decide_eq_true rfl) (by decide) (by decide) k) ?_
  show Goes _ _ _ _ _ _ _ (T4.setTop (mkF m 45 #[.val (.ref x0), .val (.int (1 : Int32)), .val (.int (0 : Int32)), .unset] []))
  refine Goes.step (fun _ k => XS.aloadN X4.here hx rfl (hb hby d17_45) rfl rfl k) ?_
  show Goes _ _ _ _ _ _ _ (T4.setTop (mkF m 46 #[.val (.ref x0), .val (.int (1 : Int32)), .val (.int (0 : Int32)), .unset] [(.ref x0)]))
  refine Goes.step (fun _ k => XS.bipush X4.here hx rfl (hb hby d17_46) k) ?_
  show Goes _ _ _ _ _ _ _ (T4.setTop (mkF m 48 #[.val (.ref x0), .val (.int (1 : Int32)), .val (.int (0 : Int32)), .unset] [(.int (10 : Int32)), (.ref x0)]))
  refine Goes.step (fun _ k => XS.iloadN X4.here hx rfl (hb hby d17_48) rfl  k) ?_
  show Goes _ _ _ _ _ _ _ (T4.setTop (mkF m 49 #[.val (.ref x0), .val (.int (1 : Int32)), .val (.int (0 : Int32)), .unset] [(.int (1 : Int32)), (.int (10 : Int32)), (.ref x0)]))
  obtain ⟨_, _, ⟨T5, L5, k5, n5⟩, -, X5, ⟨Lc5, hQ5, l5, y5, z5⟩, st5⟩ := Jvm.LawKit.callS X4 hx (y := (⟨"java/lang/Math", "max", "(II)I"⟩ : MethodName)) hown (mvT hZ (hw _ (List.mem_of_getElem? (i := 113) rfl))) (mvT hZ (hw _ (List.mem_of_getElem? (i := 114) rfl))) (mvT hZ (hw _ (List.mem_of_getElem? (i := 115) rfl))) (mvT hZ (hw _ (List.mem_of_getElem? (i := 116) rfl))) (by decide) (backOf (W := 1) (rm18 l Z a0 hw [] (10 : Int32) (1 : Int32) h0 n0 Z0 ) hZ (hw _ (List.mem_of_getElem? (i := 116) rfl)) (hw _ (List.mem_of_getElem? (i := 115) rfl)) (by decide) (by decide)) (g := (mkF m 49 #[.val (.ref x0), .val (.int (1 : Int32)), .val (.int (0 : Int32)), .unset] [(.int (1 : Int32)), (.int (10 : Int32)), (.ref x0)])) rfl (by rw [hml]; rfl) (argsL := [(.int (10 : Int32)), (.int (1 : Int32))]) (rest := [(.ref x0)]) (lenOf pd_13 rfl) rfl (by show 2 * 0 + _ ≤ _; exact Nat.le_of_eq rfl) (hb hby d17_49) (fun _ _ => ⟨rfl, e4, (by decide : 0 + 0 ≤ _), (by decide : 0 + 0 ≤ _)⟩)
  dsimp only [Pt.U, Pt.locs, Pt.cells, Pt.slots] at X5 l5 y5 z5 st5 hQ5
  subst l5 y5 z5
  obtain ⟨N5, eh5, hR5⟩ := hQ5
  have NA5 := Fr.app N0 N5
  rcases hR5 with ⟨rfl, u5_0_0⟩ | ⟨rfl, u5_1_0⟩
  · exact absurd u5_0_0 (by decide : ¬ ((10 : Int32) < (1 : Int32)))
  · refine Goes.step st5 ?_
    show Goes _ _ _ _ _ _ _ (T5.setTop (mkF m 52 #[.val (.ref x0), .val (.int (1 : Int32)), .val (.int (0 : Int32)), .unset] [(.int (10 : Int32)), (.ref x0)]))
    obtain ⟨T6, h6, k6, X6, e6, E6, A6, O6, st6⟩ := newR X5 hx hZ hown (hw _ (List.mem_of_getElem? (i := 117) rfl)) (hw _ (List.mem_of_getElem? (i := 118) rfl)) eh5 (g := (mkF m 52 #[.val (.ref x0), .val (.int (1 : Int32)), .val (.int (0 : Int32)), .unset] [(.int (10 : Int32)), (.ref x0)])) rfl (hb hby d17_52) rfl (by decide) (cap := 10) (by decide) (by decide) (by decide) (by decide)
    obtain ⟨b6, g6⟩ : ∃ z, z = h0.size := ⟨_, rfl⟩
    rw [← g6] at A6 st6
    refine Goes.step st6 ?_
    have g_b6 : n0 ≤ b6 := Nat.le_trans Z0 (Nat.le_of_eq g6.symm)
    have sz_b6 : h0.size ≤ b6 := Nat.le_trans K0.1 (Nat.le_of_eq g6.symm)
    have ne7 : x0 ≠ b6 := Nat.ne_of_lt (Nat.lt_of_lt_of_le F0_modCount.lt (Nat.le_of_eq g6.symm))
    have ne8 : y_DEFAULTCAPACITY_EMPTY_ELEMENTDATA ≠ b6 := Nat.ne_of_lt (Nat.lt_of_lt_of_le V_y_DEFAULTCAPACITY_EMPTY_ELEMENTDATA.lt (Nat.le_of_eq g6.symm))
    have XO9 : Old Z n0 h6 := X00.ext E6
    have f10 := F0_modCount.ext E6
    have f11 := F0_elementData.ext E6
    have f12 := F0_size.ext E6
    have f13 := E_x0.ext E6
    have f14 := V_y_DEFAULTCAPACITY_EMPTY_ELEMENTDATA.ext E6
    have K15 : Keep h0 h6 [x0] := K0.ext E6
    have Z15 : n0 ≤ h6.size := Nat.le_trans Z0 E6.1
    have V_b6 : Arv Z h6 b6 k6 (.object "java/lang/Object") (10 : Int32) [.null, .null, .null, .null, .null, .null, .null, .null, .null, .null] .null := (Arv.new A6 (by decide)).pad (pad_rep [] .null 10)
    show Goes _ _ _ _ _ _ _ (T6.setTop (mkF m 55 #[.val (.ref x0), .val (.int (1 : Int32)), .val (.int (0 : Int32)), .unset] [(.ref b6), (.ref x0)]))
    refine Goes.step (fun _ k => XS.dupX1 X6.here hx rfl (hb hby d17_55) rfl rfl rfl k) ?_
    show Goes _ _ _ _ _ _ _ (T6.setTop (mkF m 56 #[.val (.ref x0), .val (.int (1 : Int32)), .val (.int (0 : Int32)), .unset] [(.ref b6), (.ref x0), (.ref b6)]))
    obtain ⟨T16, h16, X16, e16, W16, st16⟩ := putF X6 hx hZ hown (host := "") (Or.inl (hw _ (List.mem_of_getElem? (i := 56) rfl))) Via.refl e6 f11 f13 (Or.inl (hw _ (List.mem_of_getElem? (i := 57) rfl))) (hw _ (List.mem_of_getElem? (i := 35) rfl)) (ty := (.array (.object "java/lang/Object"))) (by decide) rfl rfl (g := (mkF m 56 #[.val (.ref x0), .val (.int (1 : Int32)), .val (.int (0 : Int32)), .unset] [(.ref b6), (.ref x0), (.ref b6)])) rfl rfl (hb hby d17_56)
    refine Goes.step st16 ?_
    have XO17 : Old Z n0 h16 := XO9.wr W16 g_x0
    have f18 := f10.other W16 (Or.inr (slot_ne (Or.inl (hw _ (List.mem_of_getElem? (i := 54) rfl))) (Or.inl (hw _ (List.mem_of_getElem? (i := 57) rfl))) (by decide) (t := .int) (t' := (.array (.object "java/lang/Object"))) (by decide) (by decide)))
    have f19 := f11.same W16
    have f20 := f12.other W16 (Or.inr (slot_ne (Or.inl (hw _ (List.mem_of_getElem? (i := 87) rfl))) (Or.inl (hw _ (List.mem_of_getElem? (i := 57) rfl))) (by decide) (t := .int) (t' := (.array (.object "java/lang/Object"))) (by decide) (by decide)))
    have f21 := f13.wr W16
    have f22 := f14.other W16 ne_y_DEFAULTCAPACITY_EMPTY_ELEMENTDATA_x0
    have f23 := V_b6.other W16 (Ne.symm ne7)
    have K24 : Keep h0 h16 [x0] := K15.wr W16 (Or.inl (List.mem_of_getElem? (i := 0) rfl))
    have Z24 : n0 ≤ h16.size := by rw [Wr.size W16]; exact Z15
    have N24 := Fr.snoc X16 NA5 g_x0
    show Goes _ _ _ _ _ _ _ (T16.setTop (mkF m 59 #[.val (.ref x0), .val (.int (1 : Int32)), .val (.int (0 : Int32)), .unset] [(.ref b6)]))
    exact Goes.ret X16 hx (BodyLoose.notSynchronized Bd) Bd.returns rfl (Or.inr (Or.inr (Or.inr (Or.inr ⟨rfl, rfl, rfl⟩)))) (hb hby d17_59) (by show Q17 Z x0 y_DEFAULTCAPACITY_EMPTY_ELEMENTDATA f0_modCount ka_y_DEFAULTCAPACITY_EMPTY_ELEMENTDATA h0 n0 (some (.ref b6)) T16.heap _; rw [e16]; exact ⟨N24, K24, ⟨b6, k6, rfl, u5_1_0, g_b6, sz_b6, f18, f19, f20, f21, f23, O6⟩⟩) (by decide) (by decide)
theorem d16_0 : decode jdk_38_method_7_code 0 = .ok (.aload_n 0, 1) := by decide +kernel
theorem d16_1 : decode jdk_38_method_7_code 1 = .ok (.aload_n 0, 1) := by decide +kernel
theorem d16_2 : decode jdk_38_method_7_code 2 = .ok (.getfield 48, 3) := by decide +kernel
theorem d16_5 : decode jdk_38_method_7_code 5 = .ok (.iconst 1, 1) := by decide +kernel
theorem d16_6 : decode jdk_38_method_7_code 6 = .ok (.iadd, 1) := by decide +kernel
theorem d16_7 : decode jdk_38_method_7_code 7 = .ok (.invokevirtual 69, 3) := by decide +kernel
theorem d16_10 : decode jdk_38_method_7_code 10 = .ok (.areturn, 1) := by decide +kernel
theorem pn_16 : plainName "java/util/ArrayList" = true := by first | (simp [plainName, overriddenIn]; done) | decide +kernel
theorem ef_16 (m : MethodId) (x0 : Addr) (y_DEFAULTCAPACITY_EMPTY_ELEMENTDATA : Addr) (f0_modCount : Int32) (ka_y_DEFAULTCAPACITY_EMPTY_ELEMENTDATA : ClassId)  : entryFrame m #[(.ref x0)] 1 = mkF m 0 #[.val (.ref x0)] [] := by first | (simp [entryFrame, mkF, argsToLocals, Value.category]; done) | rfl
theorem pd_12 : parseMethodDescriptor "(I)[Ljava/lang/Object;" = some ⟨[.int], some (.array (.object "java/lang/Object"))⟩ := by decide +kernel
def Q16 (Z : State) (x0 : Addr) (y_DEFAULTCAPACITY_EMPTY_ELEMENTDATA : Addr) (f0_modCount : Int32) (ka_y_DEFAULTCAPACITY_EMPTY_ELEMENTDATA : ClassId) (h0 : Heap) (n0 : Nat) (v : Option Value) (h : Heap) (L : List Loc) : Prop := Fr n0 L ∧ Keep h0 h [x0] ∧ ((∃ (r_0 : Addr) (k_0 : ClassId), v = some (.ref r_0) ∧ n0 ≤ r_0 ∧ h0.size ≤ r_0 ∧ Exa Z h x0 "java/util/ArrayList" ∧ Fld Z h x0 "java/util/AbstractList" "modCount" "I" (.int f0_modCount) ∧ Fld Z h x0 "java/util/ArrayList" "elementData" "[Ljava/lang/Object;" (.ref r_0) ∧ Fld Z h x0 "java/util/ArrayList" "size" "I" (.int (0 : Int32)) ∧ Arv Z h r_0 k_0 (.object "java/lang/Object") (10 : Int32) [.null, .null, .null, .null, .null, .null, .null, .null, .null, .null] .null ∧ Ovr Z k_0 "java/lang/Object"))
set_option maxRecDepth 65536 in
set_option maxHeartbeats 40000000 in
theorem rm16 (l : Launch) (Z : State) (a0 : Array Value) (hw : ∀ d ∈ tables_1, d.before a0 Z = true) (ws : List Jvm.Cond) (x0 : Addr) (y_DEFAULTCAPACITY_EMPTY_ELEMENTDATA : Addr) (f0_modCount : Int32) (ka_y_DEFAULTCAPACITY_EMPTY_ELEMENTDATA : ClassId) (h0 : Heap) (n0 : Nat) (Z0 : n0 ≤ h0.size) (S_DEFAULTCAPACITY_EMPTY_ELEMENTDATA : Sta Z Z.heap "java/util/ArrayList" "DEFAULTCAPACITY_EMPTY_ELEMENTDATA" "[Ljava/lang/Object;" (.ref y_DEFAULTCAPACITY_EMPTY_ELEMENTDATA)) (X00 : Old Z n0 h0) (F0_modCount : Fld Z h0 x0 "java/util/AbstractList" "modCount" "I" (.int f0_modCount)) (F0_elementData : Fld Z h0 x0 "java/util/ArrayList" "elementData" "[Ljava/lang/Object;" (.ref y_DEFAULTCAPACITY_EMPTY_ELEMENTDATA)) (F0_size : Fld Z h0 x0 "java/util/ArrayList" "size" "I" (.int (0 : Int32))) (E_x0 : Exa Z h0 x0 "java/util/ArrayList") (V_y_DEFAULTCAPACITY_EMPTY_ELEMENTDATA : Arx Z h0 y_DEFAULTCAPACITY_EMPTY_ELEMENTDATA ka_y_DEFAULTCAPACITY_EMPTY_ELEMENTDATA (.object "java/lang/Object") (0 : Int32)) (g_x0 : n0 ≤ x0) (ne_y_DEFAULTCAPACITY_EMPTY_ELEMENTDATA_x0 : y_DEFAULTCAPACITY_EMPTY_ELEMENTDATA ≠ x0) :
    MetFree l (⟨"java/util/ArrayList", "grow", "()[Ljava/lang/Object;"⟩ : MethodName) (head1 (Jvm.Cond.code (⟨"java/util/ArrayList", "grow", "()[Ljava/lang/Object;"⟩ : MethodName) jdk_38_method_7_code 1 (some (.array (.object "java/lang/Object"))) :: ws) ({ frames := 2, cells := 1, slots := 10, locals := 29 } : Room)) (fun a U => a = #[(.ref x0)] ∧ Z.Warmed39 U.vm ∧ U.heap = h0) (fun _ _ _ _ _ => True) (fun _ U o U' => ∃ v L, o = .returned v ∧ Q16 Z x0 y_DEFAULTCAPACITY_EMPTY_ELEMENTDATA f0_modCount ka_y_DEFAULTCAPACITY_EMPTY_ELEMENTDATA h0 n0 v U'.heap L ∧ FrameEnd U o U' L ({ frames := 2, cells := 1, slots := 10, locals := 29 } : Room).cells ({ frames := 2, cells := 1, slots := 10, locals := 29 } : Room).slots) := by
  refine MetFree.of_bodySF (plainFor_of_name pn_16) hisR ?_
  intro p e s m args below meth c s₁ Bd hml0 hP hK
  obtain ⟨rfl, hZ, hh⟩ := hP
  have hx := Bd.exec
  have hby := Bd.bytes
  have hml : c.maxLocals = 1 := hml0
  have hown : s.vm.findClass "java/util/ArrayList" = some m.cls := findClass_of_methodNamed Bd.named
  have hnm := (name_of_methodNamed Bd.named Bd.method).1
  have X0 : Stand p l e ({ frames := 2, cells := 1, slots := 10, locals := 29 } : Room) s m #[(.ref x0)] below meth c s₁ [] 0 0 := Stand.of_body Bd
  have e0 : s₁.heap = h0 := by rw [← hh, Bd.state]; rfl
  have N0 := Fr.nil n0
  have K0 : Keep h0 h0 [x0] := Keep.refl h0 _
  refine (?_ : Goes p e below s ({ frames := 2, cells := 1, slots := 10, locals := 29 } : Room).cells ({ frames := 2, cells := 1, slots := 10, locals := 29 } : Room).slots (fun v h L => Q16 Z x0 y_DEFAULTCAPACITY_EMPTY_ELEMENTDATA f0_modCount ka_y_DEFAULTCAPACITY_EMPTY_ELEMENTDATA h0 n0 v h L) (s₁.setTop (entryFrame m #[(.ref x0)] 1)))
  rw [ef_16 m x0 y_DEFAULTCAPACITY_EMPTY_ELEMENTDATA f0_modCount ka_y_DEFAULTCAPACITY_EMPTY_ELEMENTDATA ]
  show Goes _ _ _ _ _ _ _ (s₁.setTop (mkF m 0 #[.val (.ref x0)] []))
  refine Goes.step (fun _ k => XS.aloadN X0.here hx rfl (hb hby d16_0) rfl rfl k) ?_
  show Goes _ _ _ _ _ _ _ (s₁.setTop (mkF m 1 #[.val (.ref x0)] [(.ref x0)]))
  refine Goes.step (fun _ k => XS.aloadN X0.here hx rfl (hb hby d16_1) rfl rfl k) ?_
  show Goes _ _ _ _ _ _ _ (s₁.setTop (mkF m 2 #[.val (.ref x0)] [(.ref x0), (.ref x0)]))
  obtain ⟨T1, X1, e1, st1⟩ := getF X0 hx hZ hown (host := "") (Or.inl (hw _ (List.mem_of_getElem? (i := 86) rfl))) Via.refl e0 F0_size (g := (mkF m 2 #[.val (.ref x0)] [(.ref x0), (.ref x0)])) rfl rfl (hb hby d16_2)
  refine Goes.step st1 ?_
  show Goes _ _ _ _ _ _ _ (T1.setTop (mkF m 5 #[.val (.ref x0)] [(.int (0 : Int32)), (.ref x0)]))
  refine Goes.step (fun _ k => XS.iconst X1.here hx rfl (hb hby d16_5) k) ?_
  show Goes _ _ _ _ _ _ _ (T1.setTop (mkF m 6 #[.val (.ref x0)] [(.int (1 : Int32)), (.int (0 : Int32)), (.ref x0)]))
  refine Goes.step (fun _ k => XS.iadd X1.here hx rfl (hb hby d16_6) rfl k) ?_
  show Goes _ _ _ _ _ _ _ (T1.setTop (mkF m 7 #[.val (.ref x0)] [(.int (1 : Int32)), (.ref x0)]))
  obtain ⟨cq2, q2, q2'⟩ := E_x0.cell
  obtain ⟨_, _, ⟨T2, L2, k2, n2⟩, -, X2, ⟨Lc2, hQ2, l2, y2, z2⟩, st2⟩ := X1.privateBack hx (y := (⟨"java/util/ArrayList", "grow", "(I)[Ljava/lang/Object;"⟩ : MethodName)) hown (mvT hZ (hw _ (List.mem_of_getElem? (i := 108) rfl))) (mvT hZ (hw _ (List.mem_of_getElem? (i := 109) rfl))) (mvT hZ (hw _ (List.mem_of_getElem? (i := 111) rfl))) (Cond.privateMethod_at (mvP hZ (hw _ (List.mem_of_getElem? (i := 110) rfl)) (args := #[]))) (mvT hZ (hw _ (List.mem_of_getElem? (i := 112) rfl))) (by decide) (backOf (W := 0) (rm17 l Z a0 hw [] x0 y_DEFAULTCAPACITY_EMPTY_ELEMENTDATA f0_modCount ka_y_DEFAULTCAPACITY_EMPTY_ELEMENTDATA h0 n0 Z0 S_DEFAULTCAPACITY_EMPTY_ELEMENTDATA X00 F0_modCount F0_elementData F0_size E_x0 V_y_DEFAULTCAPACITY_EMPTY_ELEMENTDATA g_x0 ne_y_DEFAULTCAPACITY_EMPTY_ELEMENTDATA_x0) hZ (hw _ (List.mem_of_getElem? (i := 112) rfl)) (hw _ (List.mem_of_getElem? (i := 36) rfl)) (by decide) (by decide)) (g := (mkF m 7 #[.val (.ref x0)] [(.int (1 : Int32)), (.ref x0)])) rfl (by rw [hml]; rfl) (Steps.refl _) (a := x0) (by rw [e1]; exact q2) q2' (argsL := [(.int (1 : Int32))]) (rest := []) (lenOf pd_12 rfl) rfl (by show 2 * 0 + _ ≤ _; exact Nat.le_of_eq rfl) (hb hby d16_7) (fun _ _ => ⟨rfl, e1, (by decide : 0 + 1 ≤ _), (by decide : 0 + 10 ≤ _)⟩)
  dsimp only [Pt.U, Pt.locs, Pt.cells, Pt.slots] at X2 l2 y2 z2 st2 hQ2
  subst l2 y2 z2
  obtain ⟨N2, KK2, hR2⟩ := hQ2
  have NA2 := Fr.app N0 N2
  have XO3 : Old Z n0 T2.heap := X00.keep KK2 (allS g_x0 all0)
  have f7 := E_x0.keep KK2
  have f8 := V_y_DEFAULTCAPACITY_EMPTY_ELEMENTDATA.keep KK2 (ninS ne_y_DEFAULTCAPACITY_EMPTY_ELEMENTDATA_x0 nin0)
  have K9 : Keep h0 T2.heap [x0] := K0.trans KK2 (allS (Or.inl (List.mem_of_getElem? (i := 0) rfl)) all0)
  have Z9 : n0 ≤ T2.heap.size := Nat.le_trans Z0 KK2.1
  obtain ⟨r2_0_0, kk2_0_0, rfl, u2_0_0, g_r2_0_0, le_r2_0_0, v2_0_0, v2_0_1, v2_0_2, v2_0_3, v2_0_4, oo2_0_0⟩ := hR2
  have ne10 : x0 ≠ r2_0_0 := Nat.ne_of_lt (Nat.lt_of_lt_of_le F0_modCount.lt le_r2_0_0)
  have ne11 : y_DEFAULTCAPACITY_EMPTY_ELEMENTDATA ≠ r2_0_0 := Nat.ne_of_lt (Nat.lt_of_lt_of_le V_y_DEFAULTCAPACITY_EMPTY_ELEMENTDATA.lt le_r2_0_0)
  have sz_r2_0_0 : h0.size ≤ r2_0_0 := Nat.le_trans K0.1 le_r2_0_0
  refine Goes.back st2 ?_
  show Goes _ _ _ _ _ _ _ (T2.setTop (mkF m 10 #[.val (.ref x0)] [(.ref r2_0_0)]))
  exact Goes.ret X2 hx (BodyLoose.notSynchronized Bd) Bd.returns rfl (Or.inr (Or.inr (Or.inr (Or.inr ⟨rfl, rfl, rfl⟩)))) (hb hby d16_10) (by show Q16 Z x0 y_DEFAULTCAPACITY_EMPTY_ELEMENTDATA f0_modCount ka_y_DEFAULTCAPACITY_EMPTY_ELEMENTDATA h0 n0 (some (.ref r2_0_0)) T2.heap _; exact ⟨NA2, K9, ⟨r2_0_0, kk2_0_0, rfl, g_r2_0_0, sz_r2_0_0, v2_0_3, v2_0_0, v2_0_1, v2_0_2, v2_0_4, oo2_0_0⟩⟩) (by decide) (by decide)
theorem d15_0 : decode jdk_38_method_24_code 0 = .ok (.iload_n 3, 1) := by decide +kernel
theorem d15_1 : decode jdk_38_method_24_code 1 = .ok (.aload_n 2, 1) := by decide +kernel
theorem d15_2 : decode jdk_38_method_24_code 2 = .ok (.arraylength, 1) := by decide +kernel
theorem d15_3 : decode jdk_38_method_24_code 3 = .ok (.if_icmp .ne 8, 3) := by decide +kernel
theorem d15_6 : decode jdk_38_method_24_code 6 = .ok (.aload_n 0, 1) := by decide +kernel
theorem d15_7 : decode jdk_38_method_24_code 7 = .ok (.invokevirtual 129, 3) := by decide +kernel
theorem d15_10 : decode jdk_38_method_24_code 10 = .ok (.astore_n 2, 1) := by decide +kernel
theorem d15_11 : decode jdk_38_method_24_code 11 = .ok (.aload_n 2, 1) := by decide +kernel
theorem d15_12 : decode jdk_38_method_24_code 12 = .ok (.iload_n 3, 1) := by decide +kernel
theorem d15_13 : decode jdk_38_method_24_code 13 = .ok (.aload_n 1, 1) := by decide +kernel
theorem d15_14 : decode jdk_38_method_24_code 14 = .ok (.aastore, 1) := by decide +kernel
theorem d15_15 : decode jdk_38_method_24_code 15 = .ok (.aload_n 0, 1) := by decide +kernel
theorem d15_16 : decode jdk_38_method_24_code 16 = .ok (.iload_n 3, 1) := by decide +kernel
theorem d15_17 : decode jdk_38_method_24_code 17 = .ok (.iconst 1, 1) := by decide +kernel
theorem d15_18 : decode jdk_38_method_24_code 18 = .ok (.iadd, 1) := by decide +kernel
theorem d15_19 : decode jdk_38_method_24_code 19 = .ok (.putfield 48, 3) := by decide +kernel
theorem d15_22 : decode jdk_38_method_24_code 22 = .ok (.return_, 1) := by decide +kernel
theorem pn_15 : plainName "java/util/ArrayList" = true := by first | (simp [plainName, overriddenIn]; done) | decide +kernel
theorem ef_15_0 (m : MethodId) (x0 : Addr) (x1 : Addr) (y_DEFAULTCAPACITY_EMPTY_ELEMENTDATA : Addr) (f0_modCount : Int32) (ka_y_DEFAULTCAPACITY_EMPTY_ELEMENTDATA : ClassId)  : entryFrame m #[(.ref x0), (.ref x1), (.ref y_DEFAULTCAPACITY_EMPTY_ELEMENTDATA), (.int (0 : Int32))] 4 = mkF m 0 #[.val (.ref x0), .val (.ref x1), .val (.ref y_DEFAULTCAPACITY_EMPTY_ELEMENTDATA), .val (.int (0 : Int32))] [] := by first | (simp [entryFrame, mkF, argsToLocals, Value.category]; done) | rfl
theorem pd_11 : parseMethodDescriptor "()[Ljava/lang/Object;" = some ⟨[], some (.array (.object "java/lang/Object"))⟩ := by decide +kernel
def Q15_0 (Z : State) (x0 : Addr) (x1 : Addr) (y_DEFAULTCAPACITY_EMPTY_ELEMENTDATA : Addr) (f0_modCount : Int32) (ka_y_DEFAULTCAPACITY_EMPTY_ELEMENTDATA : ClassId) (h0 : Heap) (n0 : Nat) (v : Option Value) (h : Heap) (L : List Loc) : Prop := Fr n0 L ∧ Keep h0 h [x0] ∧ ((∃ (r_0 : Addr) (k_0 : ClassId), v = none ∧ n0 ≤ r_0 ∧ h0.size ≤ r_0 ∧ Exa Z h x0 "java/util/ArrayList" ∧ Fld Z h x0 "java/util/AbstractList" "modCount" "I" (.int f0_modCount) ∧ Fld Z h x0 "java/util/ArrayList" "elementData" "[Ljava/lang/Object;" (.ref r_0) ∧ Fld Z h x0 "java/util/ArrayList" "size" "I" (.int (1 : Int32)) ∧ Arv Z h r_0 k_0 (.object "java/lang/Object") (10 : Int32) [(.ref x1), .null, .null, .null, .null, .null, .null, .null, .null, .null] .null ∧ Ovr Z k_0 "java/lang/Object"))
set_option maxRecDepth 65536 in
set_option maxHeartbeats 40000000 in
theorem rm15_0 (l : Launch) (Z : State) (a0 : Array Value) (hw : ∀ d ∈ tables_1, d.before a0 Z = true) (ws : List Jvm.Cond) (x0 : Addr) (x1 : Addr) (y_DEFAULTCAPACITY_EMPTY_ELEMENTDATA : Addr) (f0_modCount : Int32) (ka_y_DEFAULTCAPACITY_EMPTY_ELEMENTDATA : ClassId) (h0 : Heap) (n0 : Nat) (Z0 : n0 ≤ h0.size) (S_DEFAULTCAPACITY_EMPTY_ELEMENTDATA : Sta Z Z.heap "java/util/ArrayList" "DEFAULTCAPACITY_EMPTY_ELEMENTDATA" "[Ljava/lang/Object;" (.ref y_DEFAULTCAPACITY_EMPTY_ELEMENTDATA)) (X00 : Old Z n0 h0) (F0_modCount : Fld Z h0 x0 "java/util/AbstractList" "modCount" "I" (.int f0_modCount)) (F0_elementData : Fld Z h0 x0 "java/util/ArrayList" "elementData" "[Ljava/lang/Object;" (.ref y_DEFAULTCAPACITY_EMPTY_ELEMENTDATA)) (F0_size : Fld Z h0 x0 "java/util/ArrayList" "size" "I" (.int (0 : Int32))) (E_x0 : Exa Z h0 x0 "java/util/ArrayList") (E_x1 : Exa Z h0 x1 "java/lang/String") (V_y_DEFAULTCAPACITY_EMPTY_ELEMENTDATA : Arx Z h0 y_DEFAULTCAPACITY_EMPTY_ELEMENTDATA ka_y_DEFAULTCAPACITY_EMPTY_ELEMENTDATA (.object "java/lang/Object") (0 : Int32)) (g_x0 : n0 ≤ x0) (ne_y_DEFAULTCAPACITY_EMPTY_ELEMENTDATA_x0 : y_DEFAULTCAPACITY_EMPTY_ELEMENTDATA ≠ x0) :
    MetFree l (⟨"java/util/ArrayList", "add", "(Ljava/lang/Object;[Ljava/lang/Object;I)V"⟩ : MethodName) (head1 (Jvm.Cond.code (⟨"java/util/ArrayList", "add", "(Ljava/lang/Object;[Ljava/lang/Object;I)V"⟩ : MethodName) jdk_38_method_24_code 4 none :: ws) ({ frames := 3, cells := 1, slots := 10, locals := 41 } : Room)) (fun a U => a = #[(.ref x0), (.ref x1), (.ref y_DEFAULTCAPACITY_EMPTY_ELEMENTDATA), (.int (0 : Int32))] ∧ Z.Warmed39 U.vm ∧ U.heap = h0) (fun _ _ _ _ _ => True) (fun _ U o U' => ∃ v L, o = .returned v ∧ Q15_0 Z x0 x1 y_DEFAULTCAPACITY_EMPTY_ELEMENTDATA f0_modCount ka_y_DEFAULTCAPACITY_EMPTY_ELEMENTDATA h0 n0 v U'.heap L ∧ FrameEnd U o U' L ({ frames := 3, cells := 1, slots := 10, locals := 41 } : Room).cells ({ frames := 3, cells := 1, slots := 10, locals := 41 } : Room).slots) := by
  refine MetFree.of_bodySF (plainFor_of_name pn_15) hisR ?_
  intro p e s m args below meth c s₁ Bd hml0 hP hK
  obtain ⟨rfl, hZ, hh⟩ := hP
  have hx := Bd.exec
  have hby := Bd.bytes
  have hml : c.maxLocals = 4 := hml0
  have hown : s.vm.findClass "java/util/ArrayList" = some m.cls := findClass_of_methodNamed Bd.named
  have hnm := (name_of_methodNamed Bd.named Bd.method).1
  have X0 : Stand p l e ({ frames := 3, cells := 1, slots := 10, locals := 41 } : Room) s m #[(.ref x0), (.ref x1), (.ref y_DEFAULTCAPACITY_EMPTY_ELEMENTDATA), (.int (0 : Int32))] below meth c s₁ [] 0 0 := Stand.of_body Bd
  have e0 : s₁.heap = h0 := by rw [← hh, Bd.state]; rfl
  have N0 := Fr.nil n0
  have K0 : Keep h0 h0 [x0] := Keep.refl h0 _
  refine (?_ : Goes p e below s ({ frames := 3, cells := 1, slots := 10, locals := 41 } : Room).cells ({ frames := 3, cells := 1, slots := 10, locals := 41 } : Room).slots (fun v h L => Q15_0 Z x0 x1 y_DEFAULTCAPACITY_EMPTY_ELEMENTDATA f0_modCount ka_y_DEFAULTCAPACITY_EMPTY_ELEMENTDATA h0 n0 v h L) (s₁.setTop (entryFrame m #[(.ref x0), (.ref x1), (.ref y_DEFAULTCAPACITY_EMPTY_ELEMENTDATA), (.int (0 : Int32))] 4)))
  rw [ef_15_0 m x0 x1 y_DEFAULTCAPACITY_EMPTY_ELEMENTDATA f0_modCount ka_y_DEFAULTCAPACITY_EMPTY_ELEMENTDATA ]
  show Goes _ _ _ _ _ _ _ (s₁.setTop (mkF m 0 #[.val (.ref x0), .val (.ref x1), .val (.ref y_DEFAULTCAPACITY_EMPTY_ELEMENTDATA), .val (.int (0 : Int32))] []))
  refine Goes.step (fun _ k => XS.iloadN X0.here hx rfl (hb hby d15_0) rfl  k) ?_
  show Goes _ _ _ _ _ _ _ (s₁.setTop (mkF m 1 #[.val (.ref x0), .val (.ref x1), .val (.ref y_DEFAULTCAPACITY_EMPTY_ELEMENTDATA), .val (.int (0 : Int32))] [(.int (0 : Int32))]))
  refine Goes.step (fun _ k => XS.aloadN X0.here hx rfl (hb hby d15_1) rfl rfl k) ?_
  show Goes _ _ _ _ _ _ _ (s₁.setTop (mkF m 2 #[.val (.ref x0), .val (.ref x1), .val (.ref y_DEFAULTCAPACITY_EMPTY_ELEMENTDATA), .val (.int (0 : Int32))] [(.ref y_DEFAULTCAPACITY_EMPTY_ELEMENTDATA), (.int (0 : Int32))]))
  obtain ⟨cl1, Ar1, q1, S1, P1, G1⟩ := id V_y_DEFAULTCAPACITY_EMPTY_ELEMENTDATA
  refine Goes.step (fun _ k => X0.arraylength hx (by rw [e0]; exact Ar1.1) (State.isArrayOf_alike hZ.alike Ar1.2.1) (g := (mkF m 2 #[.val (.ref x0), .val (.ref x1), .val (.ref y_DEFAULTCAPACITY_EMPTY_ELEMENTDATA), .val (.int (0 : Int32))] [(.ref y_DEFAULTCAPACITY_EMPTY_ELEMENTDATA), (.int (0 : Int32))])) rfl rfl (hb hby d15_2) _ k) ?_
  rw [len_of S1 P1]
  show Goes _ _ _ _ _ _ _ (s₁.setTop (mkF m 3 #[.val (.ref x0), .val (.ref x1), .val (.ref y_DEFAULTCAPACITY_EMPTY_ELEMENTDATA), .val (.int (0 : Int32))] [(.int (0 : Int32)), (.int (0 : Int32))]))
  refine Goes.step (fun _ k => XS.icmpNo X0.here hx rfl (hb hby d15_3) rfl (teq (by decide : (0 : Int32) = (0 : Int32))).2 k) ?_
  show Goes _ _ _ _ _ _ _ (s₁.setTop (mkF m 6 #[.val (.ref x0), .val (.ref x1), .val (.ref y_DEFAULTCAPACITY_EMPTY_ELEMENTDATA), .val (.int (0 : Int32))] []))
  refine Goes.step (fun _ k => XS.aloadN X0.here hx rfl (hb hby d15_6) rfl rfl k) ?_
  show Goes _ _ _ _ _ _ _ (s₁.setTop (mkF m 7 #[.val (.ref x0), .val (.ref x1), .val (.ref y_DEFAULTCAPACITY_EMPTY_ELEMENTDATA), .val (.int (0 : Int32))] [(.ref x0)]))
  obtain ⟨cq2, q2, q2'⟩ := E_x0.cell
  obtain ⟨_, _, ⟨T2, L2, k2, n2⟩, -, X2, ⟨Lc2, hQ2, l2, y2, z2⟩, st2⟩ := X0.privateBack hx (y := (⟨"java/util/ArrayList", "grow", "()[Ljava/lang/Object;"⟩ : MethodName)) hown (mvT hZ (hw _ (List.mem_of_getElem? (i := 103) rfl))) (mvT hZ (hw _ (List.mem_of_getElem? (i := 104) rfl))) (mvT hZ (hw _ (List.mem_of_getElem? (i := 106) rfl))) (Cond.privateMethod_at (mvP hZ (hw _ (List.mem_of_getElem? (i := 105) rfl)) (args := #[]))) (mvT hZ (hw _ (List.mem_of_getElem? (i := 107) rfl))) (by decide) (backOf (W := 0) (rm16 l Z a0 hw [] x0 y_DEFAULTCAPACITY_EMPTY_ELEMENTDATA f0_modCount ka_y_DEFAULTCAPACITY_EMPTY_ELEMENTDATA h0 n0 Z0 S_DEFAULTCAPACITY_EMPTY_ELEMENTDATA X00 F0_modCount F0_elementData F0_size E_x0 V_y_DEFAULTCAPACITY_EMPTY_ELEMENTDATA g_x0 ne_y_DEFAULTCAPACITY_EMPTY_ELEMENTDATA_x0) hZ (hw _ (List.mem_of_getElem? (i := 107) rfl)) (hw _ (List.mem_of_getElem? (i := 36) rfl)) (by decide) (by decide)) (g := (mkF m 7 #[.val (.ref x0), .val (.ref x1), .val (.ref y_DEFAULTCAPACITY_EMPTY_ELEMENTDATA), .val (.int (0 : Int32))] [(.ref x0)])) rfl (by rw [hml]; rfl) (Steps.refl _) (a := x0) (by rw [e0]; exact q2) q2' (argsL := []) (rest := []) (lenOf pd_11 rfl) rfl (by show 2 * 0 + _ ≤ _; exact Nat.le_of_eq rfl) (hb hby d15_7) (fun _ _ => ⟨rfl, e0, (by decide : 0 + 1 ≤ _), (by decide : 0 + 10 ≤ _)⟩)
  dsimp only [Pt.U, Pt.locs, Pt.cells, Pt.slots] at X2 l2 y2 z2 st2 hQ2
  subst l2 y2 z2
  obtain ⟨N2, KK2, hR2⟩ := hQ2
  have NA2 := Fr.app N0 N2
  have XO3 : Old Z n0 T2.heap := X00.keep KK2 (allS g_x0 all0)
  have f7 := E_x0.keep KK2
  have f8 := E_x1.keep KK2
  have f9 := V_y_DEFAULTCAPACITY_EMPTY_ELEMENTDATA.keep KK2 (ninS ne_y_DEFAULTCAPACITY_EMPTY_ELEMENTDATA_x0 nin0)
  have K10 : Keep h0 T2.heap [x0] := K0.trans KK2 (allS (Or.inl (List.mem_of_getElem? (i := 0) rfl)) all0)
  have Z10 : n0 ≤ T2.heap.size := Nat.le_trans Z0 KK2.1
  obtain ⟨r2_0_0, kk2_0_0, rfl, g_r2_0_0, le_r2_0_0, v2_0_0, v2_0_1, v2_0_2, v2_0_3, v2_0_4, oo2_0_0⟩ := hR2
  have ne11 : x0 ≠ r2_0_0 := Nat.ne_of_lt (Nat.lt_of_lt_of_le F0_modCount.lt le_r2_0_0)
  have ne12 : x1 ≠ r2_0_0 := Nat.ne_of_lt (Nat.lt_of_lt_of_le E_x1.lt le_r2_0_0)
  have ne13 : y_DEFAULTCAPACITY_EMPTY_ELEMENTDATA ≠ r2_0_0 := Nat.ne_of_lt (Nat.lt_of_lt_of_le V_y_DEFAULTCAPACITY_EMPTY_ELEMENTDATA.lt le_r2_0_0)
  have sz_r2_0_0 : h0.size ≤ r2_0_0 := Nat.le_trans K0.1 le_r2_0_0
  refine Goes.back st2 ?_
  show Goes _ _ _ _ _ _ _ (T2.setTop (mkF m 10 #[.val (.ref x0), .val (.ref x1), .val (.ref y_DEFAULTCAPACITY_EMPTY_ELEMENTDATA), .val (.int (0 : Int32))] [(.ref r2_0_0)]))
  refine Goes.step (fun _ k => XS.astoreN X2.here hx rfl (hb hby d15_10) rfl rfl (l' := #[.val (.ref x0), .val (.ref x1), .val (.ref r2_0_0), .val (.int (0 : Int32))]) rfl k) ?_
  show Goes _ _ _ _ _ _ _ (T2.setTop (mkF m 11 #[.val (.ref x0), .val (.ref x1), .val (.ref r2_0_0), .val (.int (0 : Int32))] []))
  refine Goes.step (fun _ k => XS.aloadN X2.here hx rfl (hb hby d15_11) rfl rfl k) ?_
  show Goes _ _ _ _ _ _ _ (T2.setTop (mkF m 12 #[.val (.ref x0), .val (.ref x1), .val (.ref r2_0_0), .val (.int (0 : Int32))] [(.ref r2_0_0)]))
  refine Goes.step (fun _ k => XS.iloadN X2.here hx rfl (hb hby d15_12) rfl  k) ?_
  show Goes _ _ _ _ _ _ _ (T2.setTop (mkF m 13 #[.val (.ref x0), .val (.ref x1), .val (.ref r2_0_0), .val (.int (0 : Int32))] [(.int (0 : Int32)), (.ref r2_0_0)]))
  refine Goes.step (fun _ k => XS.aloadN X2.here hx rfl (hb hby d15_13) rfl rfl k) ?_
  show Goes _ _ _ _ _ _ _ (T2.setTop (mkF m 14 #[.val (.ref x0), .val (.ref x1), .val (.ref r2_0_0), .val (.int (0 : Int32))] [(.ref x1), (.int (0 : Int32)), (.ref r2_0_0)]))
  obtain ⟨cl14, Ar14, q14, S14, P14, H14, G14⟩ := id v2_0_4
  have hin14 : ¬ ((0 : Int32) < 0 ∨ cl14.slots.size ≤ ((0 : Int32)).toNatClampNeg) := inb_of S14 ⟨by decide, by decide⟩
  obtain ⟨T15, h15, X15, e15, W15, st15⟩ := stR X2 hx hZ rfl Ar14 (j := (0 : Int32)) hin14 rfl (Sto.ofV Ar14 q14 oo2_0_0 (Ins.of_exa f8 (hw _ (List.mem_of_getElem? (i := 119) rfl)))) (g := (mkF m 14 #[.val (.ref x0), .val (.ref x1), .val (.ref r2_0_0), .val (.int (0 : Int32))] [(.ref x1), (.int (0 : Int32)), (.ref r2_0_0)])) rfl rfl (hb hby d15_14)
  refine Goes.step st15 ?_
  have V15 := Arv.set Ar14 q14 S14 P14 H14 G14 rfl W15 0 rfl (Nat.le_of_ble_eq_true rfl)
  have XO16 : Old Z n0 h15 := XO3.wr W15 g_r2_0_0
  have f17 := v2_0_0.wr W15
  have f18 := f8.wr W15
  have f19 := f9.other W15 ne13
  have f20 := v2_0_1.other W15 (Or.inl ne11)
  have f21 := v2_0_2.other W15 (Or.inl ne11)
  have f22 := v2_0_3.other W15 (Or.inl ne11)
  have f23 := V15
  have K24 : Keep h0 h15 [x0] := K10.wr W15 (Or.inr sz_r2_0_0)
  have Z24 : n0 ≤ h15.size := by rw [Wr.size W15]; exact Z10
  have N24 := Fr.snoc X15 NA2 g_r2_0_0
  show Goes _ _ _ _ _ _ _ (T15.setTop (mkF m 15 #[.val (.ref x0), .val (.ref x1), .val (.ref r2_0_0), .val (.int (0 : Int32))] []))
  refine Goes.step (fun _ k => XS.aloadN X15.here hx rfl (hb hby d15_15) rfl rfl k) ?_
  show Goes _ _ _ _ _ _ _ (T15.setTop (mkF m 16 #[.val (.ref x0), .val (.ref x1), .val (.ref r2_0_0), .val (.int (0 : Int32))] [(.ref x0)]))
  refine Goes.step (fun _ k => XS.iloadN X15.here hx rfl (hb hby d15_16) rfl  k) ?_
  show Goes _ _ _ _ _ _ _ (T15.setTop (mkF m 17 #[.val (.ref x0), .val (.ref x1), .val (.ref r2_0_0), .val (.int (0 : Int32))] [(.int (0 : Int32)), (.ref x0)]))
  refine Goes.step (fun _ k => XS.iconst X15.here hx rfl (hb hby d15_17) k) ?_
  show Goes _ _ _ _ _ _ _ (T15.setTop (mkF m 18 #[.val (.ref x0), .val (.ref x1), .val (.ref r2_0_0), .val (.int (0 : Int32))] [(.int (1 : Int32)), (.int (0 : Int32)), (.ref x0)]))
  refine Goes.step (fun _ k => XS.iadd X15.here hx rfl (hb hby d15_18) rfl k) ?_
  show Goes _ _ _ _ _ _ _ (T15.setTop (mkF m 19 #[.val (.ref x0), .val (.ref x1), .val (.ref r2_0_0), .val (.int (0 : Int32))] [(.int (1 : Int32)), (.ref x0)]))
  obtain ⟨T25, h25, X25, e25, W25, st25⟩ := putF X15 hx hZ hown (host := "") (Or.inl (hw _ (List.mem_of_getElem? (i := 86) rfl))) Via.refl e15 f22 f17 (Or.inl (hw _ (List.mem_of_getElem? (i := 87) rfl))) (hw _ (List.mem_of_getElem? (i := 35) rfl)) (ty := .int) (by decide) rfl rfl (g := (mkF m 19 #[.val (.ref x0), .val (.ref x1), .val (.ref r2_0_0), .val (.int (0 : Int32))] [(.int (1 : Int32)), (.ref x0)])) rfl rfl (hb hby d15_19)
  refine Goes.step st25 ?_
  have XO26 : Old Z n0 h25 := XO16.wr W25 g_x0
  have f27 := f17.wr W25
  have f28 := f18.wr W25
  have f29 := f19.other W25 ne_y_DEFAULTCAPACITY_EMPTY_ELEMENTDATA_x0
  have f30 := f20.other W25 (Or.inr (slot_ne (Or.inl (hw _ (List.mem_of_getElem? (i := 54) rfl))) (Or.inl (hw _ (List.mem_of_getElem? (i := 87) rfl))) (by decide) (t := .int) (t' := .int) (by decide) (by decide)))
  have f31 := f21.other W25 (Or.inr (slot_ne (Or.inl (hw _ (List.mem_of_getElem? (i := 57) rfl))) (Or.inl (hw _ (List.mem_of_getElem? (i := 87) rfl))) (by decide) (t := (.array (.object "java/lang/Object"))) (t' := .int) (by decide) (by decide)))
  have f32 := f22.same W25
  have f33 := f23.other W25 (Ne.symm ne11)
  have K34 : Keep h0 h25 [x0] := K24.wr W25 (Or.inl (List.mem_of_getElem? (i := 0) rfl))
  have Z34 : n0 ≤ h25.size := by rw [Wr.size W25]; exact Z24
  have N34 := Fr.snoc X25 N24 g_x0
  show Goes _ _ _ _ _ _ _ (T25.setTop (mkF m 22 #[.val (.ref x0), .val (.ref x1), .val (.ref r2_0_0), .val (.int (0 : Int32))] []))
  exact Goes.retV X25 hx (BodyLoose.notSynchronized Bd) Bd.returns (hb hby d15_22) (by show Q15_0 Z x0 x1 y_DEFAULTCAPACITY_EMPTY_ELEMENTDATA f0_modCount ka_y_DEFAULTCAPACITY_EMPTY_ELEMENTDATA h0 n0 none T25.heap _; rw [e25]; exact ⟨N34, K34, ⟨r2_0_0, kk2_0_0, rfl, g_r2_0_0, sz_r2_0_0, f27, f30, f31, f32, f33, oo2_0_0⟩⟩) (by decide) (by decide)
theorem d14_0 : decode jdk_38_method_25_code 0 = .ok (.aload_n 0, 1) := by decide +kernel
theorem d14_1 : decode jdk_38_method_25_code 1 = .ok (.dup, 1) := by decide +kernel
theorem d14_2 : decode jdk_38_method_25_code 2 = .ok (.getfield 63, 3) := by decide +kernel
theorem d14_5 : decode jdk_38_method_25_code 5 = .ok (.iconst 1, 1) := by decide +kernel
theorem d14_6 : decode jdk_38_method_25_code 6 = .ok (.iadd, 1) := by decide +kernel
theorem d14_7 : decode jdk_38_method_25_code 7 = .ok (.putfield 63, 3) := by decide +kernel
theorem d14_10 : decode jdk_38_method_25_code 10 = .ok (.aload_n 0, 1) := by decide +kernel
theorem d14_11 : decode jdk_38_method_25_code 11 = .ok (.aload_n 1, 1) := by decide +kernel
theorem d14_12 : decode jdk_38_method_25_code 12 = .ok (.aload_n 0, 1) := by decide +kernel
theorem d14_13 : decode jdk_38_method_25_code 13 = .ok (.getfield 9, 3) := by decide +kernel
theorem d14_16 : decode jdk_38_method_25_code 16 = .ok (.aload_n 0, 1) := by decide +kernel
theorem d14_17 : decode jdk_38_method_25_code 17 = .ok (.getfield 48, 3) := by decide +kernel
theorem d14_20 : decode jdk_38_method_25_code 20 = .ok (.invokevirtual 131, 3) := by decide +kernel
theorem d14_23 : decode jdk_38_method_25_code 23 = .ok (.iconst 1, 1) := by decide +kernel
theorem d14_24 : decode jdk_38_method_25_code 24 = .ok (.ireturn, 1) := by decide +kernel
theorem pn_14 : plainName "java/util/ArrayList" = true := by first | (simp [plainName, overriddenIn]; done) | decide +kernel
theorem ef_14_0 (m : MethodId) (x0 : Addr) (x1 : Addr) (y_DEFAULTCAPACITY_EMPTY_ELEMENTDATA : Addr) (f0_modCount : Int32) (ka_y_DEFAULTCAPACITY_EMPTY_ELEMENTDATA : ClassId)  : entryFrame m #[(.ref x0), (.ref x1)] 2 = mkF m 0 #[.val (.ref x0), .val (.ref x1)] [] := by first | (simp [entryFrame, mkF, argsToLocals, Value.category]; done) | rfl
theorem pd_10 : parseMethodDescriptor "(Ljava/lang/Object;[Ljava/lang/Object;I)V" = some ⟨[(.object "java/lang/Object"), (.array (.object "java/lang/Object")), .int], none⟩ := by decide +kernel
def Q14_0 (Z : State) (x0 : Addr) (x1 : Addr) (y_DEFAULTCAPACITY_EMPTY_ELEMENTDATA : Addr) (f0_modCount : Int32) (ka_y_DEFAULTCAPACITY_EMPTY_ELEMENTDATA : ClassId) (h0 : Heap) (n0 : Nat) (v : Option Value) (h : Heap) (L : List Loc) : Prop := Fr n0 L ∧ Keep h0 h [x0] ∧ ((∃ (r_0 : Addr) (k_0 : ClassId), v = some (.int (1 : Int32)) ∧ n0 ≤ r_0 ∧ h0.size ≤ r_0 ∧ Exa Z h x0 "java/util/ArrayList" ∧ Fld Z h x0 "java/util/AbstractList" "modCount" "I" (.int (f0_modCount + (1 : Int32))) ∧ Fld Z h x0 "java/util/ArrayList" "elementData" "[Ljava/lang/Object;" (.ref r_0) ∧ Fld Z h x0 "java/util/ArrayList" "size" "I" (.int (1 : Int32)) ∧ Arv Z h r_0 k_0 (.object "java/lang/Object") (10 : Int32) [(.ref x1), .null, .null, .null, .null, .null, .null, .null, .null, .null] .null ∧ Ovr Z k_0 "java/lang/Object"))
set_option maxRecDepth 65536 in
set_option maxHeartbeats 40000000 in
theorem rm14_0 (l : Launch) (Z : State) (a0 : Array Value) (hw : ∀ d ∈ tables_1, d.before a0 Z = true) (ws : List Jvm.Cond) (x0 : Addr) (x1 : Addr) (y_DEFAULTCAPACITY_EMPTY_ELEMENTDATA : Addr) (f0_modCount : Int32) (ka_y_DEFAULTCAPACITY_EMPTY_ELEMENTDATA : ClassId) (h0 : Heap) (n0 : Nat) (Z0 : n0 ≤ h0.size) (S_DEFAULTCAPACITY_EMPTY_ELEMENTDATA : Sta Z Z.heap "java/util/ArrayList" "DEFAULTCAPACITY_EMPTY_ELEMENTDATA" "[Ljava/lang/Object;" (.ref y_DEFAULTCAPACITY_EMPTY_ELEMENTDATA)) (X00 : Old Z n0 h0) (F0_modCount : Fld Z h0 x0 "java/util/AbstractList" "modCount" "I" (.int f0_modCount)) (F0_elementData : Fld Z h0 x0 "java/util/ArrayList" "elementData" "[Ljava/lang/Object;" (.ref y_DEFAULTCAPACITY_EMPTY_ELEMENTDATA)) (F0_size : Fld Z h0 x0 "java/util/ArrayList" "size" "I" (.int (0 : Int32))) (E_x0 : Exa Z h0 x0 "java/util/ArrayList") (E_x1 : Exa Z h0 x1 "java/lang/String") (V_y_DEFAULTCAPACITY_EMPTY_ELEMENTDATA : Arx Z h0 y_DEFAULTCAPACITY_EMPTY_ELEMENTDATA ka_y_DEFAULTCAPACITY_EMPTY_ELEMENTDATA (.object "java/lang/Object") (0 : Int32)) (g_x0 : n0 ≤ x0) (ne_y_DEFAULTCAPACITY_EMPTY_ELEMENTDATA_x0 : y_DEFAULTCAPACITY_EMPTY_ELEMENTDATA ≠ x0) :
    MetFree l (⟨"java/util/ArrayList", "add", "(Ljava/lang/Object;)Z"⟩ : MethodName) (head1 (Jvm.Cond.code (⟨"java/util/ArrayList", "add", "(Ljava/lang/Object;)Z"⟩ : MethodName) jdk_38_method_25_code 2 (some .boolean) :: ws) ({ frames := 4, cells := 1, slots := 10, locals := 56 } : Room)) (fun a U => a = #[(.ref x0), (.ref x1)] ∧ Z.Warmed39 U.vm ∧ U.heap = h0) (fun _ _ _ _ _ => True) (fun _ U o U' => ∃ v L, o = .returned v ∧ Q14_0 Z x0 x1 y_DEFAULTCAPACITY_EMPTY_ELEMENTDATA f0_modCount ka_y_DEFAULTCAPACITY_EMPTY_ELEMENTDATA h0 n0 v U'.heap L ∧ FrameEnd U o U' L ({ frames := 4, cells := 1, slots := 10, locals := 56 } : Room).cells ({ frames := 4, cells := 1, slots := 10, locals := 56 } : Room).slots) := by
  refine MetFree.of_bodySF (plainFor_of_name pn_14) hisR ?_
  intro p e s m args below meth c s₁ Bd hml0 hP hK
  obtain ⟨rfl, hZ, hh⟩ := hP
  have hx := Bd.exec
  have hby := Bd.bytes
  have hml : c.maxLocals = 2 := hml0
  have hown : s.vm.findClass "java/util/ArrayList" = some m.cls := findClass_of_methodNamed Bd.named
  have hnm := (name_of_methodNamed Bd.named Bd.method).1
  have X0 : Stand p l e ({ frames := 4, cells := 1, slots := 10, locals := 56 } : Room) s m #[(.ref x0), (.ref x1)] below meth c s₁ [] 0 0 := Stand.of_body Bd
  have e0 : s₁.heap = h0 := by rw [← hh, Bd.state]; rfl
  have N0 := Fr.nil n0
  have K0 : Keep h0 h0 [x0] := Keep.refl h0 _
  refine (?_ : Goes p e below s ({ frames := 4, cells := 1, slots := 10, locals := 56 } : Room).cells ({ frames := 4, cells := 1, slots := 10, locals := 56 } : Room).slots (fun v h L => Q14_0 Z x0 x1 y_DEFAULTCAPACITY_EMPTY_ELEMENTDATA f0_modCount ka_y_DEFAULTCAPACITY_EMPTY_ELEMENTDATA h0 n0 v h L) (s₁.setTop (entryFrame m #[(.ref x0), (.ref x1)] 2)))
  rw [ef_14_0 m x0 x1 y_DEFAULTCAPACITY_EMPTY_ELEMENTDATA f0_modCount ka_y_DEFAULTCAPACITY_EMPTY_ELEMENTDATA ]
  show Goes _ _ _ _ _ _ _ (s₁.setTop (mkF m 0 #[.val (.ref x0), .val (.ref x1)] []))
  refine Goes.step (fun _ k => XS.aloadN X0.here hx rfl (hb hby d14_0) rfl rfl k) ?_
  show Goes _ _ _ _ _ _ _ (s₁.setTop (mkF m 1 #[.val (.ref x0), .val (.ref x1)] [(.ref x0)]))
  refine Goes.step (fun _ k => XS.dup X0.here hx rfl (hb hby d14_1) rfl rfl k) ?_
  show Goes _ _ _ _ _ _ _ (s₁.setTop (mkF m 2 #[.val (.ref x0), .val (.ref x1)] [(.ref x0), (.ref x0)]))
  obtain ⟨T1, X1, e1, st1⟩ := getF X0 hx hZ hown (host := "") (Or.inl (hw _ (List.mem_of_getElem? (i := 96) rfl))) (Via.of (hw _ (List.mem_of_getElem? (i := 97) rfl))) e0 F0_modCount (g := (mkF m 2 #[.val (.ref x0), .val (.ref x1)] [(.ref x0), (.ref x0)])) rfl rfl (hb hby d14_2)
  refine Goes.step st1 ?_
  show Goes _ _ _ _ _ _ _ (T1.setTop (mkF m 5 #[.val (.ref x0), .val (.ref x1)] [(.int f0_modCount), (.ref x0)]))
  refine Goes.step (fun _ k => XS.iconst X1.here hx rfl (hb hby d14_5) k) ?_
  show Goes _ _ _ _ _ _ _ (T1.setTop (mkF m 6 #[.val (.ref x0), .val (.ref x1)] [(.int (1 : Int32)), (.int f0_modCount), (.ref x0)]))
  refine Goes.step (fun _ k => XS.iadd X1.here hx rfl (hb hby d14_6) rfl k) ?_
  show Goes _ _ _ _ _ _ _ (T1.setTop (mkF m 7 #[.val (.ref x0), .val (.ref x1)] [(.int (f0_modCount + (1 : Int32))), (.ref x0)]))
  obtain ⟨T2, h2, X2, e2, W2, st2⟩ := putF X1 hx hZ hown (host := "") (Or.inl (hw _ (List.mem_of_getElem? (i := 96) rfl))) (Via.of (hw _ (List.mem_of_getElem? (i := 97) rfl))) e1 F0_modCount E_x0 (Or.inl (hw _ (List.mem_of_getElem? (i := 54) rfl))) (hw _ (List.mem_of_getElem? (i := 35) rfl)) (ty := .int) (by decide) rfl rfl (g := (mkF m 7 #[.val (.ref x0), .val (.ref x1)] [(.int (f0_modCount + (1 : Int32))), (.ref x0)])) rfl rfl (hb hby d14_7)
  refine Goes.step st2 ?_
  have XO3 : Old Z n0 h2 := X00.wr W2 g_x0
  have f4 := F0_modCount.same W2
  have f5 := F0_elementData.other W2 (Or.inr (slot_ne (Or.inl (hw _ (List.mem_of_getElem? (i := 57) rfl))) (Or.inl (hw _ (List.mem_of_getElem? (i := 54) rfl))) (by decide) (t := (.array (.object "java/lang/Object"))) (t' := .int) (by decide) (by decide)))
  have f6 := F0_size.other W2 (Or.inr (slot_ne (Or.inl (hw _ (List.mem_of_getElem? (i := 87) rfl))) (Or.inl (hw _ (List.mem_of_getElem? (i := 54) rfl))) (by decide) (t := .int) (t' := .int) (by decide) (by decide)))
  have f7 := E_x0.wr W2
  have f8 := E_x1.wr W2
  have f9 := V_y_DEFAULTCAPACITY_EMPTY_ELEMENTDATA.other W2 ne_y_DEFAULTCAPACITY_EMPTY_ELEMENTDATA_x0
  have K10 : Keep h0 h2 [x0] := K0.wr W2 (Or.inl (List.mem_of_getElem? (i := 0) rfl))
  have Z10 : n0 ≤ h2.size := by rw [Wr.size W2]; exact Z0
  have N10 := Fr.snoc X2 N0 g_x0
  show Goes _ _ _ _ _ _ _ (T2.setTop (mkF m 10 #[.val (.ref x0), .val (.ref x1)] []))
  refine Goes.step (fun _ k => XS.aloadN X2.here hx rfl (hb hby d14_10) rfl rfl k) ?_
  show Goes _ _ _ _ _ _ _ (T2.setTop (mkF m 11 #[.val (.ref x0), .val (.ref x1)] [(.ref x0)]))
  refine Goes.step (fun _ k => XS.aloadN X2.here hx rfl (hb hby d14_11) rfl rfl k) ?_
  show Goes _ _ _ _ _ _ _ (T2.setTop (mkF m 12 #[.val (.ref x0), .val (.ref x1)] [(.ref x1), (.ref x0)]))
  refine Goes.step (fun _ k => XS.aloadN X2.here hx rfl (hb hby d14_12) rfl rfl k) ?_
  show Goes _ _ _ _ _ _ _ (T2.setTop (mkF m 13 #[.val (.ref x0), .val (.ref x1)] [(.ref x0), (.ref x1), (.ref x0)]))
  obtain ⟨T11, X11, e11, st11⟩ := getF X2 hx hZ hown (host := "") (Or.inl (hw _ (List.mem_of_getElem? (i := 56) rfl))) Via.refl e2 f5 (g := (mkF m 13 #[.val (.ref x0), .val (.ref x1)] [(.ref x0), (.ref x1), (.ref x0)])) rfl rfl (hb hby d14_13)
  refine Goes.step st11 ?_
  show Goes _ _ _ _ _ _ _ (T11.setTop (mkF m 16 #[.val (.ref x0), .val (.ref x1)] [(.ref y_DEFAULTCAPACITY_EMPTY_ELEMENTDATA), (.ref x1), (.ref x0)]))
  refine Goes.step (fun _ k => XS.aloadN X11.here hx rfl (hb hby d14_16) rfl rfl k) ?_
  show Goes _ _ _ _ _ _ _ (T11.setTop (mkF m 17 #[.val (.ref x0), .val (.ref x1)] [(.ref x0), (.ref y_DEFAULTCAPACITY_EMPTY_ELEMENTDATA), (.ref x1), (.ref x0)]))
  obtain ⟨T12, X12, e12, st12⟩ := getF X11 hx hZ hown (host := "") (Or.inl (hw _ (List.mem_of_getElem? (i := 86) rfl))) Via.refl e11 f6 (g := (mkF m 17 #[.val (.ref x0), .val (.ref x1)] [(.ref x0), (.ref y_DEFAULTCAPACITY_EMPTY_ELEMENTDATA), (.ref x1), (.ref x0)])) rfl rfl (hb hby d14_17)
  refine Goes.step st12 ?_
  show Goes _ _ _ _ _ _ _ (T12.setTop (mkF m 20 #[.val (.ref x0), .val (.ref x1)] [(.int (0 : Int32)), (.ref y_DEFAULTCAPACITY_EMPTY_ELEMENTDATA), (.ref x1), (.ref x0)]))
  obtain ⟨cq13, q13, q13'⟩ := f7.cell
  obtain ⟨_, _, ⟨T13, L13, k13, n13⟩, -, X13, ⟨Lc13, hQ13, l13, y13, z13⟩, st13⟩ := X12.privateBack hx (y := (⟨"java/util/ArrayList", "add", "(Ljava/lang/Object;[Ljava/lang/Object;I)V"⟩ : MethodName)) hown (mvT hZ (hw _ (List.mem_of_getElem? (i := 98) rfl))) (mvT hZ (hw _ (List.mem_of_getElem? (i := 99) rfl))) (mvT hZ (hw _ (List.mem_of_getElem? (i := 101) rfl))) (Cond.privateMethod_at (mvP hZ (hw _ (List.mem_of_getElem? (i := 100) rfl)) (args := #[]))) (mvT hZ (hw _ (List.mem_of_getElem? (i := 102) rfl))) (by decide) (backOf (W := 0) (rm15_0 l Z a0 hw [] x0 x1 y_DEFAULTCAPACITY_EMPTY_ELEMENTDATA (f0_modCount + (1 : Int32)) ka_y_DEFAULTCAPACITY_EMPTY_ELEMENTDATA h2 n0 Z10 S_DEFAULTCAPACITY_EMPTY_ELEMENTDATA XO3 f4 f5 f6 f7 f8 f9 g_x0 ne_y_DEFAULTCAPACITY_EMPTY_ELEMENTDATA_x0) hZ (hw _ (List.mem_of_getElem? (i := 102) rfl)) (hw _ (List.mem_of_getElem? (i := 36) rfl)) (by decide) (by decide)) (g := (mkF m 20 #[.val (.ref x0), .val (.ref x1)] [(.int (0 : Int32)), (.ref y_DEFAULTCAPACITY_EMPTY_ELEMENTDATA), (.ref x1), (.ref x0)])) rfl (by rw [hml]; rfl) (Steps.refl _) (a := x0) (by rw [e12]; exact q13) q13' (argsL := [(.ref x1), (.ref y_DEFAULTCAPACITY_EMPTY_ELEMENTDATA), (.int (0 : Int32))]) (rest := []) (lenOf pd_10 rfl) rfl (by show 2 * 0 + _ ≤ _; exact Nat.le_of_eq rfl) (hb hby d14_20) (fun _ _ => ⟨rfl, e12, (by decide : 0 + 1 ≤ _), (by decide : 0 + 10 ≤ _)⟩)
  dsimp only [Pt.U, Pt.locs, Pt.cells, Pt.slots] at X13 l13 y13 z13 st13 hQ13
  subst l13 y13 z13
  obtain ⟨N13, KK13, hR13⟩ := hQ13
  have NA13 := Fr.app N10 N13
  have XO14 : Old Z n0 T13.heap := XO3.keep KK13 (allS g_x0 all0)
  have f18 := f7.keep KK13
  have f19 := f8.keep KK13
  have f20 := f9.keep KK13 (ninS ne_y_DEFAULTCAPACITY_EMPTY_ELEMENTDATA_x0 nin0)
  have K21 : Keep h0 T13.heap [x0] := K10.trans KK13 (allS (Or.inl (List.mem_of_getElem? (i := 0) rfl)) all0)
  have Z21 : n0 ≤ T13.heap.size := Nat.le_trans Z10 KK13.1
  obtain ⟨r13_0_0, kk13_0_0, rfl, g_r13_0_0, le_r13_0_0, v13_0_0, v13_0_1, v13_0_2, v13_0_3, v13_0_4, oo13_0_0⟩ := hR13
  have ne22 : x0 ≠ r13_0_0 := Nat.ne_of_lt (Nat.lt_of_lt_of_le f4.lt le_r13_0_0)
  have ne23 : x1 ≠ r13_0_0 := Nat.ne_of_lt (Nat.lt_of_lt_of_le f8.lt le_r13_0_0)
  have ne24 : y_DEFAULTCAPACITY_EMPTY_ELEMENTDATA ≠ r13_0_0 := Nat.ne_of_lt (Nat.lt_of_lt_of_le f9.lt le_r13_0_0)
  have sz_r13_0_0 : h0.size ≤ r13_0_0 := Nat.le_trans K10.1 le_r13_0_0
  refine Goes.back st13 ?_
  show Goes _ _ _ _ _ _ _ (T13.setTop (mkF m 23 #[.val (.ref x0), .val (.ref x1)] []))
  refine Goes.step (fun _ k => XS.iconst X13.here hx rfl (hb hby d14_23) k) ?_
  show Goes _ _ _ _ _ _ _ (T13.setTop (mkF m 24 #[.val (.ref x0), .val (.ref x1)] [(.int (1 : Int32))]))
  exact Goes.ret X13 hx (BodyLoose.notSynchronized Bd) Bd.returns rfl (Or.inl ⟨rfl, by simp, _, rfl⟩) (hb hby d14_24) (by show Q14_0 Z x0 x1 y_DEFAULTCAPACITY_EMPTY_ELEMENTDATA f0_modCount ka_y_DEFAULTCAPACITY_EMPTY_ELEMENTDATA h0 n0 (some (.int (1 : Int32))) T13.heap _; exact ⟨NA13, K21, ⟨r13_0_0, kk13_0_0, rfl, g_r13_0_0, sz_r13_0_0, v13_0_0, v13_0_1, v13_0_2, v13_0_3, v13_0_4, oo13_0_0⟩⟩) (by decide) (by decide)
theorem d12_0 : decode prog_17_method_2_code 0 = .ok (.aload_n 0, 1) := by decide +kernel
theorem d12_1 : decode prog_17_method_2_code 1 = .ok (.getfield 10, 3) := by decide +kernel
theorem d12_4 : decode prog_17_method_2_code 4 = .ok (.invokeinterface 16 1, 5) := by decide +kernel
theorem d12_9 : decode prog_17_method_2_code 9 = .ok (.bipush 100, 2) := by decide +kernel
theorem d12_11 : decode prog_17_method_2_code 11 = .ok (.if_icmp .ge 14, 3) := by decide +kernel
theorem d12_14 : decode prog_17_method_2_code 14 = .ok (.aload_n 0, 1) := by decide +kernel
theorem d12_15 : decode prog_17_method_2_code 15 = .ok (.getfield 10, 3) := by decide +kernel
theorem d12_18 : decode prog_17_method_2_code 18 = .ok (.aload_n 1, 1) := by decide +kernel
theorem d12_19 : decode prog_17_method_2_code 19 = .ok (.invokeinterface 22 2, 5) := by decide +kernel
theorem d12_24 : decode prog_17_method_2_code 24 = .ok (.pop, 1) := by decide +kernel
theorem d12_25 : decode prog_17_method_2_code 25 = .ok (.aload_n 0, 1) := by decide +kernel
theorem d12_26 : decode prog_17_method_2_code 26 = .ok (.dup, 1) := by decide +kernel
theorem d12_27 : decode prog_17_method_2_code 27 = .ok (.getfield 26, 3) := by decide +kernel
theorem d12_30 : decode prog_17_method_2_code 30 = .ok (.lconst 1, 1) := by decide +kernel
theorem d12_31 : decode prog_17_method_2_code 31 = .ok (.ladd, 1) := by decide +kernel
theorem d12_32 : decode prog_17_method_2_code 32 = .ok (.putfield 26, 3) := by decide +kernel
theorem d12_35 : decode prog_17_method_2_code 35 = .ok (.return_, 1) := by decide +kernel
theorem pn_12 : plainName "com/example/roles_to_grants/rolestogrants/input/ProblemList" = true := by first | (simp [plainName, overriddenIn]; done) | decide +kernel
theorem ef_12_0 (m : MethodId) (x0 : Addr) (x1 : Addr) (y_DEFAULTCAPACITY_EMPTY_ELEMENTDATA : Addr) (f0_named : Addr) (f0_count : Int64) (f_f0_named_modCount : Int32) (ka_y_DEFAULTCAPACITY_EMPTY_ELEMENTDATA : ClassId)  : entryFrame m #[(.ref x0), (.ref x1)] 2 = mkF m 0 #[.val (.ref x0), .val (.ref x1)] [] := by first | (simp [entryFrame, mkF, argsToLocals, Value.category]; done) | rfl
theorem pd_8 : parseMethodDescriptor "()I" = some ⟨[], some .int⟩ := by decide +kernel
theorem pd_9 : parseMethodDescriptor "(Ljava/lang/Object;)Z" = some ⟨[(.object "java/lang/Object")], some .boolean⟩ := by decide +kernel
def Q12_0 (Z : State) (x0 : Addr) (x1 : Addr) (y_DEFAULTCAPACITY_EMPTY_ELEMENTDATA : Addr) (f0_named : Addr) (f0_count : Int64) (f_f0_named_modCount : Int32) (ka_y_DEFAULTCAPACITY_EMPTY_ELEMENTDATA : ClassId) (h0 : Heap) (n0 : Nat) (v : Option Value) (h : Heap) (L : List Loc) : Prop := Fr n0 L ∧ Keep h0 h [x0, f0_named] ∧ ((∃ (r_0 : Addr) (k_0 : ClassId), v = none ∧ n0 ≤ r_0 ∧ h0.size ≤ r_0 ∧ Fld Z h x0 "com/example/roles_to_grants/rolestogrants/input/ProblemList" "named" "Ljava/util/List;" (.ref f0_named) ∧ Fld Z h x0 "com/example/roles_to_grants/rolestogrants/input/ProblemList" "count" "J" (.long (f0_count + (1 : Int64))) ∧ Exa Z h x0 "com/example/roles_to_grants/rolestogrants/input/ProblemList" ∧ Exa Z h f0_named "java/util/ArrayList" ∧ Fld Z h f0_named "java/util/AbstractList" "modCount" "I" (.int (f_f0_named_modCount + (1 : Int32))) ∧ Fld Z h f0_named "java/util/ArrayList" "elementData" "[Ljava/lang/Object;" (.ref r_0) ∧ Fld Z h f0_named "java/util/ArrayList" "size" "I" (.int (1 : Int32)) ∧ Arv Z h r_0 k_0 (.object "java/lang/Object") (10 : Int32) [(.ref x1), .null, .null, .null, .null, .null, .null, .null, .null, .null] .null ∧ Ovr Z k_0 "java/lang/Object"))
set_option maxRecDepth 65536 in
set_option maxHeartbeats 40000000 in
theorem rm12_0 (l : Launch) (Z : State) (a0 : Array Value) (hw : ∀ d ∈ tables_1, d.before a0 Z = true) (ws : List Jvm.Cond) (x0 : Addr) (x1 : Addr) (y_DEFAULTCAPACITY_EMPTY_ELEMENTDATA : Addr) (f0_named : Addr) (f0_count : Int64) (f_f0_named_modCount : Int32) (ka_y_DEFAULTCAPACITY_EMPTY_ELEMENTDATA : ClassId) (h0 : Heap) (n0 : Nat) (Z0 : n0 ≤ h0.size) (S_DEFAULTCAPACITY_EMPTY_ELEMENTDATA : Sta Z Z.heap "java/util/ArrayList" "DEFAULTCAPACITY_EMPTY_ELEMENTDATA" "[Ljava/lang/Object;" (.ref y_DEFAULTCAPACITY_EMPTY_ELEMENTDATA)) (X00 : Old Z n0 h0) (F0_named : Fld Z h0 x0 "com/example/roles_to_grants/rolestogrants/input/ProblemList" "named" "Ljava/util/List;" (.ref f0_named)) (F0_count : Fld Z h0 x0 "com/example/roles_to_grants/rolestogrants/input/ProblemList" "count" "J" (.long f0_count)) (F_f0_named_modCount : Fld Z h0 f0_named "java/util/AbstractList" "modCount" "I" (.int f_f0_named_modCount)) (F_f0_named_elementData : Fld Z h0 f0_named "java/util/ArrayList" "elementData" "[Ljava/lang/Object;" (.ref y_DEFAULTCAPACITY_EMPTY_ELEMENTDATA)) (F_f0_named_size : Fld Z h0 f0_named "java/util/ArrayList" "size" "I" (.int (0 : Int32))) (E_x0 : Exa Z h0 x0 "com/example/roles_to_grants/rolestogrants/input/ProblemList") (E_f0_named : Exa Z h0 f0_named "java/util/ArrayList") (E_x1 : Exa Z h0 x1 "java/lang/String") (V_y_DEFAULTCAPACITY_EMPTY_ELEMENTDATA : Arx Z h0 y_DEFAULTCAPACITY_EMPTY_ELEMENTDATA ka_y_DEFAULTCAPACITY_EMPTY_ELEMENTDATA (.object "java/lang/Object") (0 : Int32)) (g_x0 : n0 ≤ x0) (g_f0_named : n0 ≤ f0_named) (ne_y_DEFAULTCAPACITY_EMPTY_ELEMENTDATA_x0 : y_DEFAULTCAPACITY_EMPTY_ELEMENTDATA ≠ x0) (ne_y_DEFAULTCAPACITY_EMPTY_ELEMENTDATA_f0_named : y_DEFAULTCAPACITY_EMPTY_ELEMENTDATA ≠ f0_named) (ne_x0_f0_named : x0 ≠ f0_named) :
    MetFree l (⟨"com/example/roles_to_grants/rolestogrants/input/ProblemList", "add", "(Ljava/lang/String;)V"⟩ : MethodName) (head1 (Jvm.Cond.code (⟨"com/example/roles_to_grants/rolestogrants/input/ProblemList", "add", "(Ljava/lang/String;)V"⟩ : MethodName) prog_17_method_2_code 2 none :: ws) ({ frames := 5, cells := 1, slots := 10, locals := 69 } : Room)) (fun a U => a = #[(.ref x0), (.ref x1)] ∧ Z.Warmed39 U.vm ∧ U.heap = h0) (fun _ _ _ _ _ => True) (fun _ U o U' => ∃ v L, o = .returned v ∧ Q12_0 Z x0 x1 y_DEFAULTCAPACITY_EMPTY_ELEMENTDATA f0_named f0_count f_f0_named_modCount ka_y_DEFAULTCAPACITY_EMPTY_ELEMENTDATA h0 n0 v U'.heap L ∧ FrameEnd U o U' L ({ frames := 5, cells := 1, slots := 10, locals := 69 } : Room).cells ({ frames := 5, cells := 1, slots := 10, locals := 69 } : Room).slots) := by
  refine MetFree.of_bodySF (plainFor_of_name pn_12) hisR ?_
  intro p e s m args below meth c s₁ Bd hml0 hP hK
  obtain ⟨rfl, hZ, hh⟩ := hP
  have hx := Bd.exec
  have hby := Bd.bytes
  have hml : c.maxLocals = 2 := hml0
  have hown : s.vm.findClass "com/example/roles_to_grants/rolestogrants/input/ProblemList" = some m.cls := findClass_of_methodNamed Bd.named
  have hnm := (name_of_methodNamed Bd.named Bd.method).1
  have X0 : Stand p l e ({ frames := 5, cells := 1, slots := 10, locals := 69 } : Room) s m #[(.ref x0), (.ref x1)] below meth c s₁ [] 0 0 := Stand.of_body Bd
  have e0 : s₁.heap = h0 := by rw [← hh, Bd.state]; rfl
  have N0 := Fr.nil n0
  have K0 : Keep h0 h0 [x0, f0_named] := Keep.refl h0 _
  refine (?_ : Goes p e below s ({ frames := 5, cells := 1, slots := 10, locals := 69 } : Room).cells ({ frames := 5, cells := 1, slots := 10, locals := 69 } : Room).slots (fun v h L => Q12_0 Z x0 x1 y_DEFAULTCAPACITY_EMPTY_ELEMENTDATA f0_named f0_count f_f0_named_modCount ka_y_DEFAULTCAPACITY_EMPTY_ELEMENTDATA h0 n0 v h L) (s₁.setTop (entryFrame m #[(.ref x0), (.ref x1)] 2)))
  rw [ef_12_0 m x0 x1 y_DEFAULTCAPACITY_EMPTY_ELEMENTDATA f0_named f0_count f_f0_named_modCount ka_y_DEFAULTCAPACITY_EMPTY_ELEMENTDATA ]
  show Goes _ _ _ _ _ _ _ (s₁.setTop (mkF m 0 #[.val (.ref x0), .val (.ref x1)] []))
  refine Goes.step (fun _ k => XS.aloadN X0.here hx rfl (hb hby d12_0) rfl rfl k) ?_
  show Goes _ _ _ _ _ _ _ (s₁.setTop (mkF m 1 #[.val (.ref x0), .val (.ref x1)] [(.ref x0)]))
  obtain ⟨T1, X1, e1, st1⟩ := getF X0 hx hZ hown (host := "") (Or.inl (hw _ (List.mem_of_getElem? (i := 58) rfl))) Via.refl e0 F0_named (g := (mkF m 1 #[.val (.ref x0), .val (.ref x1)] [(.ref x0)])) rfl rfl (hb hby d12_1)
  refine Goes.step st1 ?_
  show Goes _ _ _ _ _ _ _ (T1.setTop (mkF m 4 #[.val (.ref x0), .val (.ref x1)] [(.ref f0_named)]))
  obtain ⟨cq2, kq2, q2a, q2b, q2c⟩ := isOf hZ e1 E_f0_named
  obtain ⟨_, _, ⟨T2, L2, k2, n2⟩, -, X2, ⟨Lc2, hQ2, l2, y2, z2⟩, st2⟩ := X1.interfaceBack hx (xi := (⟨"java/util/List", "size", "()I"⟩ : MethodName)) (y := (⟨"java/util/ArrayList", "size", "()I"⟩ : MethodName)) hown (mvT hZ (hw _ (List.mem_of_getElem? (i := 77) rfl))) (mvT hZ (hw _ (List.mem_of_getElem? (i := 78) rfl))) (mvT hZ (hw _ (List.mem_of_getElem? (i := 79) rfl))) (mvT hZ (hw _ (List.mem_of_getElem? (i := 80) rfl))) (mvT hZ (hw _ (List.mem_of_getElem? (i := 81) rfl))) (mvT hZ (hw _ (List.mem_of_getElem? (i := 82) rfl))) (mvT hZ (hw _ (List.mem_of_getElem? (i := 83) rfl))) (mvT hZ (hw _ (List.mem_of_getElem? (i := 84) rfl))) (by decide) (backOf (W := 0) (rm13 l Z a0 hw [] f0_named (0 : Int32) h0 n0 Z0 F_f0_named_size) hZ (hw _ (List.mem_of_getElem? (i := 85) rfl)) (hw _ (List.mem_of_getElem? (i := 36) rfl)) (by decide) (by decide)) q2a q2b q2c (g := (mkF m 4 #[.val (.ref x0), .val (.ref x1)] [(.ref f0_named)])) rfl (by rw [hml]; rfl) (Steps.refl _) (argsL := []) (rest := []) (lenOf pd_8 rfl) rfl (by show 2 * 0 + _ ≤ _; exact Nat.le_of_eq rfl) (hb hby d12_4) (fun _ _ => ⟨rfl, e1, (by decide : 0 + 0 ≤ _), (by decide : 0 + 0 ≤ _)⟩)
  dsimp only [Pt.U, Pt.locs, Pt.cells, Pt.slots] at X2 l2 y2 z2 st2 hQ2
  subst l2 y2 z2
  obtain ⟨N2, eh2, hR2⟩ := hQ2
  have NA2 := Fr.app N0 N2
  obtain rfl := hR2
  refine Goes.back st2 ?_
  show Goes _ _ _ _ _ _ _ (T2.setTop (mkF m 9 #[.val (.ref x0), .val (.ref x1)] [(.int (0 : Int32))]))
  refine Goes.step (fun _ k => XS.bipush X2.here hx rfl (hb hby d12_9) k) ?_
  show Goes _ _ _ _ _ _ _ (T2.setTop (mkF m 11 #[.val (.ref x0), .val (.ref x1)] [(.int (100 : Int32)), (.int (0 : Int32))]))
  refine Goes.step (fun _ k => XS.icmpNo X2.here hx rfl (hb hby d12_11) rfl (tlt (by decide : (0 : Int32) < (100 : Int32))).2.1 k) ?_
  show Goes _ _ _ _ _ _ _ (T2.setTop (mkF m 14 #[.val (.ref x0), .val (.ref x1)] []))
  refine Goes.step (fun _ k => XS.aloadN X2.here hx rfl (hb hby d12_14) rfl rfl k) ?_
  show Goes _ _ _ _ _ _ _ (T2.setTop (mkF m 15 #[.val (.ref x0), .val (.ref x1)] [(.ref x0)]))
  obtain ⟨T3, X3, e3, st3⟩ := getF X2 hx hZ hown (host := "") (Or.inl (hw _ (List.mem_of_getElem? (i := 58) rfl))) Via.refl eh2 F0_named (g := (mkF m 15 #[.val (.ref x0), .val (.ref x1)] [(.ref x0)])) rfl rfl (hb hby d12_15)
  refine Goes.step st3 ?_
  show Goes _ _ _ _ _ _ _ (T3.setTop (mkF m 18 #[.val (.ref x0), .val (.ref x1)] [(.ref f0_named)]))
  refine Goes.step (fun _ k => XS.aloadN X3.here hx rfl (hb hby d12_18) rfl rfl k) ?_
  show Goes _ _ _ _ _ _ _ (T3.setTop (mkF m 19 #[.val (.ref x0), .val (.ref x1)] [(.ref x1), (.ref f0_named)]))
  obtain ⟨cq4, kq4, q4a, q4b, q4c⟩ := isOf hZ e3 E_f0_named
  obtain ⟨_, _, ⟨T4, L4, k4, n4⟩, -, X4, ⟨Lc4, hQ4, l4, y4, z4⟩, st4⟩ := X3.interfaceBack hx (xi := (⟨"java/util/List", "add", "(Ljava/lang/Object;)Z"⟩ : MethodName)) (y := (⟨"java/util/ArrayList", "add", "(Ljava/lang/Object;)Z"⟩ : MethodName)) hown (mvT hZ (hw _ (List.mem_of_getElem? (i := 88) rfl))) (mvT hZ (hw _ (List.mem_of_getElem? (i := 89) rfl))) (mvT hZ (hw _ (List.mem_of_getElem? (i := 90) rfl))) (mvT hZ (hw _ (List.mem_of_getElem? (i := 91) rfl))) (mvT hZ (hw _ (List.mem_of_getElem? (i := 92) rfl))) (mvT hZ (hw _ (List.mem_of_getElem? (i := 93) rfl))) (mvT hZ (hw _ (List.mem_of_getElem? (i := 94) rfl))) (mvT hZ (hw _ (List.mem_of_getElem? (i := 84) rfl))) (by decide) (backOf (W := 0) (rm14_0 l Z a0 hw [] f0_named x1 y_DEFAULTCAPACITY_EMPTY_ELEMENTDATA f_f0_named_modCount ka_y_DEFAULTCAPACITY_EMPTY_ELEMENTDATA h0 n0 Z0 S_DEFAULTCAPACITY_EMPTY_ELEMENTDATA X00 F_f0_named_modCount F_f0_named_elementData F_f0_named_size E_f0_named E_x1 V_y_DEFAULTCAPACITY_EMPTY_ELEMENTDATA g_f0_named ne_y_DEFAULTCAPACITY_EMPTY_ELEMENTDATA_f0_named) hZ (hw _ (List.mem_of_getElem? (i := 95) rfl)) (hw _ (List.mem_of_getElem? (i := 36) rfl)) (by decide) (by decide)) q4a q4b q4c (g := (mkF m 19 #[.val (.ref x0), .val (.ref x1)] [(.ref x1), (.ref f0_named)])) rfl (by rw [hml]; rfl) (Steps.refl _) (argsL := [(.ref x1)]) (rest := []) (lenOf pd_9 rfl) rfl (by show 2 * 0 + _ ≤ _; exact Nat.le_of_eq rfl) (hb hby d12_19) (fun _ _ => ⟨rfl, e3, (by decide : 0 + 1 ≤ _), (by decide : 0 + 10 ≤ _)⟩)
  dsimp only [Pt.U, Pt.locs, Pt.cells, Pt.slots] at X4 l4 y4 z4 st4 hQ4
  subst l4 y4 z4
  obtain ⟨N4, KK4, hR4⟩ := hQ4
  have NA4 := Fr.app NA2 N4
  have XO5 : Old Z n0 T4.heap := X00.keep KK4 (allS g_f0_named all0)
  have f6 := F0_named.keep KK4 (ninS ne_x0_f0_named nin0)
  have f7 := F0_count.keep KK4 (ninS ne_x0_f0_named nin0)
  have f11 := E_x0.keep KK4
  have f12 := E_f0_named.keep KK4
  have f13 := E_x1.keep KK4
  have f14 := V_y_DEFAULTCAPACITY_EMPTY_ELEMENTDATA.keep KK4 (ninS ne_y_DEFAULTCAPACITY_EMPTY_ELEMENTDATA_f0_named nin0)
  have K15 : Keep h0 T4.heap [x0, f0_named] := K0.trans KK4 (allS (Or.inl (List.mem_of_getElem? (i := 1) rfl)) all0)
  have Z15 : n0 ≤ T4.heap.size := Nat.le_trans Z0 KK4.1
  obtain ⟨r4_0_0, kk4_0_0, rfl, g_r4_0_0, le_r4_0_0, v4_0_0, v4_0_1, v4_0_2, v4_0_3, v4_0_4, oo4_0_0⟩ := hR4
  have ne16 : x0 ≠ r4_0_0 := Nat.ne_of_lt (Nat.lt_of_lt_of_le F0_named.lt le_r4_0_0)
  have ne17 : f0_named ≠ r4_0_0 := Nat.ne_of_lt (Nat.lt_of_lt_of_le F_f0_named_modCount.lt le_r4_0_0)
  have ne18 : x1 ≠ r4_0_0 := Nat.ne_of_lt (Nat.lt_of_lt_of_le E_x1.lt le_r4_0_0)
  have ne19 : y_DEFAULTCAPACITY_EMPTY_ELEMENTDATA ≠ r4_0_0 := Nat.ne_of_lt (Nat.lt_of_lt_of_le V_y_DEFAULTCAPACITY_EMPTY_ELEMENTDATA.lt le_r4_0_0)
  have sz_r4_0_0 : h0.size ≤ r4_0_0 := Nat.le_trans K0.1 le_r4_0_0
  refine Goes.back st4 ?_
  show Goes _ _ _ _ _ _ _ (T4.setTop (mkF m 24 #[.val (.ref x0), .val (.ref x1)] [(.int (1 : Int32))]))
  refine Goes.step (fun _ k => XS.pop X4.here hx rfl (hb hby d12_24) rfl rfl k) ?_
  show Goes _ _ _ _ _ _ _ (T4.setTop (mkF m 25 #[.val (.ref x0), .val (.ref x1)] []))
  refine Goes.step (fun _ k => XS.aloadN X4.here hx rfl (hb hby d12_25) rfl rfl k) ?_
  show Goes _ _ _ _ _ _ _ (T4.setTop (mkF m 26 #[.val (.ref x0), .val (.ref x1)] [(.ref x0)]))
  refine Goes.step (fun _ k => XS.dup X4.here hx rfl (hb hby d12_26) rfl rfl k) ?_
  show Goes _ _ _ _ _ _ _ (T4.setTop (mkF m 27 #[.val (.ref x0), .val (.ref x1)] [(.ref x0), (.ref x0)]))
  obtain ⟨T20, X20, e20, st20⟩ := getF X4 hx hZ hown (host := "") (Or.inl (hw _ (List.mem_of_getElem? (i := 65) rfl))) Via.refl rfl f7 (g := (mkF m 27 #[.val (.ref x0), .val (.ref x1)] [(.ref x0), (.ref x0)])) rfl rfl (hb hby d12_27)
  refine Goes.step st20 ?_
  show Goes _ _ _ _ _ _ _ (T20.setTop (mkF m 30 #[.val (.ref x0), .val (.ref x1)] [(.long f0_count), (.ref x0)]))
  refine Goes.step (fun _ k => XS.lconst X20.here hx rfl (hb hby d12_30) k) ?_
  show Goes _ _ _ _ _ _ _ (T20.setTop (mkF m 31 #[.val (.ref x0), .val (.ref x1)] [(.long (1 : Int64)), (.long f0_count), (.ref x0)]))
  refine Goes.step (fun _ k => XS.ladd X20.here hx rfl (hb hby d12_31) rfl k) ?_
  show Goes _ _ _ _ _ _ _ (T20.setTop (mkF m 32 #[.val (.ref x0), .val (.ref x1)] [(.long (f0_count + (1 : Int64))), (.ref x0)]))
  obtain ⟨T21, h21, X21, e21, W21, st21⟩ := putF X20 hx hZ hown (host := "") (Or.inl (hw _ (List.mem_of_getElem? (i := 65) rfl))) Via.refl e20 f7 f11 (Or.inl (hw _ (List.mem_of_getElem? (i := 66) rfl))) (hw _ (List.mem_of_getElem? (i := 28) rfl)) (ty := .long) (by decide) rfl rfl (g := (mkF m 32 #[.val (.ref x0), .val (.ref x1)] [(.long (f0_count + (1 : Int64))), (.ref x0)])) rfl rfl (hb hby d12_32)
  refine Goes.step st21 ?_
  have XO22 : Old Z n0 h21 := XO5.wr W21 g_x0
  have f23 := f6.other W21 (Or.inr (slot_ne (Or.inr (hw _ (List.mem_of_getElem? (i := 59) rfl))) (Or.inl (hw _ (List.mem_of_getElem? (i := 66) rfl))) (by decide) (t := (.object "java/util/List")) (t' := .long) (by decide) (by decide)))
  have f24 := f7.same W21
  have f25 := f11.wr W21
  have f26 := v4_0_0.wr W21
  have f27 := f13.wr W21
  have f28 := f14.other W21 ne_y_DEFAULTCAPACITY_EMPTY_ELEMENTDATA_x0
  have f29 := v4_0_1.other W21 (Or.inl (Ne.symm ne_x0_f0_named))
  have f30 := v4_0_2.other W21 (Or.inl (Ne.symm ne_x0_f0_named))
  have f31 := v4_0_3.other W21 (Or.inl (Ne.symm ne_x0_f0_named))
  have f32 := v4_0_4.other W21 (Ne.symm ne16)
  have K33 : Keep h0 h21 [x0, f0_named] := K15.wr W21 (Or.inl (List.mem_of_getElem? (i := 0) rfl))
  have Z33 : n0 ≤ h21.size := by rw [Wr.size W21]; exact Z15
  have N33 := Fr.snoc X21 NA4 g_x0
  show Goes _ _ _ _ _ _ _ (T21.setTop (mkF m 35 #[.val (.ref x0), .val (.ref x1)] []))
  exact Goes.retV X21 hx (BodyLoose.notSynchronized Bd) Bd.returns (hb hby d12_35) (by show Q12_0 Z x0 x1 y_DEFAULTCAPACITY_EMPTY_ELEMENTDATA f0_named f0_count f_f0_named_modCount ka_y_DEFAULTCAPACITY_EMPTY_ELEMENTDATA h0 n0 none T21.heap _; rw [e21]; exact ⟨N33, K33, ⟨r4_0_0, kk4_0_0, rfl, g_r4_0_0, sz_r4_0_0, f23, f24, f25, f26, f29, f30, f31, f32, oo4_0_0⟩⟩) (by decide) (by decide)
theorem ef_15_1 (m : MethodId) (x0 : Addr) (x1 : Addr) (x2 : Addr) (f0_modCount : Int32) (ka_x2 : ClassId)  : entryFrame m #[(.ref x0), (.ref x1), (.ref x2), (.int (1 : Int32))] 4 = mkF m 0 #[.val (.ref x0), .val (.ref x1), .val (.ref x2), .val (.int (1 : Int32))] [] := by first | (simp [entryFrame, mkF, argsToLocals, Value.category]; done) | rfl
def Q15_1 (Z : State) (x0 : Addr) (x1 : Addr) (x2 : Addr) (f0_modCount : Int32) (ka_x2 : ClassId) (h0 : Heap) (n0 : Nat) (v : Option Value) (h : Heap) (L : List Loc) : Prop := Fr n0 L ∧ Keep h0 h [x0, x2] ∧ ((v = none ∧ Fld Z h x0 "java/util/AbstractList" "modCount" "I" (.int f0_modCount) ∧ Fld Z h x0 "java/util/ArrayList" "elementData" "[Ljava/lang/Object;" (.ref x2) ∧ Fld Z h x0 "java/util/ArrayList" "size" "I" (.int (2 : Int32)) ∧ Exa Z h x0 "java/util/ArrayList" ∧ Arx Z h x2 ka_x2 (.object "java/lang/Object") (10 : Int32)))
set_option maxRecDepth 65536 in
set_option maxHeartbeats 40000000 in
theorem rm15_1 (l : Launch) (Z : State) (a0 : Array Value) (hw : ∀ d ∈ tables_1, d.before a0 Z = true) (ws : List Jvm.Cond) (x0 : Addr) (x1 : Addr) (x2 : Addr) (f0_modCount : Int32) (ka_x2 : ClassId) (h0 : Heap) (n0 : Nat) (Z0 : n0 ≤ h0.size) (F0_modCount : Fld Z h0 x0 "java/util/AbstractList" "modCount" "I" (.int f0_modCount)) (F0_elementData : Fld Z h0 x0 "java/util/ArrayList" "elementData" "[Ljava/lang/Object;" (.ref x2)) (F0_size : Fld Z h0 x0 "java/util/ArrayList" "size" "I" (.int (1 : Int32))) (E_x0 : Exa Z h0 x0 "java/util/ArrayList") (E_x1 : Exa Z h0 x1 "java/lang/String") (V_x2 : Arx Z h0 x2 ka_x2 (.object "java/lang/Object") (10 : Int32)) (O_x2 : Ovr Z ka_x2 "java/lang/Object") (g_x0 : n0 ≤ x0) (g_x2 : n0 ≤ x2) (ne_x2_x0 : x2 ≠ x0) :
    MetFree l (⟨"java/util/ArrayList", "add", "(Ljava/lang/Object;[Ljava/lang/Object;I)V"⟩ : MethodName) (head1 (Jvm.Cond.code (⟨"java/util/ArrayList", "add", "(Ljava/lang/Object;[Ljava/lang/Object;I)V"⟩ : MethodName) jdk_38_method_24_code 4 none :: ws) ({ frames := 0, cells := 0, slots := 0, locals := 0 } : Room)) (fun a U => a = #[(.ref x0), (.ref x1), (.ref x2), (.int (1 : Int32))] ∧ Z.Warmed39 U.vm ∧ U.heap = h0) (fun _ _ _ _ _ => True) (fun _ U o U' => ∃ v L, o = .returned v ∧ Q15_1 Z x0 x1 x2 f0_modCount ka_x2 h0 n0 v U'.heap L ∧ FrameEnd U o U' L ({ frames := 0, cells := 0, slots := 0, locals := 0 } : Room).cells ({ frames := 0, cells := 0, slots := 0, locals := 0 } : Room).slots) := by
  refine MetFree.of_bodySF (plainFor_of_name pn_15) hisR ?_
  intro p e s m args below meth c s₁ Bd hml0 hP hK
  obtain ⟨rfl, hZ, hh⟩ := hP
  have hx := Bd.exec
  have hby := Bd.bytes
  have hml : c.maxLocals = 4 := hml0
  have hown : s.vm.findClass "java/util/ArrayList" = some m.cls := findClass_of_methodNamed Bd.named
  have hnm := (name_of_methodNamed Bd.named Bd.method).1
  have X0 : Stand p l e ({ frames := 0, cells := 0, slots := 0, locals := 0 } : Room) s m #[(.ref x0), (.ref x1), (.ref x2), (.int (1 : Int32))] below meth c s₁ [] 0 0 := Stand.of_body Bd
  have e0 : s₁.heap = h0 := by rw [← hh, Bd.state]; rfl
  have N0 := Fr.nil n0
  have K0 : Keep h0 h0 [x0, x2] := Keep.refl h0 _
  refine (?_ : Goes p e below s ({ frames := 0, cells := 0, slots := 0, locals := 0 } : Room).cells ({ frames := 0, cells := 0, slots := 0, locals := 0 } : Room).slots (fun v h L => Q15_1 Z x0 x1 x2 f0_modCount ka_x2 h0 n0 v h L) (s₁.setTop (entryFrame m #[(.ref x0), (.ref x1), (.ref x2), (.int (1 : Int32))] 4)))
  rw [ef_15_1 m x0 x1 x2 f0_modCount ka_x2 ]
  show Goes _ _ _ _ _ _ _ (s₁.setTop (mkF m 0 #[.val (.ref x0), .val (.ref x1), .val (.ref x2), .val (.int (1 : Int32))] []))
  refine Goes.step (fun _ k => XS.iloadN X0.here hx rfl (hb hby d15_0) rfl  k) ?_
  show Goes _ _ _ _ _ _ _ (s₁.setTop (mkF m 1 #[.val (.ref x0), .val (.ref x1), .val (.ref x2), .val (.int (1 : Int32))] [(.int (1 : Int32))]))
  refine Goes.step (fun _ k => XS.aloadN X0.here hx rfl (hb hby d15_1) rfl rfl k) ?_
  show Goes _ _ _ _ _ _ _ (s₁.setTop (mkF m 2 #[.val (.ref x0), .val (.ref x1), .val (.ref x2), .val (.int (1 : Int32))] [(.ref x2), (.int (1 : Int32))]))
  obtain ⟨cl1, Ar1, q1, S1, P1, G1⟩ := id V_x2
  refine Goes.step (fun _ k => X0.arraylength hx (by rw [e0]; exact Ar1.1) (State.isArrayOf_alike hZ.alike Ar1.2.1) (g := (mkF m 2 #[.val (.ref x0), .val (.ref x1), .val (.ref x2), .val (.int (1 : Int32))] [(.ref x2), (.int (1 : Int32))])) rfl rfl (hb hby d15_2) _ k) ?_
  rw [len_of S1 P1]
  show Goes _ _ _ _ _ _ _ (s₁.setTop (mkF m 3 #[.val (.ref x0), .val (.ref x1), .val (.ref x2), .val (.int (1 : Int32))] [(.int (10 : Int32)), (.int (1 : Int32))]))
  refine Goes.step (fun _ k => XS.icmpYes X0.here hx rfl (pc0 := 3) (pc' := 11) rfl (hb hby d15_3) rfl (feq (by decide : ¬ ((1 : Int32) = (10 : Int32)))).2 (by decide) (by decide) k) ?_
  show Goes _ _ _ _ _ _ _ (s₁.setTop (mkF m 11 #[.val (.ref x0), .val (.ref x1), .val (.ref x2), .val (.int (1 : Int32))] []))
  refine Goes.step (fun _ k => XS.aloadN X0.here hx rfl (hb hby d15_11) rfl rfl k) ?_
  show Goes _ _ _ _ _ _ _ (s₁.setTop (mkF m 12 #[.val (.ref x0), .val (.ref x1), .val (.ref x2), .val (.int (1 : Int32))] [(.ref x2)]))
  refine Goes.step (fun _ k => XS.iloadN X0.here hx rfl (hb hby d15_12) rfl  k) ?_
  show Goes _ _ _ _ _ _ _ (s₁.setTop (mkF m 13 #[.val (.ref x0), .val (.ref x1), .val (.ref x2), .val (.int (1 : Int32))] [(.int (1 : Int32)), (.ref x2)]))
  refine Goes.step (fun _ k => XS.aloadN X0.here hx rfl (hb hby d15_13) rfl rfl k) ?_
  show Goes _ _ _ _ _ _ _ (s₁.setTop (mkF m 14 #[.val (.ref x0), .val (.ref x1), .val (.ref x2), .val (.int (1 : Int32))] [(.ref x1), (.int (1 : Int32)), (.ref x2)]))
  obtain ⟨cl2, Ar2, q2, S2, P2, G2⟩ := id V_x2
  have hin2 : ¬ ((1 : Int32) < 0 ∨ cl2.slots.size ≤ ((1 : Int32)).toNatClampNeg) := inb_of S2 ⟨by decide, by decide⟩
  obtain ⟨T3, h3, X3, e3, W3, st3⟩ := stR X0 hx hZ e0 Ar2 (j := (1 : Int32)) hin2 rfl (Sto.ofV Ar2 q2 O_x2 (Ins.of_exa E_x1 (hw _ (List.mem_of_getElem? (i := 119) rfl)))) (g := (mkF m 14 #[.val (.ref x0), .val (.ref x1), .val (.ref x2), .val (.int (1 : Int32))] [(.ref x1), (.int (1 : Int32)), (.ref x2)])) rfl rfl (hb hby d15_14)
  refine Goes.step st3 ?_
  have V3 := Arx.set Ar2 q2 S2 P2 G2 rfl W3
  have f4 := F0_modCount.other W3 (Or.inl (Ne.symm ne_x2_x0))
  have f5 := F0_elementData.other W3 (Or.inl (Ne.symm ne_x2_x0))
  have f6 := F0_size.other W3 (Or.inl (Ne.symm ne_x2_x0))
  have f7 := E_x0.wr W3
  have f8 := E_x1.wr W3
  have f9 := V3
  have K10 : Keep h0 h3 [x0, x2] := K0.wr W3 (Or.inl (List.mem_of_getElem? (i := 1) rfl))
  have Z10 : n0 ≤ h3.size := by rw [Wr.size W3]; exact Z0
  have N10 := Fr.snoc X3 N0 g_x2
  show Goes _ _ _ _ _ _ _ (T3.setTop (mkF m 15 #[.val (.ref x0), .val (.ref x1), .val (.ref x2), .val (.int (1 : Int32))] []))
  refine Goes.step (fun _ k => XS.aloadN X3.here hx rfl (hb hby d15_15) rfl rfl k) ?_
  show Goes _ _ _ _ _ _ _ (T3.setTop (mkF m 16 #[.val (.ref x0), .val (.ref x1), .val (.ref x2), .val (.int (1 : Int32))] [(.ref x0)]))
  refine Goes.step (fun _ k => XS.iloadN X3.here hx rfl (hb hby d15_16) rfl  k) ?_
  show Goes _ _ _ _ _ _ _ (T3.setTop (mkF m 17 #[.val (.ref x0), .val (.ref x1), .val (.ref x2), .val (.int (1 : Int32))] [(.int (1 : Int32)), (.ref x0)]))
  refine Goes.step (fun _ k => XS.iconst X3.here hx rfl (hb hby d15_17) k) ?_
  show Goes _ _ _ _ _ _ _ (T3.setTop (mkF m 18 #[.val (.ref x0), .val (.ref x1), .val (.ref x2), .val (.int (1 : Int32))] [(.int (1 : Int32)), (.int (1 : Int32)), (.ref x0)]))
  refine Goes.step (fun _ k => XS.iadd X3.here hx rfl (hb hby d15_18) rfl k) ?_
  show Goes _ _ _ _ _ _ _ (T3.setTop (mkF m 19 #[.val (.ref x0), .val (.ref x1), .val (.ref x2), .val (.int (1 : Int32))] [(.int (2 : Int32)), (.ref x0)]))
  obtain ⟨T11, h11, X11, e11, W11, st11⟩ := putF X3 hx hZ hown (host := "") (Or.inl (hw _ (List.mem_of_getElem? (i := 86) rfl))) Via.refl e3 f6 f7 (Or.inl (hw _ (List.mem_of_getElem? (i := 87) rfl))) (hw _ (List.mem_of_getElem? (i := 35) rfl)) (ty := .int) (by decide) rfl rfl (g := (mkF m 19 #[.val (.ref x0), .val (.ref x1), .val (.ref x2), .val (.int (1 : Int32))] [(.int (2 : Int32)), (.ref x0)])) rfl rfl (hb hby d15_19)
  refine Goes.step st11 ?_
  have f12 := f4.other W11 (Or.inr (slot_ne (Or.inl (hw _ (List.mem_of_getElem? (i := 54) rfl))) (Or.inl (hw _ (List.mem_of_getElem? (i := 87) rfl))) (by decide) (t := .int) (t' := .int) (by decide) (by decide)))
  have f13 := f5.other W11 (Or.inr (slot_ne (Or.inl (hw _ (List.mem_of_getElem? (i := 57) rfl))) (Or.inl (hw _ (List.mem_of_getElem? (i := 87) rfl))) (by decide) (t := (.array (.object "java/lang/Object"))) (t' := .int) (by decide) (by decide)))
  have f14 := f6.same W11
  have f15 := f7.wr W11
  have f16 := f8.wr W11
  have f17 := f9.other W11 ne_x2_x0
  have K18 : Keep h0 h11 [x0, x2] := K10.wr W11 (Or.inl (List.mem_of_getElem? (i := 0) rfl))
  have Z18 : n0 ≤ h11.size := by rw [Wr.size W11]; exact Z10
  have N18 := Fr.snoc X11 N10 g_x0
  show Goes _ _ _ _ _ _ _ (T11.setTop (mkF m 22 #[.val (.ref x0), .val (.ref x1), .val (.ref x2), .val (.int (1 : Int32))] []))
  exact Goes.retV X11 hx (BodyLoose.notSynchronized Bd) Bd.returns (hb hby d15_22) (by show Q15_1 Z x0 x1 x2 f0_modCount ka_x2 h0 n0 none T11.heap _; rw [e11]; exact ⟨N18, K18, ⟨rfl, f12, f13, f14, f15, f17⟩⟩) (by decide) (by decide)
theorem ef_14_1 (m : MethodId) (x0 : Addr) (x1 : Addr) (f0_modCount : Int32) (f0_elementData : Addr) (ka_f0_elementData : ClassId)  : entryFrame m #[(.ref x0), (.ref x1)] 2 = mkF m 0 #[.val (.ref x0), .val (.ref x1)] [] := by first | (simp [entryFrame, mkF, argsToLocals, Value.category]; done) | rfl
def Q14_1 (Z : State) (x0 : Addr) (x1 : Addr) (f0_modCount : Int32) (f0_elementData : Addr) (ka_f0_elementData : ClassId) (h0 : Heap) (n0 : Nat) (v : Option Value) (h : Heap) (L : List Loc) : Prop := Fr n0 L ∧ Keep h0 h [x0, f0_elementData] ∧ ((v = some (.int (1 : Int32)) ∧ Exa Z h x0 "java/util/ArrayList" ∧ Fld Z h x0 "java/util/AbstractList" "modCount" "I" (.int (f0_modCount + (1 : Int32))) ∧ Fld Z h x0 "java/util/ArrayList" "elementData" "[Ljava/lang/Object;" (.ref f0_elementData) ∧ Fld Z h x0 "java/util/ArrayList" "size" "I" (.int (2 : Int32)) ∧ Arx Z h f0_elementData ka_f0_elementData (.object "java/lang/Object") (10 : Int32)))
set_option maxRecDepth 65536 in
set_option maxHeartbeats 40000000 in
theorem rm14_1 (l : Launch) (Z : State) (a0 : Array Value) (hw : ∀ d ∈ tables_1, d.before a0 Z = true) (ws : List Jvm.Cond) (x0 : Addr) (x1 : Addr) (f0_modCount : Int32) (f0_elementData : Addr) (ka_f0_elementData : ClassId) (h0 : Heap) (n0 : Nat) (Z0 : n0 ≤ h0.size) (F0_modCount : Fld Z h0 x0 "java/util/AbstractList" "modCount" "I" (.int f0_modCount)) (F0_elementData : Fld Z h0 x0 "java/util/ArrayList" "elementData" "[Ljava/lang/Object;" (.ref f0_elementData)) (F0_size : Fld Z h0 x0 "java/util/ArrayList" "size" "I" (.int (1 : Int32))) (E_x0 : Exa Z h0 x0 "java/util/ArrayList") (E_x1 : Exa Z h0 x1 "java/lang/String") (V_f0_elementData : Arx Z h0 f0_elementData ka_f0_elementData (.object "java/lang/Object") (10 : Int32)) (O_f0_elementData : Ovr Z ka_f0_elementData "java/lang/Object") (g_x0 : n0 ≤ x0) (g_f0_elementData : n0 ≤ f0_elementData) (ne_f0_elementData_x0 : f0_elementData ≠ x0) :
    MetFree l (⟨"java/util/ArrayList", "add", "(Ljava/lang/Object;)Z"⟩ : MethodName) (head1 (Jvm.Cond.code (⟨"java/util/ArrayList", "add", "(Ljava/lang/Object;)Z"⟩ : MethodName) jdk_38_method_25_code 2 (some .boolean) :: ws) ({ frames := 1, cells := 0, slots := 0, locals := 15 } : Room)) (fun a U => a = #[(.ref x0), (.ref x1)] ∧ Z.Warmed39 U.vm ∧ U.heap = h0) (fun _ _ _ _ _ => True) (fun _ U o U' => ∃ v L, o = .returned v ∧ Q14_1 Z x0 x1 f0_modCount f0_elementData ka_f0_elementData h0 n0 v U'.heap L ∧ FrameEnd U o U' L ({ frames := 1, cells := 0, slots := 0, locals := 15 } : Room).cells ({ frames := 1, cells := 0, slots := 0, locals := 15 } : Room).slots) := by
  refine MetFree.of_bodySF (plainFor_of_name pn_14) hisR ?_
  intro p e s m args below meth c s₁ Bd hml0 hP hK
  obtain ⟨rfl, hZ, hh⟩ := hP
  have hx := Bd.exec
  have hby := Bd.bytes
  have hml : c.maxLocals = 2 := hml0
  have hown : s.vm.findClass "java/util/ArrayList" = some m.cls := findClass_of_methodNamed Bd.named
  have hnm := (name_of_methodNamed Bd.named Bd.method).1
  have X0 : Stand p l e ({ frames := 1, cells := 0, slots := 0, locals := 15 } : Room) s m #[(.ref x0), (.ref x1)] below meth c s₁ [] 0 0 := Stand.of_body Bd
  have e0 : s₁.heap = h0 := by rw [← hh, Bd.state]; rfl
  have N0 := Fr.nil n0
  have K0 : Keep h0 h0 [x0, f0_elementData] := Keep.refl h0 _
  refine (?_ : Goes p e below s ({ frames := 1, cells := 0, slots := 0, locals := 15 } : Room).cells ({ frames := 1, cells := 0, slots := 0, locals := 15 } : Room).slots (fun v h L => Q14_1 Z x0 x1 f0_modCount f0_elementData ka_f0_elementData h0 n0 v h L) (s₁.setTop (entryFrame m #[(.ref x0), (.ref x1)] 2)))
  rw [ef_14_1 m x0 x1 f0_modCount f0_elementData ka_f0_elementData ]
  show Goes _ _ _ _ _ _ _ (s₁.setTop (mkF m 0 #[.val (.ref x0), .val (.ref x1)] []))
  refine Goes.step (fun _ k => XS.aloadN X0.here hx rfl (hb hby d14_0) rfl rfl k) ?_
  show Goes _ _ _ _ _ _ _ (s₁.setTop (mkF m 1 #[.val (.ref x0), .val (.ref x1)] [(.ref x0)]))
  refine Goes.step (fun _ k => XS.dup X0.here hx rfl (hb hby d14_1) rfl rfl k) ?_
  show Goes _ _ _ _ _ _ _ (s₁.setTop (mkF m 2 #[.val (.ref x0), .val (.ref x1)] [(.ref x0), (.ref x0)]))
  obtain ⟨T1, X1, e1, st1⟩ := getF X0 hx hZ hown (host := "") (Or.inl (hw _ (List.mem_of_getElem? (i := 96) rfl))) (Via.of (hw _ (List.mem_of_getElem? (i := 97) rfl))) e0 F0_modCount (g := (mkF m 2 #[.val (.ref x0), .val (.ref x1)] [(.ref x0), (.ref x0)])) rfl rfl (hb hby d14_2)
  refine Goes.step st1 ?_
  show Goes _ _ _ _ _ _ _ (T1.setTop (mkF m 5 #[.val (.ref x0), .val (.ref x1)] [(.int f0_modCount), (.ref x0)]))
  refine Goes.step (fun _ k => XS.iconst X1.here hx rfl (hb hby d14_5) k) ?_
  show Goes _ _ _ _ _ _ _ (T1.setTop (mkF m 6 #[.val (.ref x0), .val (.ref x1)] [(.int (1 : Int32)), (.int f0_modCount), (.ref x0)]))
  refine Goes.step (fun _ k => XS.iadd X1.here hx rfl (hb hby d14_6) rfl k) ?_
  show Goes _ _ _ _ _ _ _ (T1.setTop (mkF m 7 #[.val (.ref x0), .val (.ref x1)] [(.int (f0_modCount + (1 : Int32))), (.ref x0)]))
  obtain ⟨T2, h2, X2, e2, W2, st2⟩ := putF X1 hx hZ hown (host := "") (Or.inl (hw _ (List.mem_of_getElem? (i := 96) rfl))) (Via.of (hw _ (List.mem_of_getElem? (i := 97) rfl))) e1 F0_modCount E_x0 (Or.inl (hw _ (List.mem_of_getElem? (i := 54) rfl))) (hw _ (List.mem_of_getElem? (i := 35) rfl)) (ty := .int) (by decide) rfl rfl (g := (mkF m 7 #[.val (.ref x0), .val (.ref x1)] [(.int (f0_modCount + (1 : Int32))), (.ref x0)])) rfl rfl (hb hby d14_7)
  refine Goes.step st2 ?_
  have f3 := F0_modCount.same W2
  have f4 := F0_elementData.other W2 (Or.inr (slot_ne (Or.inl (hw _ (List.mem_of_getElem? (i := 57) rfl))) (Or.inl (hw _ (List.mem_of_getElem? (i := 54) rfl))) (by decide) (t := (.array (.object "java/lang/Object"))) (t' := .int) (by decide) (by decide)))
  have f5 := F0_size.other W2 (Or.inr (slot_ne (Or.inl (hw _ (List.mem_of_getElem? (i := 87) rfl))) (Or.inl (hw _ (List.mem_of_getElem? (i := 54) rfl))) (by decide) (t := .int) (t' := .int) (by decide) (by decide)))
  have f6 := E_x0.wr W2
  have f7 := E_x1.wr W2
  have f8 := V_f0_elementData.other W2 ne_f0_elementData_x0
  have K9 : Keep h0 h2 [x0, f0_elementData] := K0.wr W2 (Or.inl (List.mem_of_getElem? (i := 0) rfl))
  have Z9 : n0 ≤ h2.size := by rw [Wr.size W2]; exact Z0
  have N9 := Fr.snoc X2 N0 g_x0
  show Goes _ _ _ _ _ _ _ (T2.setTop (mkF m 10 #[.val (.ref x0), .val (.ref x1)] []))
  refine Goes.step (fun _ k => XS.aloadN X2.here hx rfl (hb hby d14_10) rfl rfl k) ?_
  show Goes _ _ _ _ _ _ _ (T2.setTop (mkF m 11 #[.val (.ref x0), .val (.ref x1)] [(.ref x0)]))
  refine Goes.step (fun _ k => XS.aloadN X2.here hx rfl (hb hby d14_11) rfl rfl k) ?_
  show Goes _ _ _ _ _ _ _ (T2.setTop (mkF m 12 #[.val (.ref x0), .val (.ref x1)] [(.ref x1), (.ref x0)]))
  refine Goes.step (fun _ k => XS.aloadN X2.here hx rfl (hb hby d14_12) rfl rfl k) ?_
  show Goes _ _ _ _ _ _ _ (T2.setTop (mkF m 13 #[.val (.ref x0), .val (.ref x1)] [(.ref x0), (.ref x1), (.ref x0)]))
  obtain ⟨T10, X10, e10, st10⟩ := getF X2 hx hZ hown (host := "") (Or.inl (hw _ (List.mem_of_getElem? (i := 56) rfl))) Via.refl e2 f4 (g := (mkF m 13 #[.val (.ref x0), .val (.ref x1)] [(.ref x0), (.ref x1), (.ref x0)])) rfl rfl (hb hby d14_13)
  refine Goes.step st10 ?_
  show Goes _ _ _ _ _ _ _ (T10.setTop (mkF m 16 #[.val (.ref x0), .val (.ref x1)] [(.ref f0_elementData), (.ref x1), (.ref x0)]))
  refine Goes.step (fun _ k => XS.aloadN X10.here hx rfl (hb hby d14_16) rfl rfl k) ?_
  show Goes _ _ _ _ _ _ _ (T10.setTop (mkF m 17 #[.val (.ref x0), .val (.ref x1)] [(.ref x0), (.ref f0_elementData), (.ref x1), (.ref x0)]))
  obtain ⟨T11, X11, e11, st11⟩ := getF X10 hx hZ hown (host := "") (Or.inl (hw _ (List.mem_of_getElem? (i := 86) rfl))) Via.refl e10 f5 (g := (mkF m 17 #[.val (.ref x0), .val (.ref x1)] [(.ref x0), (.ref f0_elementData), (.ref x1), (.ref x0)])) rfl rfl (hb hby d14_17)
  refine Goes.step st11 ?_
  show Goes _ _ _ _ _ _ _ (T11.setTop (mkF m 20 #[.val (.ref x0), .val (.ref x1)] [(.int (1 : Int32)), (.ref f0_elementData), (.ref x1), (.ref x0)]))
  obtain ⟨cq12, q12, q12'⟩ := f6.cell
  obtain ⟨_, _, ⟨T12, L12, k12, n12⟩, -, X12, ⟨Lc12, hQ12, l12, y12, z12⟩, st12⟩ := X11.privateBack hx (y := (⟨"java/util/ArrayList", "add", "(Ljava/lang/Object;[Ljava/lang/Object;I)V"⟩ : MethodName)) hown (mvT hZ (hw _ (List.mem_of_getElem? (i := 98) rfl))) (mvT hZ (hw _ (List.mem_of_getElem? (i := 99) rfl))) (mvT hZ (hw _ (List.mem_of_getElem? (i := 101) rfl))) (Cond.privateMethod_at (mvP hZ (hw _ (List.mem_of_getElem? (i := 100) rfl)) (args := #[]))) (mvT hZ (hw _ (List.mem_of_getElem? (i := 102) rfl))) (by decide) (backOf (W := 0) (rm15_1 l Z a0 hw [] x0 x1 f0_elementData (f0_modCount + (1 : Int32)) ka_f0_elementData h2 n0 Z9 f3 f4 f5 f6 f7 f8 O_f0_elementData g_x0 g_f0_elementData ne_f0_elementData_x0) hZ (hw _ (List.mem_of_getElem? (i := 102) rfl)) (hw _ (List.mem_of_getElem? (i := 36) rfl)) (by decide) (by decide)) (g := (mkF m 20 #[.val (.ref x0), .val (.ref x1)] [(.int (1 : Int32)), (.ref f0_elementData), (.ref x1), (.ref x0)])) rfl (by rw [hml]; rfl) (Steps.refl _) (a := x0) (by rw [e11]; exact q12) q12' (argsL := [(.ref x1), (.ref f0_elementData), (.int (1 : Int32))]) (rest := []) (lenOf pd_10 rfl) rfl (by show 2 * 0 + _ ≤ _; exact Nat.le_of_eq rfl) (hb hby d14_20) (fun _ _ => ⟨rfl, e11, (by decide : 0 + 0 ≤ _), (by decide : 0 + 0 ≤ _)⟩)
  dsimp only [Pt.U, Pt.locs, Pt.cells, Pt.slots] at X12 l12 y12 z12 st12 hQ12
  subst l12 y12 z12
  obtain ⟨N12, KK12, hR12⟩ := hQ12
  have NA12 := Fr.app N9 N12
  have f16 := f6.keep KK12
  have f17 := f7.keep KK12
  have K19 : Keep h0 T12.heap [x0, f0_elementData] := K9.trans KK12 (allS (Or.inl (List.mem_of_getElem? (i := 0) rfl)) (allS (Or.inl (List.mem_of_getElem? (i := 1) rfl)) all0))
  have Z19 : n0 ≤ T12.heap.size := Nat.le_trans Z9 KK12.1
  obtain ⟨rfl, v12_0_0, v12_0_1, v12_0_2, v12_0_3, v12_0_4⟩ := hR12
  refine Goes.back st12 ?_
  show Goes _ _ _ _ _ _ _ (T12.setTop (mkF m 23 #[.val (.ref x0), .val (.ref x1)] []))
  refine Goes.step (fun _ k => XS.iconst X12.here hx rfl (hb hby d14_23) k) ?_
  show Goes _ _ _ _ _ _ _ (T12.setTop (mkF m 24 #[.val (.ref x0), .val (.ref x1)] [(.int (1 : Int32))]))
  exact Goes.ret X12 hx (BodyLoose.notSynchronized Bd) Bd.returns rfl (Or.inl ⟨rfl, by simp, _, rfl⟩) (hb hby d14_24) (by show Q14_1 Z x0 x1 f0_modCount f0_elementData ka_f0_elementData h0 n0 (some (.int (1 : Int32))) T12.heap _; exact ⟨NA12, K19, ⟨rfl, v12_0_3, v12_0_0, v12_0_1, v12_0_2, v12_0_4⟩⟩) (by decide) (by decide)
theorem ef_12_1 (m : MethodId) (x0 : Addr) (x1 : Addr) (f0_named : Addr) (f0_count : Int64) (f_f0_named_modCount : Int32) (f_f0_named_elementData : Addr) (ka_f_f0_named_elementData : ClassId)  : entryFrame m #[(.ref x0), (.ref x1)] 2 = mkF m 0 #[.val (.ref x0), .val (.ref x1)] [] := by first | (simp [entryFrame, mkF, argsToLocals, Value.category]; done) | rfl
def Q12_1 (Z : State) (x0 : Addr) (x1 : Addr) (f0_named : Addr) (f0_count : Int64) (f_f0_named_modCount : Int32) (f_f0_named_elementData : Addr) (ka_f_f0_named_elementData : ClassId) (h0 : Heap) (n0 : Nat) (v : Option Value) (h : Heap) (L : List Loc) : Prop := Fr n0 L ∧ Keep h0 h [x0, f0_named, f_f0_named_elementData] ∧ ((v = none ∧ Fld Z h x0 "com/example/roles_to_grants/rolestogrants/input/ProblemList" "named" "Ljava/util/List;" (.ref f0_named) ∧ Fld Z h x0 "com/example/roles_to_grants/rolestogrants/input/ProblemList" "count" "J" (.long (f0_count + (1 : Int64))) ∧ Exa Z h x0 "com/example/roles_to_grants/rolestogrants/input/ProblemList" ∧ Exa Z h f0_named "java/util/ArrayList" ∧ Fld Z h f0_named "java/util/AbstractList" "modCount" "I" (.int (f_f0_named_modCount + (1 : Int32))) ∧ Fld Z h f0_named "java/util/ArrayList" "elementData" "[Ljava/lang/Object;" (.ref f_f0_named_elementData) ∧ Fld Z h f0_named "java/util/ArrayList" "size" "I" (.int (2 : Int32)) ∧ Arx Z h f_f0_named_elementData ka_f_f0_named_elementData (.object "java/lang/Object") (10 : Int32)))
set_option maxRecDepth 65536 in
set_option maxHeartbeats 40000000 in
theorem rm12_1 (l : Launch) (Z : State) (a0 : Array Value) (hw : ∀ d ∈ tables_1, d.before a0 Z = true) (ws : List Jvm.Cond) (x0 : Addr) (x1 : Addr) (f0_named : Addr) (f0_count : Int64) (f_f0_named_modCount : Int32) (f_f0_named_elementData : Addr) (ka_f_f0_named_elementData : ClassId) (h0 : Heap) (n0 : Nat) (Z0 : n0 ≤ h0.size) (F0_named : Fld Z h0 x0 "com/example/roles_to_grants/rolestogrants/input/ProblemList" "named" "Ljava/util/List;" (.ref f0_named)) (F0_count : Fld Z h0 x0 "com/example/roles_to_grants/rolestogrants/input/ProblemList" "count" "J" (.long f0_count)) (F_f0_named_modCount : Fld Z h0 f0_named "java/util/AbstractList" "modCount" "I" (.int f_f0_named_modCount)) (F_f0_named_elementData : Fld Z h0 f0_named "java/util/ArrayList" "elementData" "[Ljava/lang/Object;" (.ref f_f0_named_elementData)) (F_f0_named_size : Fld Z h0 f0_named "java/util/ArrayList" "size" "I" (.int (1 : Int32))) (E_x0 : Exa Z h0 x0 "com/example/roles_to_grants/rolestogrants/input/ProblemList") (E_f0_named : Exa Z h0 f0_named "java/util/ArrayList") (E_x1 : Exa Z h0 x1 "java/lang/String") (V_f_f0_named_elementData : Arx Z h0 f_f0_named_elementData ka_f_f0_named_elementData (.object "java/lang/Object") (10 : Int32)) (O_f_f0_named_elementData : Ovr Z ka_f_f0_named_elementData "java/lang/Object") (g_x0 : n0 ≤ x0) (g_f0_named : n0 ≤ f0_named) (g_f_f0_named_elementData : n0 ≤ f_f0_named_elementData) (ne_f_f0_named_elementData_x0 : f_f0_named_elementData ≠ x0) (ne_f_f0_named_elementData_f0_named : f_f0_named_elementData ≠ f0_named) (ne_x0_f0_named : x0 ≠ f0_named) :
    MetFree l (⟨"com/example/roles_to_grants/rolestogrants/input/ProblemList", "add", "(Ljava/lang/String;)V"⟩ : MethodName) (head1 (Jvm.Cond.code (⟨"com/example/roles_to_grants/rolestogrants/input/ProblemList", "add", "(Ljava/lang/String;)V"⟩ : MethodName) prog_17_method_2_code 2 none :: ws) ({ frames := 2, cells := 0, slots := 0, locals := 28 } : Room)) (fun a U => a = #[(.ref x0), (.ref x1)] ∧ Z.Warmed39 U.vm ∧ U.heap = h0) (fun _ _ _ _ _ => True) (fun _ U o U' => ∃ v L, o = .returned v ∧ Q12_1 Z x0 x1 f0_named f0_count f_f0_named_modCount f_f0_named_elementData ka_f_f0_named_elementData h0 n0 v U'.heap L ∧ FrameEnd U o U' L ({ frames := 2, cells := 0, slots := 0, locals := 28 } : Room).cells ({ frames := 2, cells := 0, slots := 0, locals := 28 } : Room).slots) := by
  refine MetFree.of_bodySF (plainFor_of_name pn_12) hisR ?_
  intro p e s m args below meth c s₁ Bd hml0 hP hK
  obtain ⟨rfl, hZ, hh⟩ := hP
  have hx := Bd.exec
  have hby := Bd.bytes
  have hml : c.maxLocals = 2 := hml0
  have hown : s.vm.findClass "com/example/roles_to_grants/rolestogrants/input/ProblemList" = some m.cls := findClass_of_methodNamed Bd.named
  have hnm := (name_of_methodNamed Bd.named Bd.method).1
  have X0 : Stand p l e ({ frames := 2, cells := 0, slots := 0, locals := 28 } : Room) s m #[(.ref x0), (.ref x1)] below meth c s₁ [] 0 0 := Stand.of_body Bd
  have e0 : s₁.heap = h0 := by rw [← hh, Bd.state]; rfl
  have N0 := Fr.nil n0
  have K0 : Keep h0 h0 [x0, f0_named, f_f0_named_elementData] := Keep.refl h0 _
  refine (?_ : Goes p e below s ({ frames := 2, cells := 0, slots := 0, locals := 28 } : Room).cells ({ frames := 2, cells := 0, slots := 0, locals := 28 } : Room).slots (fun v h L => Q12_1 Z x0 x1 f0_named f0_count f_f0_named_modCount f_f0_named_elementData ka_f_f0_named_elementData h0 n0 v h L) (s₁.setTop (entryFrame m #[(.ref x0), (.ref x1)] 2)))
  rw [ef_12_1 m x0 x1 f0_named f0_count f_f0_named_modCount f_f0_named_elementData ka_f_f0_named_elementData ]
  show Goes _ _ _ _ _ _ _ (s₁.setTop (mkF m 0 #[.val (.ref x0), .val (.ref x1)] []))
  refine Goes.step (fun _ k => XS.aloadN X0.here hx rfl (hb hby d12_0) rfl rfl k) ?_
  show Goes _ _ _ _ _ _ _ (s₁.setTop (mkF m 1 #[.val (.ref x0), .val (.ref x1)] [(.ref x0)]))
  obtain ⟨T1, X1, e1, st1⟩ := getF X0 hx hZ hown (host := "") (Or.inl (hw _ (List.mem_of_getElem? (i := 58) rfl))) Via.refl e0 F0_named (g := (mkF m 1 #[.val (.ref x0), .val (.ref x1)] [(.ref x0)])) rfl rfl (hb hby d12_1)
  refine Goes.step st1 ?_
  show Goes _ _ _ _ _ _ _ (T1.setTop (mkF m 4 #[.val (.ref x0), .val (.ref x1)] [(.ref f0_named)]))
  obtain ⟨cq2, kq2, q2a, q2b, q2c⟩ := isOf hZ e1 E_f0_named
  obtain ⟨_, _, ⟨T2, L2, k2, n2⟩, -, X2, ⟨Lc2, hQ2, l2, y2, z2⟩, st2⟩ := X1.interfaceBack hx (xi := (⟨"java/util/List", "size", "()I"⟩ : MethodName)) (y := (⟨"java/util/ArrayList", "size", "()I"⟩ : MethodName)) hown (mvT hZ (hw _ (List.mem_of_getElem? (i := 77) rfl))) (mvT hZ (hw _ (List.mem_of_getElem? (i := 78) rfl))) (mvT hZ (hw _ (List.mem_of_getElem? (i := 79) rfl))) (mvT hZ (hw _ (List.mem_of_getElem? (i := 80) rfl))) (mvT hZ (hw _ (List.mem_of_getElem? (i := 81) rfl))) (mvT hZ (hw _ (List.mem_of_getElem? (i := 82) rfl))) (mvT hZ (hw _ (List.mem_of_getElem? (i := 83) rfl))) (mvT hZ (hw _ (List.mem_of_getElem? (i := 84) rfl))) (by decide) (backOf (W := 0) (rm13 l Z a0 hw [] f0_named (1 : Int32) h0 n0 Z0 F_f0_named_size) hZ (hw _ (List.mem_of_getElem? (i := 85) rfl)) (hw _ (List.mem_of_getElem? (i := 36) rfl)) (by decide) (by decide)) q2a q2b q2c (g := (mkF m 4 #[.val (.ref x0), .val (.ref x1)] [(.ref f0_named)])) rfl (by rw [hml]; rfl) (Steps.refl _) (argsL := []) (rest := []) (lenOf pd_8 rfl) rfl (by show 2 * 0 + _ ≤ _; exact Nat.le_of_eq rfl) (hb hby d12_4) (fun _ _ => ⟨rfl, e1, (by decide : 0 + 0 ≤ _), (by decide : 0 + 0 ≤ _)⟩)
  dsimp only [Pt.U, Pt.locs, Pt.cells, Pt.slots] at X2 l2 y2 z2 st2 hQ2
  subst l2 y2 z2
  obtain ⟨N2, eh2, hR2⟩ := hQ2
  have NA2 := Fr.app N0 N2
  obtain rfl := hR2
  refine Goes.back st2 ?_
  show Goes _ _ _ _ _ _ _ (T2.setTop (mkF m 9 #[.val (.ref x0), .val (.ref x1)] [(.int (1 : Int32))]))
  refine Goes.step (fun _ k => XS.bipush X2.here hx rfl (hb hby d12_9) k) ?_
  show Goes _ _ _ _ _ _ _ (T2.setTop (mkF m 11 #[.val (.ref x0), .val (.ref x1)] [(.int (100 : Int32)), (.int (1 : Int32))]))
  refine Goes.step (fun _ k => XS.icmpNo X2.here hx rfl (hb hby d12_11) rfl (tlt (by decide : (1 : Int32) < (100 : Int32))).2.1 k) ?_
  show Goes _ _ _ _ _ _ _ (T2.setTop (mkF m 14 #[.val (.ref x0), .val (.ref x1)] []))
  refine Goes.step (fun _ k => XS.aloadN X2.here hx rfl (hb hby d12_14) rfl rfl k) ?_
  show Goes _ _ _ _ _ _ _ (T2.setTop (mkF m 15 #[.val (.ref x0), .val (.ref x1)] [(.ref x0)]))
  obtain ⟨T3, X3, e3, st3⟩ := getF X2 hx hZ hown (host := "") (Or.inl (hw _ (List.mem_of_getElem? (i := 58) rfl))) Via.refl eh2 F0_named (g := (mkF m 15 #[.val (.ref x0), .val (.ref x1)] [(.ref x0)])) rfl rfl (hb hby d12_15)
  refine Goes.step st3 ?_
  show Goes _ _ _ _ _ _ _ (T3.setTop (mkF m 18 #[.val (.ref x0), .val (.ref x1)] [(.ref f0_named)]))
  refine Goes.step (fun _ k => XS.aloadN X3.here hx rfl (hb hby d12_18) rfl rfl k) ?_
  show Goes _ _ _ _ _ _ _ (T3.setTop (mkF m 19 #[.val (.ref x0), .val (.ref x1)] [(.ref x1), (.ref f0_named)]))
  obtain ⟨cq4, kq4, q4a, q4b, q4c⟩ := isOf hZ e3 E_f0_named
  obtain ⟨_, _, ⟨T4, L4, k4, n4⟩, -, X4, ⟨Lc4, hQ4, l4, y4, z4⟩, st4⟩ := X3.interfaceBack hx (xi := (⟨"java/util/List", "add", "(Ljava/lang/Object;)Z"⟩ : MethodName)) (y := (⟨"java/util/ArrayList", "add", "(Ljava/lang/Object;)Z"⟩ : MethodName)) hown (mvT hZ (hw _ (List.mem_of_getElem? (i := 88) rfl))) (mvT hZ (hw _ (List.mem_of_getElem? (i := 89) rfl))) (mvT hZ (hw _ (List.mem_of_getElem? (i := 90) rfl))) (mvT hZ (hw _ (List.mem_of_getElem? (i := 91) rfl))) (mvT hZ (hw _ (List.mem_of_getElem? (i := 92) rfl))) (mvT hZ (hw _ (List.mem_of_getElem? (i := 93) rfl))) (mvT hZ (hw _ (List.mem_of_getElem? (i := 94) rfl))) (mvT hZ (hw _ (List.mem_of_getElem? (i := 84) rfl))) (by decide) (backOf (W := 0) (rm14_1 l Z a0 hw [] f0_named x1 f_f0_named_modCount f_f0_named_elementData ka_f_f0_named_elementData h0 n0 Z0 F_f0_named_modCount F_f0_named_elementData F_f0_named_size E_f0_named E_x1 V_f_f0_named_elementData O_f_f0_named_elementData g_f0_named g_f_f0_named_elementData ne_f_f0_named_elementData_f0_named) hZ (hw _ (List.mem_of_getElem? (i := 95) rfl)) (hw _ (List.mem_of_getElem? (i := 36) rfl)) (by decide) (by decide)) q4a q4b q4c (g := (mkF m 19 #[.val (.ref x0), .val (.ref x1)] [(.ref x1), (.ref f0_named)])) rfl (by rw [hml]; rfl) (Steps.refl _) (argsL := [(.ref x1)]) (rest := []) (lenOf pd_9 rfl) rfl (by show 2 * 0 + _ ≤ _; exact Nat.le_of_eq rfl) (hb hby d12_19) (fun _ _ => ⟨rfl, e3, (by decide : 0 + 0 ≤ _), (by decide : 0 + 0 ≤ _)⟩)
  dsimp only [Pt.U, Pt.locs, Pt.cells, Pt.slots] at X4 l4 y4 z4 st4 hQ4
  subst l4 y4 z4
  obtain ⟨N4, KK4, hR4⟩ := hQ4
  have NA4 := Fr.app NA2 N4
  have f5 := F0_named.keep KK4 (ninS ne_x0_f0_named (ninS (Ne.symm ne_f_f0_named_elementData_x0) nin0))
  have f6 := F0_count.keep KK4 (ninS ne_x0_f0_named (ninS (Ne.symm ne_f_f0_named_elementData_x0) nin0))
  have f10 := E_x0.keep KK4
  have f11 := E_f0_named.keep KK4
  have f12 := E_x1.keep KK4
  have K14 : Keep h0 T4.heap [x0, f0_named, f_f0_named_elementData] := K0.trans KK4 (allS (Or.inl (List.mem_of_getElem? (i := 1) rfl)) (allS (Or.inl (List.mem_of_getElem? (i := 2) rfl)) all0))
  have Z14 : n0 ≤ T4.heap.size := Nat.le_trans Z0 KK4.1
  obtain ⟨rfl, v4_0_0, v4_0_1, v4_0_2, v4_0_3, v4_0_4⟩ := hR4
  refine Goes.back st4 ?_
  show Goes _ _ _ _ _ _ _ (T4.setTop (mkF m 24 #[.val (.ref x0), .val (.ref x1)] [(.int (1 : Int32))]))
  refine Goes.step (fun _ k => XS.pop X4.here hx rfl (hb hby d12_24) rfl rfl k) ?_
  show Goes _ _ _ _ _ _ _ (T4.setTop (mkF m 25 #[.val (.ref x0), .val (.ref x1)] []))
  refine Goes.step (fun _ k => XS.aloadN X4.here hx rfl (hb hby d12_25) rfl rfl k) ?_
  show Goes _ _ _ _ _ _ _ (T4.setTop (mkF m 26 #[.val (.ref x0), .val (.ref x1)] [(.ref x0)]))
  refine Goes.step (fun _ k => XS.dup X4.here hx rfl (hb hby d12_26) rfl rfl k) ?_
  show Goes _ _ _ _ _ _ _ (T4.setTop (mkF m 27 #[.val (.ref x0), .val (.ref x1)] [(.ref x0), (.ref x0)]))
  obtain ⟨T15, X15, e15, st15⟩ := getF X4 hx hZ hown (host := "") (Or.inl (hw _ (List.mem_of_getElem? (i := 65) rfl))) Via.refl rfl f6 (g := (mkF m 27 #[.val (.ref x0), .val (.ref x1)] [(.ref x0), (.ref x0)])) rfl rfl (hb hby d12_27)
  refine Goes.step st15 ?_
  show Goes _ _ _ _ _ _ _ (T15.setTop (mkF m 30 #[.val (.ref x0), .val (.ref x1)] [(.long f0_count), (.ref x0)]))
  refine Goes.step (fun _ k => XS.lconst X15.here hx rfl (hb hby d12_30) k) ?_
  show Goes _ _ _ _ _ _ _ (T15.setTop (mkF m 31 #[.val (.ref x0), .val (.ref x1)] [(.long (1 : Int64)), (.long f0_count), (.ref x0)]))
  refine Goes.step (fun _ k => XS.ladd X15.here hx rfl (hb hby d12_31) rfl k) ?_
  show Goes _ _ _ _ _ _ _ (T15.setTop (mkF m 32 #[.val (.ref x0), .val (.ref x1)] [(.long (f0_count + (1 : Int64))), (.ref x0)]))
  obtain ⟨T16, h16, X16, e16, W16, st16⟩ := putF X15 hx hZ hown (host := "") (Or.inl (hw _ (List.mem_of_getElem? (i := 65) rfl))) Via.refl e15 f6 f10 (Or.inl (hw _ (List.mem_of_getElem? (i := 66) rfl))) (hw _ (List.mem_of_getElem? (i := 28) rfl)) (ty := .long) (by decide) rfl rfl (g := (mkF m 32 #[.val (.ref x0), .val (.ref x1)] [(.long (f0_count + (1 : Int64))), (.ref x0)])) rfl rfl (hb hby d12_32)
  refine Goes.step st16 ?_
  have f17 := f5.other W16 (Or.inr (slot_ne (Or.inr (hw _ (List.mem_of_getElem? (i := 59) rfl))) (Or.inl (hw _ (List.mem_of_getElem? (i := 66) rfl))) (by decide) (t := (.object "java/util/List")) (t' := .long) (by decide) (by decide)))
  have f18 := f6.same W16
  have f19 := f10.wr W16
  have f20 := v4_0_0.wr W16
  have f21 := f12.wr W16
  have f22 := v4_0_1.other W16 (Or.inl (Ne.symm ne_x0_f0_named))
  have f23 := v4_0_2.other W16 (Or.inl (Ne.symm ne_x0_f0_named))
  have f24 := v4_0_3.other W16 (Or.inl (Ne.symm ne_x0_f0_named))
  have f25 := v4_0_4.other W16 ne_f_f0_named_elementData_x0
  have K26 : Keep h0 h16 [x0, f0_named, f_f0_named_elementData] := K14.wr W16 (Or.inl (List.mem_of_getElem? (i := 0) rfl))
  have Z26 : n0 ≤ h16.size := by rw [Wr.size W16]; exact Z14
  have N26 := Fr.snoc X16 NA4 g_x0
  show Goes _ _ _ _ _ _ _ (T16.setTop (mkF m 35 #[.val (.ref x0), .val (.ref x1)] []))
  exact Goes.retV X16 hx (BodyLoose.notSynchronized Bd) Bd.returns (hb hby d12_35) (by show Q12_1 Z x0 x1 f0_named f0_count f_f0_named_modCount f_f0_named_elementData ka_f_f0_named_elementData h0 n0 none T16.heap _; rw [e16]; exact ⟨N26, K26, ⟨rfl, f17, f18, f19, f20, f22, f23, f24, f25⟩⟩) (by decide) (by decide)
theorem ef_15_2 (m : MethodId) (x0 : Addr) (x1 : Addr) (x2 : Addr) (f0_modCount : Int32) (ka_x2 : ClassId)  : entryFrame m #[(.ref x0), (.ref x1), (.ref x2), (.int (2 : Int32))] 4 = mkF m 0 #[.val (.ref x0), .val (.ref x1), .val (.ref x2), .val (.int (2 : Int32))] [] := by first | (simp [entryFrame, mkF, argsToLocals, Value.category]; done) | rfl
def Q15_2 (Z : State) (x0 : Addr) (x1 : Addr) (x2 : Addr) (f0_modCount : Int32) (ka_x2 : ClassId) (h0 : Heap) (n0 : Nat) (v : Option Value) (h : Heap) (L : List Loc) : Prop := Fr n0 L ∧ Keep h0 h [x0, x2] ∧ ((v = none ∧ Fld Z h x0 "java/util/AbstractList" "modCount" "I" (.int f0_modCount) ∧ Fld Z h x0 "java/util/ArrayList" "elementData" "[Ljava/lang/Object;" (.ref x2) ∧ Fld Z h x0 "java/util/ArrayList" "size" "I" (.int (3 : Int32)) ∧ Exa Z h x0 "java/util/ArrayList" ∧ Arx Z h x2 ka_x2 (.object "java/lang/Object") (10 : Int32)))
set_option maxRecDepth 65536 in
set_option maxHeartbeats 40000000 in
theorem rm15_2 (l : Launch) (Z : State) (a0 : Array Value) (hw : ∀ d ∈ tables_1, d.before a0 Z = true) (ws : List Jvm.Cond) (x0 : Addr) (x1 : Addr) (x2 : Addr) (f0_modCount : Int32) (ka_x2 : ClassId) (h0 : Heap) (n0 : Nat) (Z0 : n0 ≤ h0.size) (F0_modCount : Fld Z h0 x0 "java/util/AbstractList" "modCount" "I" (.int f0_modCount)) (F0_elementData : Fld Z h0 x0 "java/util/ArrayList" "elementData" "[Ljava/lang/Object;" (.ref x2)) (F0_size : Fld Z h0 x0 "java/util/ArrayList" "size" "I" (.int (2 : Int32))) (E_x0 : Exa Z h0 x0 "java/util/ArrayList") (E_x1 : Exa Z h0 x1 "java/lang/String") (V_x2 : Arx Z h0 x2 ka_x2 (.object "java/lang/Object") (10 : Int32)) (O_x2 : Ovr Z ka_x2 "java/lang/Object") (g_x0 : n0 ≤ x0) (g_x2 : n0 ≤ x2) (ne_x2_x0 : x2 ≠ x0) :
    MetFree l (⟨"java/util/ArrayList", "add", "(Ljava/lang/Object;[Ljava/lang/Object;I)V"⟩ : MethodName) (head1 (Jvm.Cond.code (⟨"java/util/ArrayList", "add", "(Ljava/lang/Object;[Ljava/lang/Object;I)V"⟩ : MethodName) jdk_38_method_24_code 4 none :: ws) ({ frames := 0, cells := 0, slots := 0, locals := 0 } : Room)) (fun a U => a = #[(.ref x0), (.ref x1), (.ref x2), (.int (2 : Int32))] ∧ Z.Warmed39 U.vm ∧ U.heap = h0) (fun _ _ _ _ _ => True) (fun _ U o U' => ∃ v L, o = .returned v ∧ Q15_2 Z x0 x1 x2 f0_modCount ka_x2 h0 n0 v U'.heap L ∧ FrameEnd U o U' L ({ frames := 0, cells := 0, slots := 0, locals := 0 } : Room).cells ({ frames := 0, cells := 0, slots := 0, locals := 0 } : Room).slots) := by
  refine MetFree.of_bodySF (plainFor_of_name pn_15) hisR ?_
  intro p e s m args below meth c s₁ Bd hml0 hP hK
  obtain ⟨rfl, hZ, hh⟩ := hP
  have hx := Bd.exec
  have hby := Bd.bytes
  have hml : c.maxLocals = 4 := hml0
  have hown : s.vm.findClass "java/util/ArrayList" = some m.cls := findClass_of_methodNamed Bd.named
  have hnm := (name_of_methodNamed Bd.named Bd.method).1
  have X0 : Stand p l e ({ frames := 0, cells := 0, slots := 0, locals := 0 } : Room) s m #[(.ref x0), (.ref x1), (.ref x2), (.int (2 : Int32))] below meth c s₁ [] 0 0 := Stand.of_body Bd
  have e0 : s₁.heap = h0 := by rw [← hh, Bd.state]; rfl
  have N0 := Fr.nil n0
  have K0 : Keep h0 h0 [x0, x2] := Keep.refl h0 _
  refine (?_ : Goes p e below s ({ frames := 0, cells := 0, slots := 0, locals := 0 } : Room).cells ({ frames := 0, cells := 0, slots := 0, locals := 0 } : Room).slots (fun v h L => Q15_2 Z x0 x1 x2 f0_modCount ka_x2 h0 n0 v h L) (s₁.setTop (entryFrame m #[(.ref x0), (.ref x1), (.ref x2), (.int (2 : Int32))] 4)))
  rw [ef_15_2 m x0 x1 x2 f0_modCount ka_x2 ]
  show Goes _ _ _ _ _ _ _ (s₁.setTop (mkF m 0 #[.val (.ref x0), .val (.ref x1), .val (.ref x2), .val (.int (2 : Int32))] []))
  refine Goes.step (fun _ k => XS.iloadN X0.here hx rfl (hb hby d15_0) rfl  k) ?_
  show Goes _ _ _ _ _ _ _ (s₁.setTop (mkF m 1 #[.val (.ref x0), .val (.ref x1), .val (.ref x2), .val (.int (2 : Int32))] [(.int (2 : Int32))]))
  refine Goes.step (fun _ k => XS.aloadN X0.here hx rfl (hb hby d15_1) rfl rfl k) ?_
  show Goes _ _ _ _ _ _ _ (s₁.setTop (mkF m 2 #[.val (.ref x0), .val (.ref x1), .val (.ref x2), .val (.int (2 : Int32))] [(.ref x2), (.int (2 : Int32))]))
  obtain ⟨cl1, Ar1, q1, S1, P1, G1⟩ := id V_x2
  refine Goes.step (fun _ k => X0.arraylength hx (by rw [e0]; exact Ar1.1) (State.isArrayOf_alike hZ.alike Ar1.2.1) (g := (mkF m 2 #[.val (.ref x0), .val (.ref x1), .val (.ref x2), .val (.int (2 : Int32))] [(.ref x2), (.int (2 : Int32))])) rfl rfl (hb hby d15_2) _ k) ?_
  rw [len_of S1 P1]
  show Goes _ _ _ _ _ _ _ (s₁.setTop (mkF m 3 #[.val (.ref x0), .val (.ref x1), .val (.ref x2), .val (.int (2 : Int32))] [(.int (10 : Int32)), (.int (2 : Int32))]))
  refine Goes.step (fun _ k => XS.icmpYes X0.here hx rfl (pc0 := 3) (pc' := 11) rfl (hb hby d15_3) rfl (feq (by decide : ¬ ((2 : Int32) = (10 : Int32)))).2 (by decide) (by decide) k) ?_
  show Goes _ _ _ _ _ _ _ (s₁.setTop (mkF m 11 #[.val (.ref x0), .val (.ref x1), .val (.ref x2), .val (.int (2 : Int32))] []))
  refine Goes.step (fun _ k => XS.aloadN X0.here hx rfl (hb hby d15_11) rfl rfl k) ?_
  show Goes _ _ _ _ _ _ _ (s₁.setTop (mkF m 12 #[.val (.ref x0), .val (.ref x1), .val (.ref x2), .val (.int (2 : Int32))] [(.ref x2)]))
  refine Goes.step (fun _ k => XS.iloadN X0.here hx rfl (hb hby d15_12) rfl  k) ?_
  show Goes _ _ _ _ _ _ _ (s₁.setTop (mkF m 13 #[.val (.ref x0), .val (.ref x1), .val (.ref x2), .val (.int (2 : Int32))] [(.int (2 : Int32)), (.ref x2)]))
  refine Goes.step (fun _ k => XS.aloadN X0.here hx rfl (hb hby d15_13) rfl rfl k) ?_
  show Goes _ _ _ _ _ _ _ (s₁.setTop (mkF m 14 #[.val (.ref x0), .val (.ref x1), .val (.ref x2), .val (.int (2 : Int32))] [(.ref x1), (.int (2 : Int32)), (.ref x2)]))
  obtain ⟨cl2, Ar2, q2, S2, P2, G2⟩ := id V_x2
  have hin2 : ¬ ((2 : Int32) < 0 ∨ cl2.slots.size ≤ ((2 : Int32)).toNatClampNeg) := inb_of S2 ⟨by decide, by decide⟩
  obtain ⟨T3, h3, X3, e3, W3, st3⟩ := stR X0 hx hZ e0 Ar2 (j := (2 : Int32)) hin2 rfl (Sto.ofV Ar2 q2 O_x2 (Ins.of_exa E_x1 (hw _ (List.mem_of_getElem? (i := 119) rfl)))) (g := (mkF m 14 #[.val (.ref x0), .val (.ref x1), .val (.ref x2), .val (.int (2 : Int32))] [(.ref x1), (.int (2 : Int32)), (.ref x2)])) rfl rfl (hb hby d15_14)
  refine Goes.step st3 ?_
  have V3 := Arx.set Ar2 q2 S2 P2 G2 rfl W3
  have f4 := F0_modCount.other W3 (Or.inl (Ne.symm ne_x2_x0))
  have f5 := F0_elementData.other W3 (Or.inl (Ne.symm ne_x2_x0))
  have f6 := F0_size.other W3 (Or.inl (Ne.symm ne_x2_x0))
  have f7 := E_x0.wr W3
  have f8 := E_x1.wr W3
  have f9 := V3
  have K10 : Keep h0 h3 [x0, x2] := K0.wr W3 (Or.inl (List.mem_of_getElem? (i := 1) rfl))
  have Z10 : n0 ≤ h3.size := by rw [Wr.size W3]; exact Z0
  have N10 := Fr.snoc X3 N0 g_x2
  show Goes _ _ _ _ _ _ _ (T3.setTop (mkF m 15 #[.val (.ref x0), .val (.ref x1), .val (.ref x2), .val (.int (2 : Int32))] []))
  refine Goes.step (fun _ k => XS.aloadN X3.here hx rfl (hb hby d15_15) rfl rfl k) ?_
  show Goes _ _ _ _ _ _ _ (T3.setTop (mkF m 16 #[.val (.ref x0), .val (.ref x1), .val (.ref x2), .val (.int (2 : Int32))] [(.ref x0)]))
  refine Goes.step (fun _ k => XS.iloadN X3.here hx rfl (hb hby d15_16) rfl  k) ?_
  show Goes _ _ _ _ _ _ _ (T3.setTop (mkF m 17 #[.val (.ref x0), .val (.ref x1), .val (.ref x2), .val (.int (2 : Int32))] [(.int (2 : Int32)), (.ref x0)]))
  refine Goes.step (fun _ k => XS.iconst X3.here hx rfl (hb hby d15_17) k) ?_
  show Goes _ _ _ _ _ _ _ (T3.setTop (mkF m 18 #[.val (.ref x0), .val (.ref x1), .val (.ref x2), .val (.int (2 : Int32))] [(.int (1 : Int32)), (.int (2 : Int32)), (.ref x0)]))
  refine Goes.step (fun _ k => XS.iadd X3.here hx rfl (hb hby d15_18) rfl k) ?_
  show Goes _ _ _ _ _ _ _ (T3.setTop (mkF m 19 #[.val (.ref x0), .val (.ref x1), .val (.ref x2), .val (.int (2 : Int32))] [(.int (3 : Int32)), (.ref x0)]))
  obtain ⟨T11, h11, X11, e11, W11, st11⟩ := putF X3 hx hZ hown (host := "") (Or.inl (hw _ (List.mem_of_getElem? (i := 86) rfl))) Via.refl e3 f6 f7 (Or.inl (hw _ (List.mem_of_getElem? (i := 87) rfl))) (hw _ (List.mem_of_getElem? (i := 35) rfl)) (ty := .int) (by decide) rfl rfl (g := (mkF m 19 #[.val (.ref x0), .val (.ref x1), .val (.ref x2), .val (.int (2 : Int32))] [(.int (3 : Int32)), (.ref x0)])) rfl rfl (hb hby d15_19)
  refine Goes.step st11 ?_
  have f12 := f4.other W11 (Or.inr (slot_ne (Or.inl (hw _ (List.mem_of_getElem? (i := 54) rfl))) (Or.inl (hw _ (List.mem_of_getElem? (i := 87) rfl))) (by decide) (t := .int) (t' := .int) (by decide) (by decide)))
  have f13 := f5.other W11 (Or.inr (slot_ne (Or.inl (hw _ (List.mem_of_getElem? (i := 57) rfl))) (Or.inl (hw _ (List.mem_of_getElem? (i := 87) rfl))) (by decide) (t := (.array (.object "java/lang/Object"))) (t' := .int) (by decide) (by decide)))
  have f14 := f6.same W11
  have f15 := f7.wr W11
  have f16 := f8.wr W11
  have f17 := f9.other W11 ne_x2_x0
  have K18 : Keep h0 h11 [x0, x2] := K10.wr W11 (Or.inl (List.mem_of_getElem? (i := 0) rfl))
  have Z18 : n0 ≤ h11.size := by rw [Wr.size W11]; exact Z10
  have N18 := Fr.snoc X11 N10 g_x0
  show Goes _ _ _ _ _ _ _ (T11.setTop (mkF m 22 #[.val (.ref x0), .val (.ref x1), .val (.ref x2), .val (.int (2 : Int32))] []))
  exact Goes.retV X11 hx (BodyLoose.notSynchronized Bd) Bd.returns (hb hby d15_22) (by show Q15_2 Z x0 x1 x2 f0_modCount ka_x2 h0 n0 none T11.heap _; rw [e11]; exact ⟨N18, K18, ⟨rfl, f12, f13, f14, f15, f17⟩⟩) (by decide) (by decide)
theorem ef_14_2 (m : MethodId) (x0 : Addr) (x1 : Addr) (f0_modCount : Int32) (f0_elementData : Addr) (ka_f0_elementData : ClassId)  : entryFrame m #[(.ref x0), (.ref x1)] 2 = mkF m 0 #[.val (.ref x0), .val (.ref x1)] [] := by first | (simp [entryFrame, mkF, argsToLocals, Value.category]; done) | rfl
def Q14_2 (Z : State) (x0 : Addr) (x1 : Addr) (f0_modCount : Int32) (f0_elementData : Addr) (ka_f0_elementData : ClassId) (h0 : Heap) (n0 : Nat) (v : Option Value) (h : Heap) (L : List Loc) : Prop := Fr n0 L ∧ Keep h0 h [x0, f0_elementData] ∧ ((v = some (.int (1 : Int32)) ∧ Exa Z h x0 "java/util/ArrayList" ∧ Fld Z h x0 "java/util/AbstractList" "modCount" "I" (.int (f0_modCount + (1 : Int32))) ∧ Fld Z h x0 "java/util/ArrayList" "elementData" "[Ljava/lang/Object;" (.ref f0_elementData) ∧ Fld Z h x0 "java/util/ArrayList" "size" "I" (.int (3 : Int32)) ∧ Arx Z h f0_elementData ka_f0_elementData (.object "java/lang/Object") (10 : Int32)))
set_option maxRecDepth 65536 in
set_option maxHeartbeats 40000000 in
theorem rm14_2 (l : Launch) (Z : State) (a0 : Array Value) (hw : ∀ d ∈ tables_1, d.before a0 Z = true) (ws : List Jvm.Cond) (x0 : Addr) (x1 : Addr) (f0_modCount : Int32) (f0_elementData : Addr) (ka_f0_elementData : ClassId) (h0 : Heap) (n0 : Nat) (Z0 : n0 ≤ h0.size) (F0_modCount : Fld Z h0 x0 "java/util/AbstractList" "modCount" "I" (.int f0_modCount)) (F0_elementData : Fld Z h0 x0 "java/util/ArrayList" "elementData" "[Ljava/lang/Object;" (.ref f0_elementData)) (F0_size : Fld Z h0 x0 "java/util/ArrayList" "size" "I" (.int (2 : Int32))) (E_x0 : Exa Z h0 x0 "java/util/ArrayList") (E_x1 : Exa Z h0 x1 "java/lang/String") (V_f0_elementData : Arx Z h0 f0_elementData ka_f0_elementData (.object "java/lang/Object") (10 : Int32)) (O_f0_elementData : Ovr Z ka_f0_elementData "java/lang/Object") (g_x0 : n0 ≤ x0) (g_f0_elementData : n0 ≤ f0_elementData) (ne_f0_elementData_x0 : f0_elementData ≠ x0) :
    MetFree l (⟨"java/util/ArrayList", "add", "(Ljava/lang/Object;)Z"⟩ : MethodName) (head1 (Jvm.Cond.code (⟨"java/util/ArrayList", "add", "(Ljava/lang/Object;)Z"⟩ : MethodName) jdk_38_method_25_code 2 (some .boolean) :: ws) ({ frames := 1, cells := 0, slots := 0, locals := 15 } : Room)) (fun a U => a = #[(.ref x0), (.ref x1)] ∧ Z.Warmed39 U.vm ∧ U.heap = h0) (fun _ _ _ _ _ => True) (fun _ U o U' => ∃ v L, o = .returned v ∧ Q14_2 Z x0 x1 f0_modCount f0_elementData ka_f0_elementData h0 n0 v U'.heap L ∧ FrameEnd U o U' L ({ frames := 1, cells := 0, slots := 0, locals := 15 } : Room).cells ({ frames := 1, cells := 0, slots := 0, locals := 15 } : Room).slots) := by
  refine MetFree.of_bodySF (plainFor_of_name pn_14) hisR ?_
  intro p e s m args below meth c s₁ Bd hml0 hP hK
  obtain ⟨rfl, hZ, hh⟩ := hP
  have hx := Bd.exec
  have hby := Bd.bytes
  have hml : c.maxLocals = 2 := hml0
  have hown : s.vm.findClass "java/util/ArrayList" = some m.cls := findClass_of_methodNamed Bd.named
  have hnm := (name_of_methodNamed Bd.named Bd.method).1
  have X0 : Stand p l e ({ frames := 1, cells := 0, slots := 0, locals := 15 } : Room) s m #[(.ref x0), (.ref x1)] below meth c s₁ [] 0 0 := Stand.of_body Bd
  have e0 : s₁.heap = h0 := by rw [← hh, Bd.state]; rfl
  have N0 := Fr.nil n0
  have K0 : Keep h0 h0 [x0, f0_elementData] := Keep.refl h0 _
  refine (?_ : Goes p e below s ({ frames := 1, cells := 0, slots := 0, locals := 15 } : Room).cells ({ frames := 1, cells := 0, slots := 0, locals := 15 } : Room).slots (fun v h L => Q14_2 Z x0 x1 f0_modCount f0_elementData ka_f0_elementData h0 n0 v h L) (s₁.setTop (entryFrame m #[(.ref x0), (.ref x1)] 2)))
  rw [ef_14_2 m x0 x1 f0_modCount f0_elementData ka_f0_elementData ]
  show Goes _ _ _ _ _ _ _ (s₁.setTop (mkF m 0 #[.val (.ref x0), .val (.ref x1)] []))
  refine Goes.step (fun _ k => XS.aloadN X0.here hx rfl (hb hby d14_0) rfl rfl k) ?_
  show Goes _ _ _ _ _ _ _ (s₁.setTop (mkF m 1 #[.val (.ref x0), .val (.ref x1)] [(.ref x0)]))
  refine Goes.step (fun _ k => XS.dup X0.here hx rfl (hb hby d14_1) rfl rfl k) ?_
  show Goes _ _ _ _ _ _ _ (s₁.setTop (mkF m 2 #[.val (.ref x0), .val (.ref x1)] [(.ref x0), (.ref x0)]))
  obtain ⟨T1, X1, e1, st1⟩ := getF X0 hx hZ hown (host := "") (Or.inl (hw _ (List.mem_of_getElem? (i := 96) rfl))) (Via.of (hw _ (List.mem_of_getElem? (i := 97) rfl))) e0 F0_modCount (g := (mkF m 2 #[.val (.ref x0), .val (.ref x1)] [(.ref x0), (.ref x0)])) rfl rfl (hb hby d14_2)
  refine Goes.step st1 ?_
  show Goes _ _ _ _ _ _ _ (T1.setTop (mkF m 5 #[.val (.ref x0), .val (.ref x1)] [(.int f0_modCount), (.ref x0)]))
  refine Goes.step (fun _ k => XS.iconst X1.here hx rfl (hb hby d14_5) k) ?_
  show Goes _ _ _ _ _ _ _ (T1.setTop (mkF m 6 #[.val (.ref x0), .val (.ref x1)] [(.int (1 : Int32)), (.int f0_modCount), (.ref x0)]))
  refine Goes.step (fun _ k => XS.iadd X1.here hx rfl (hb hby d14_6) rfl k) ?_
  show Goes _ _ _ _ _ _ _ (T1.setTop (mkF m 7 #[.val (.ref x0), .val (.ref x1)] [(.int (f0_modCount + (1 : Int32))), (.ref x0)]))
  obtain ⟨T2, h2, X2, e2, W2, st2⟩ := putF X1 hx hZ hown (host := "") (Or.inl (hw _ (List.mem_of_getElem? (i := 96) rfl))) (Via.of (hw _ (List.mem_of_getElem? (i := 97) rfl))) e1 F0_modCount E_x0 (Or.inl (hw _ (List.mem_of_getElem? (i := 54) rfl))) (hw _ (List.mem_of_getElem? (i := 35) rfl)) (ty := .int) (by decide) rfl rfl (g := (mkF m 7 #[.val (.ref x0), .val (.ref x1)] [(.int (f0_modCount + (1 : Int32))), (.ref x0)])) rfl rfl (hb hby d14_7)
  refine Goes.step st2 ?_
  have f3 := F0_modCount.same W2
  have f4 := F0_elementData.other W2 (Or.inr (slot_ne (Or.inl (hw _ (List.mem_of_getElem? (i := 57) rfl))) (Or.inl (hw _ (List.mem_of_getElem? (i := 54) rfl))) (by decide) (t := (.array (.object "java/lang/Object"))) (t' := .int) (by decide) (by decide)))
  have f5 := F0_size.other W2 (Or.inr (slot_ne (Or.inl (hw _ (List.mem_of_getElem? (i := 87) rfl))) (Or.inl (hw _ (List.mem_of_getElem? (i := 54) rfl))) (by decide) (t := .int) (t' := .int) (by decide) (by decide)))
  have f6 := E_x0.wr W2
  have f7 := E_x1.wr W2
  have f8 := V_f0_elementData.other W2 ne_f0_elementData_x0
  have K9 : Keep h0 h2 [x0, f0_elementData] := K0.wr W2 (Or.inl (List.mem_of_getElem? (i := 0) rfl))
  have Z9 : n0 ≤ h2.size := by rw [Wr.size W2]; exact Z0
  have N9 := Fr.snoc X2 N0 g_x0
  show Goes _ _ _ _ _ _ _ (T2.setTop (mkF m 10 #[.val (.ref x0), .val (.ref x1)] []))
  refine Goes.step (fun _ k => XS.aloadN X2.here hx rfl (hb hby d14_10) rfl rfl k) ?_
  show Goes _ _ _ _ _ _ _ (T2.setTop (mkF m 11 #[.val (.ref x0), .val (.ref x1)] [(.ref x0)]))
  refine Goes.step (fun _ k => XS.aloadN X2.here hx rfl (hb hby d14_11) rfl rfl k) ?_
  show Goes _ _ _ _ _ _ _ (T2.setTop (mkF m 12 #[.val (.ref x0), .val (.ref x1)] [(.ref x1), (.ref x0)]))
  refine Goes.step (fun _ k => XS.aloadN X2.here hx rfl (hb hby d14_12) rfl rfl k) ?_
  show Goes _ _ _ _ _ _ _ (T2.setTop (mkF m 13 #[.val (.ref x0), .val (.ref x1)] [(.ref x0), (.ref x1), (.ref x0)]))
  obtain ⟨T10, X10, e10, st10⟩ := getF X2 hx hZ hown (host := "") (Or.inl (hw _ (List.mem_of_getElem? (i := 56) rfl))) Via.refl e2 f4 (g := (mkF m 13 #[.val (.ref x0), .val (.ref x1)] [(.ref x0), (.ref x1), (.ref x0)])) rfl rfl (hb hby d14_13)
  refine Goes.step st10 ?_
  show Goes _ _ _ _ _ _ _ (T10.setTop (mkF m 16 #[.val (.ref x0), .val (.ref x1)] [(.ref f0_elementData), (.ref x1), (.ref x0)]))
  refine Goes.step (fun _ k => XS.aloadN X10.here hx rfl (hb hby d14_16) rfl rfl k) ?_
  show Goes _ _ _ _ _ _ _ (T10.setTop (mkF m 17 #[.val (.ref x0), .val (.ref x1)] [(.ref x0), (.ref f0_elementData), (.ref x1), (.ref x0)]))
  obtain ⟨T11, X11, e11, st11⟩ := getF X10 hx hZ hown (host := "") (Or.inl (hw _ (List.mem_of_getElem? (i := 86) rfl))) Via.refl e10 f5 (g := (mkF m 17 #[.val (.ref x0), .val (.ref x1)] [(.ref x0), (.ref f0_elementData), (.ref x1), (.ref x0)])) rfl rfl (hb hby d14_17)
  refine Goes.step st11 ?_
  show Goes _ _ _ _ _ _ _ (T11.setTop (mkF m 20 #[.val (.ref x0), .val (.ref x1)] [(.int (2 : Int32)), (.ref f0_elementData), (.ref x1), (.ref x0)]))
  obtain ⟨cq12, q12, q12'⟩ := f6.cell
  obtain ⟨_, _, ⟨T12, L12, k12, n12⟩, -, X12, ⟨Lc12, hQ12, l12, y12, z12⟩, st12⟩ := X11.privateBack hx (y := (⟨"java/util/ArrayList", "add", "(Ljava/lang/Object;[Ljava/lang/Object;I)V"⟩ : MethodName)) hown (mvT hZ (hw _ (List.mem_of_getElem? (i := 98) rfl))) (mvT hZ (hw _ (List.mem_of_getElem? (i := 99) rfl))) (mvT hZ (hw _ (List.mem_of_getElem? (i := 101) rfl))) (Cond.privateMethod_at (mvP hZ (hw _ (List.mem_of_getElem? (i := 100) rfl)) (args := #[]))) (mvT hZ (hw _ (List.mem_of_getElem? (i := 102) rfl))) (by decide) (backOf (W := 0) (rm15_2 l Z a0 hw [] x0 x1 f0_elementData (f0_modCount + (1 : Int32)) ka_f0_elementData h2 n0 Z9 f3 f4 f5 f6 f7 f8 O_f0_elementData g_x0 g_f0_elementData ne_f0_elementData_x0) hZ (hw _ (List.mem_of_getElem? (i := 102) rfl)) (hw _ (List.mem_of_getElem? (i := 36) rfl)) (by decide) (by decide)) (g := (mkF m 20 #[.val (.ref x0), .val (.ref x1)] [(.int (2 : Int32)), (.ref f0_elementData), (.ref x1), (.ref x0)])) rfl (by rw [hml]; rfl) (Steps.refl _) (a := x0) (by rw [e11]; exact q12) q12' (argsL := [(.ref x1), (.ref f0_elementData), (.int (2 : Int32))]) (rest := []) (lenOf pd_10 rfl) rfl (by show 2 * 0 + _ ≤ _; exact Nat.le_of_eq rfl) (hb hby d14_20) (fun _ _ => ⟨rfl, e11, (by decide : 0 + 0 ≤ _), (by decide : 0 + 0 ≤ _)⟩)
  dsimp only [Pt.U, Pt.locs, Pt.cells, Pt.slots] at X12 l12 y12 z12 st12 hQ12
  subst l12 y12 z12
  obtain ⟨N12, KK12, hR12⟩ := hQ12
  have NA12 := Fr.app N9 N12
  have f16 := f6.keep KK12
  have f17 := f7.keep KK12
  have K19 : Keep h0 T12.heap [x0, f0_elementData] := K9.trans KK12 (allS (Or.inl (List.mem_of_getElem? (i := 0) rfl)) (allS (Or.inl (List.mem_of_getElem? (i := 1) rfl)) all0))
  have Z19 : n0 ≤ T12.heap.size := Nat.le_trans Z9 KK12.1
  obtain ⟨rfl, v12_0_0, v12_0_1, v12_0_2, v12_0_3, v12_0_4⟩ := hR12
  refine Goes.back st12 ?_
  show Goes _ _ _ _ _ _ _ (T12.setTop (mkF m 23 #[.val (.ref x0), .val (.ref x1)] []))
  refine Goes.step (fun _ k => XS.iconst X12.here hx rfl (hb hby d14_23) k) ?_
  show Goes _ _ _ _ _ _ _ (T12.setTop (mkF m 24 #[.val (.ref x0), .val (.ref x1)] [(.int (1 : Int32))]))
  exact Goes.ret X12 hx (BodyLoose.notSynchronized Bd) Bd.returns rfl (Or.inl ⟨rfl, by simp, _, rfl⟩) (hb hby d14_24) (by show Q14_2 Z x0 x1 f0_modCount f0_elementData ka_f0_elementData h0 n0 (some (.int (1 : Int32))) T12.heap _; exact ⟨NA12, K19, ⟨rfl, v12_0_3, v12_0_0, v12_0_1, v12_0_2, v12_0_4⟩⟩) (by decide) (by decide)
theorem ef_12_2 (m : MethodId) (x0 : Addr) (x1 : Addr) (f0_named : Addr) (f0_count : Int64) (f_f0_named_modCount : Int32) (f_f0_named_elementData : Addr) (ka_f_f0_named_elementData : ClassId)  : entryFrame m #[(.ref x0), (.ref x1)] 2 = mkF m 0 #[.val (.ref x0), .val (.ref x1)] [] := by first | (simp [entryFrame, mkF, argsToLocals, Value.category]; done) | rfl
def Q12_2 (Z : State) (x0 : Addr) (x1 : Addr) (f0_named : Addr) (f0_count : Int64) (f_f0_named_modCount : Int32) (f_f0_named_elementData : Addr) (ka_f_f0_named_elementData : ClassId) (h0 : Heap) (n0 : Nat) (v : Option Value) (h : Heap) (L : List Loc) : Prop := Fr n0 L ∧ Keep h0 h [x0, f0_named, f_f0_named_elementData] ∧ ((v = none ∧ Fld Z h x0 "com/example/roles_to_grants/rolestogrants/input/ProblemList" "named" "Ljava/util/List;" (.ref f0_named) ∧ Fld Z h x0 "com/example/roles_to_grants/rolestogrants/input/ProblemList" "count" "J" (.long (f0_count + (1 : Int64))) ∧ Exa Z h x0 "com/example/roles_to_grants/rolestogrants/input/ProblemList" ∧ Exa Z h f0_named "java/util/ArrayList" ∧ Fld Z h f0_named "java/util/AbstractList" "modCount" "I" (.int (f_f0_named_modCount + (1 : Int32))) ∧ Fld Z h f0_named "java/util/ArrayList" "elementData" "[Ljava/lang/Object;" (.ref f_f0_named_elementData) ∧ Fld Z h f0_named "java/util/ArrayList" "size" "I" (.int (3 : Int32)) ∧ Arx Z h f_f0_named_elementData ka_f_f0_named_elementData (.object "java/lang/Object") (10 : Int32)))
set_option maxRecDepth 65536 in
set_option maxHeartbeats 40000000 in
theorem rm12_2 (l : Launch) (Z : State) (a0 : Array Value) (hw : ∀ d ∈ tables_1, d.before a0 Z = true) (ws : List Jvm.Cond) (x0 : Addr) (x1 : Addr) (f0_named : Addr) (f0_count : Int64) (f_f0_named_modCount : Int32) (f_f0_named_elementData : Addr) (ka_f_f0_named_elementData : ClassId) (h0 : Heap) (n0 : Nat) (Z0 : n0 ≤ h0.size) (F0_named : Fld Z h0 x0 "com/example/roles_to_grants/rolestogrants/input/ProblemList" "named" "Ljava/util/List;" (.ref f0_named)) (F0_count : Fld Z h0 x0 "com/example/roles_to_grants/rolestogrants/input/ProblemList" "count" "J" (.long f0_count)) (F_f0_named_modCount : Fld Z h0 f0_named "java/util/AbstractList" "modCount" "I" (.int f_f0_named_modCount)) (F_f0_named_elementData : Fld Z h0 f0_named "java/util/ArrayList" "elementData" "[Ljava/lang/Object;" (.ref f_f0_named_elementData)) (F_f0_named_size : Fld Z h0 f0_named "java/util/ArrayList" "size" "I" (.int (2 : Int32))) (E_x0 : Exa Z h0 x0 "com/example/roles_to_grants/rolestogrants/input/ProblemList") (E_f0_named : Exa Z h0 f0_named "java/util/ArrayList") (E_x1 : Exa Z h0 x1 "java/lang/String") (V_f_f0_named_elementData : Arx Z h0 f_f0_named_elementData ka_f_f0_named_elementData (.object "java/lang/Object") (10 : Int32)) (O_f_f0_named_elementData : Ovr Z ka_f_f0_named_elementData "java/lang/Object") (g_x0 : n0 ≤ x0) (g_f0_named : n0 ≤ f0_named) (g_f_f0_named_elementData : n0 ≤ f_f0_named_elementData) (ne_f_f0_named_elementData_x0 : f_f0_named_elementData ≠ x0) (ne_f_f0_named_elementData_f0_named : f_f0_named_elementData ≠ f0_named) (ne_x0_f0_named : x0 ≠ f0_named) :
    MetFree l (⟨"com/example/roles_to_grants/rolestogrants/input/ProblemList", "add", "(Ljava/lang/String;)V"⟩ : MethodName) (head1 (Jvm.Cond.code (⟨"com/example/roles_to_grants/rolestogrants/input/ProblemList", "add", "(Ljava/lang/String;)V"⟩ : MethodName) prog_17_method_2_code 2 none :: ws) ({ frames := 2, cells := 0, slots := 0, locals := 28 } : Room)) (fun a U => a = #[(.ref x0), (.ref x1)] ∧ Z.Warmed39 U.vm ∧ U.heap = h0) (fun _ _ _ _ _ => True) (fun _ U o U' => ∃ v L, o = .returned v ∧ Q12_2 Z x0 x1 f0_named f0_count f_f0_named_modCount f_f0_named_elementData ka_f_f0_named_elementData h0 n0 v U'.heap L ∧ FrameEnd U o U' L ({ frames := 2, cells := 0, slots := 0, locals := 28 } : Room).cells ({ frames := 2, cells := 0, slots := 0, locals := 28 } : Room).slots) := by
  refine MetFree.of_bodySF (plainFor_of_name pn_12) hisR ?_
  intro p e s m args below meth c s₁ Bd hml0 hP hK
  obtain ⟨rfl, hZ, hh⟩ := hP
  have hx := Bd.exec
  have hby := Bd.bytes
  have hml : c.maxLocals = 2 := hml0
  have hown : s.vm.findClass "com/example/roles_to_grants/rolestogrants/input/ProblemList" = some m.cls := findClass_of_methodNamed Bd.named
  have hnm := (name_of_methodNamed Bd.named Bd.method).1
  have X0 : Stand p l e ({ frames := 2, cells := 0, slots := 0, locals := 28 } : Room) s m #[(.ref x0), (.ref x1)] below meth c s₁ [] 0 0 := Stand.of_body Bd
  have e0 : s₁.heap = h0 := by rw [← hh, Bd.state]; rfl
  have N0 := Fr.nil n0
  have K0 : Keep h0 h0 [x0, f0_named, f_f0_named_elementData] := Keep.refl h0 _
  refine (?_ : Goes p e below s ({ frames := 2, cells := 0, slots := 0, locals := 28 } : Room).cells ({ frames := 2, cells := 0, slots := 0, locals := 28 } : Room).slots (fun v h L => Q12_2 Z x0 x1 f0_named f0_count f_f0_named_modCount f_f0_named_elementData ka_f_f0_named_elementData h0 n0 v h L) (s₁.setTop (entryFrame m #[(.ref x0), (.ref x1)] 2)))
  rw [ef_12_2 m x0 x1 f0_named f0_count f_f0_named_modCount f_f0_named_elementData ka_f_f0_named_elementData ]
  show Goes _ _ _ _ _ _ _ (s₁.setTop (mkF m 0 #[.val (.ref x0), .val (.ref x1)] []))
  refine Goes.step (fun _ k => XS.aloadN X0.here hx rfl (hb hby d12_0) rfl rfl k) ?_
  show Goes _ _ _ _ _ _ _ (s₁.setTop (mkF m 1 #[.val (.ref x0), .val (.ref x1)] [(.ref x0)]))
  obtain ⟨T1, X1, e1, st1⟩ := getF X0 hx hZ hown (host := "") (Or.inl (hw _ (List.mem_of_getElem? (i := 58) rfl))) Via.refl e0 F0_named (g := (mkF m 1 #[.val (.ref x0), .val (.ref x1)] [(.ref x0)])) rfl rfl (hb hby d12_1)
  refine Goes.step st1 ?_
  show Goes _ _ _ _ _ _ _ (T1.setTop (mkF m 4 #[.val (.ref x0), .val (.ref x1)] [(.ref f0_named)]))
  obtain ⟨cq2, kq2, q2a, q2b, q2c⟩ := isOf hZ e1 E_f0_named
  obtain ⟨_, _, ⟨T2, L2, k2, n2⟩, -, X2, ⟨Lc2, hQ2, l2, y2, z2⟩, st2⟩ := X1.interfaceBack hx (xi := (⟨"java/util/List", "size", "()I"⟩ : MethodName)) (y := (⟨"java/util/ArrayList", "size", "()I"⟩ : MethodName)) hown (mvT hZ (hw _ (List.mem_of_getElem? (i := 77) rfl))) (mvT hZ (hw _ (List.mem_of_getElem? (i := 78) rfl))) (mvT hZ (hw _ (List.mem_of_getElem? (i := 79) rfl))) (mvT hZ (hw _ (List.mem_of_getElem? (i := 80) rfl))) (mvT hZ (hw _ (List.mem_of_getElem? (i := 81) rfl))) (mvT hZ (hw _ (List.mem_of_getElem? (i := 82) rfl))) (mvT hZ (hw _ (List.mem_of_getElem? (i := 83) rfl))) (mvT hZ (hw _ (List.mem_of_getElem? (i := 84) rfl))) (by decide) (backOf (W := 0) (rm13 l Z a0 hw [] f0_named (2 : Int32) h0 n0 Z0 F_f0_named_size) hZ (hw _ (List.mem_of_getElem? (i := 85) rfl)) (hw _ (List.mem_of_getElem? (i := 36) rfl)) (by decide) (by decide)) q2a q2b q2c (g := (mkF m 4 #[.val (.ref x0), .val (.ref x1)] [(.ref f0_named)])) rfl (by rw [hml]; rfl) (Steps.refl _) (argsL := []) (rest := []) (lenOf pd_8 rfl) rfl (by show 2 * 0 + _ ≤ _; exact Nat.le_of_eq rfl) (hb hby d12_4) (fun _ _ => ⟨rfl, e1, (by decide : 0 + 0 ≤ _), (by decide : 0 + 0 ≤ _)⟩)
  dsimp only [Pt.U, Pt.locs, Pt.cells, Pt.slots] at X2 l2 y2 z2 st2 hQ2
  subst l2 y2 z2
  obtain ⟨N2, eh2, hR2⟩ := hQ2
  have NA2 := Fr.app N0 N2
  obtain rfl := hR2
  refine Goes.back st2 ?_
  show Goes _ _ _ _ _ _ _ (T2.setTop (mkF m 9 #[.val (.ref x0), .val (.ref x1)] [(.int (2 : Int32))]))
  refine Goes.step (fun _ k => XS.bipush X2.here hx rfl (hb hby d12_9) k) ?_
  show Goes _ _ _ _ _ _ _ (T2.setTop (mkF m 11 #[.val (.ref x0), .val (.ref x1)] [(.int (100 : Int32)), (.int (2 : Int32))]))
  refine Goes.step (fun _ k => XS.icmpNo X2.here hx rfl (hb hby d12_11) rfl (tlt (by decide : (2 : Int32) < (100 : Int32))).2.1 k) ?_
  show Goes _ _ _ _ _ _ _ (T2.setTop (mkF m 14 #[.val (.ref x0), .val (.ref x1)] []))
  refine Goes.step (fun _ k => XS.aloadN X2.here hx rfl (hb hby d12_14) rfl rfl k) ?_
  show Goes _ _ _ _ _ _ _ (T2.setTop (mkF m 15 #[.val (.ref x0), .val (.ref x1)] [(.ref x0)]))
  obtain ⟨T3, X3, e3, st3⟩ := getF X2 hx hZ hown (host := "") (Or.inl (hw _ (List.mem_of_getElem? (i := 58) rfl))) Via.refl eh2 F0_named (g := (mkF m 15 #[.val (.ref x0), .val (.ref x1)] [(.ref x0)])) rfl rfl (hb hby d12_15)
  refine Goes.step st3 ?_
  show Goes _ _ _ _ _ _ _ (T3.setTop (mkF m 18 #[.val (.ref x0), .val (.ref x1)] [(.ref f0_named)]))
  refine Goes.step (fun _ k => XS.aloadN X3.here hx rfl (hb hby d12_18) rfl rfl k) ?_
  show Goes _ _ _ _ _ _ _ (T3.setTop (mkF m 19 #[.val (.ref x0), .val (.ref x1)] [(.ref x1), (.ref f0_named)]))
  obtain ⟨cq4, kq4, q4a, q4b, q4c⟩ := isOf hZ e3 E_f0_named
  obtain ⟨_, _, ⟨T4, L4, k4, n4⟩, -, X4, ⟨Lc4, hQ4, l4, y4, z4⟩, st4⟩ := X3.interfaceBack hx (xi := (⟨"java/util/List", "add", "(Ljava/lang/Object;)Z"⟩ : MethodName)) (y := (⟨"java/util/ArrayList", "add", "(Ljava/lang/Object;)Z"⟩ : MethodName)) hown (mvT hZ (hw _ (List.mem_of_getElem? (i := 88) rfl))) (mvT hZ (hw _ (List.mem_of_getElem? (i := 89) rfl))) (mvT hZ (hw _ (List.mem_of_getElem? (i := 90) rfl))) (mvT hZ (hw _ (List.mem_of_getElem? (i := 91) rfl))) (mvT hZ (hw _ (List.mem_of_getElem? (i := 92) rfl))) (mvT hZ (hw _ (List.mem_of_getElem? (i := 93) rfl))) (mvT hZ (hw _ (List.mem_of_getElem? (i := 94) rfl))) (mvT hZ (hw _ (List.mem_of_getElem? (i := 84) rfl))) (by decide) (backOf (W := 0) (rm14_2 l Z a0 hw [] f0_named x1 f_f0_named_modCount f_f0_named_elementData ka_f_f0_named_elementData h0 n0 Z0 F_f0_named_modCount F_f0_named_elementData F_f0_named_size E_f0_named E_x1 V_f_f0_named_elementData O_f_f0_named_elementData g_f0_named g_f_f0_named_elementData ne_f_f0_named_elementData_f0_named) hZ (hw _ (List.mem_of_getElem? (i := 95) rfl)) (hw _ (List.mem_of_getElem? (i := 36) rfl)) (by decide) (by decide)) q4a q4b q4c (g := (mkF m 19 #[.val (.ref x0), .val (.ref x1)] [(.ref x1), (.ref f0_named)])) rfl (by rw [hml]; rfl) (Steps.refl _) (argsL := [(.ref x1)]) (rest := []) (lenOf pd_9 rfl) rfl (by show 2 * 0 + _ ≤ _; exact Nat.le_of_eq rfl) (hb hby d12_19) (fun _ _ => ⟨rfl, e3, (by decide : 0 + 0 ≤ _), (by decide : 0 + 0 ≤ _)⟩)
  dsimp only [Pt.U, Pt.locs, Pt.cells, Pt.slots] at X4 l4 y4 z4 st4 hQ4
  subst l4 y4 z4
  obtain ⟨N4, KK4, hR4⟩ := hQ4
  have NA4 := Fr.app NA2 N4
  have f5 := F0_named.keep KK4 (ninS ne_x0_f0_named (ninS (Ne.symm ne_f_f0_named_elementData_x0) nin0))
  have f6 := F0_count.keep KK4 (ninS ne_x0_f0_named (ninS (Ne.symm ne_f_f0_named_elementData_x0) nin0))
  have f10 := E_x0.keep KK4
  have f11 := E_f0_named.keep KK4
  have f12 := E_x1.keep KK4
  have K14 : Keep h0 T4.heap [x0, f0_named, f_f0_named_elementData] := K0.trans KK4 (allS (Or.inl (List.mem_of_getElem? (i := 1) rfl)) (allS (Or.inl (List.mem_of_getElem? (i := 2) rfl)) all0))
  have Z14 : n0 ≤ T4.heap.size := Nat.le_trans Z0 KK4.1
  obtain ⟨rfl, v4_0_0, v4_0_1, v4_0_2, v4_0_3, v4_0_4⟩ := hR4
  refine Goes.back st4 ?_
  show Goes _ _ _ _ _ _ _ (T4.setTop (mkF m 24 #[.val (.ref x0), .val (.ref x1)] [(.int (1 : Int32))]))
  refine Goes.step (fun _ k => XS.pop X4.here hx rfl (hb hby d12_24) rfl rfl k) ?_
  show Goes _ _ _ _ _ _ _ (T4.setTop (mkF m 25 #[.val (.ref x0), .val (.ref x1)] []))
  refine Goes.step (fun _ k => XS.aloadN X4.here hx rfl (hb hby d12_25) rfl rfl k) ?_
  show Goes _ _ _ _ _ _ _ (T4.setTop (mkF m 26 #[.val (.ref x0), .val (.ref x1)] [(.ref x0)]))
  refine Goes.step (fun _ k => XS.dup X4.here hx rfl (hb hby d12_26) rfl rfl k) ?_
  show Goes _ _ _ _ _ _ _ (T4.setTop (mkF m 27 #[.val (.ref x0), .val (.ref x1)] [(.ref x0), (.ref x0)]))
  obtain ⟨T15, X15, e15, st15⟩ := getF X4 hx hZ hown (host := "") (Or.inl (hw _ (List.mem_of_getElem? (i := 65) rfl))) Via.refl rfl f6 (g := (mkF m 27 #[.val (.ref x0), .val (.ref x1)] [(.ref x0), (.ref x0)])) rfl rfl (hb hby d12_27)
  refine Goes.step st15 ?_
  show Goes _ _ _ _ _ _ _ (T15.setTop (mkF m 30 #[.val (.ref x0), .val (.ref x1)] [(.long f0_count), (.ref x0)]))
  refine Goes.step (fun _ k => XS.lconst X15.here hx rfl (hb hby d12_30) k) ?_
  show Goes _ _ _ _ _ _ _ (T15.setTop (mkF m 31 #[.val (.ref x0), .val (.ref x1)] [(.long (1 : Int64)), (.long f0_count), (.ref x0)]))
  refine Goes.step (fun _ k => XS.ladd X15.here hx rfl (hb hby d12_31) rfl k) ?_
  show Goes _ _ _ _ _ _ _ (T15.setTop (mkF m 32 #[.val (.ref x0), .val (.ref x1)] [(.long (f0_count + (1 : Int64))), (.ref x0)]))
  obtain ⟨T16, h16, X16, e16, W16, st16⟩ := putF X15 hx hZ hown (host := "") (Or.inl (hw _ (List.mem_of_getElem? (i := 65) rfl))) Via.refl e15 f6 f10 (Or.inl (hw _ (List.mem_of_getElem? (i := 66) rfl))) (hw _ (List.mem_of_getElem? (i := 28) rfl)) (ty := .long) (by decide) rfl rfl (g := (mkF m 32 #[.val (.ref x0), .val (.ref x1)] [(.long (f0_count + (1 : Int64))), (.ref x0)])) rfl rfl (hb hby d12_32)
  refine Goes.step st16 ?_
  have f17 := f5.other W16 (Or.inr (slot_ne (Or.inr (hw _ (List.mem_of_getElem? (i := 59) rfl))) (Or.inl (hw _ (List.mem_of_getElem? (i := 66) rfl))) (by decide) (t := (.object "java/util/List")) (t' := .long) (by decide) (by decide)))
  have f18 := f6.same W16
  have f19 := f10.wr W16
  have f20 := v4_0_0.wr W16
  have f21 := f12.wr W16
  have f22 := v4_0_1.other W16 (Or.inl (Ne.symm ne_x0_f0_named))
  have f23 := v4_0_2.other W16 (Or.inl (Ne.symm ne_x0_f0_named))
  have f24 := v4_0_3.other W16 (Or.inl (Ne.symm ne_x0_f0_named))
  have f25 := v4_0_4.other W16 ne_f_f0_named_elementData_x0
  have K26 : Keep h0 h16 [x0, f0_named, f_f0_named_elementData] := K14.wr W16 (Or.inl (List.mem_of_getElem? (i := 0) rfl))
  have Z26 : n0 ≤ h16.size := by rw [Wr.size W16]; exact Z14
  have N26 := Fr.snoc X16 NA4 g_x0
  show Goes _ _ _ _ _ _ _ (T16.setTop (mkF m 35 #[.val (.ref x0), .val (.ref x1)] []))
  exact Goes.retV X16 hx (BodyLoose.notSynchronized Bd) Bd.returns (hb hby d12_35) (by show Q12_2 Z x0 x1 f0_named f0_count f_f0_named_modCount f_f0_named_elementData ka_f_f0_named_elementData h0 n0 none T16.heap _; rw [e16]; exact ⟨N26, K26, ⟨rfl, f17, f18, f19, f20, f22, f23, f24, f25⟩⟩) (by decide) (by decide)
theorem ef_15_3 (m : MethodId) (x0 : Addr) (x1 : Addr) (x2 : Addr) (f0_modCount : Int32) (ka_x2 : ClassId)  : entryFrame m #[(.ref x0), (.ref x1), (.ref x2), (.int (3 : Int32))] 4 = mkF m 0 #[.val (.ref x0), .val (.ref x1), .val (.ref x2), .val (.int (3 : Int32))] [] := by first | (simp [entryFrame, mkF, argsToLocals, Value.category]; done) | rfl
def Q15_3 (Z : State) (x0 : Addr) (x1 : Addr) (x2 : Addr) (f0_modCount : Int32) (ka_x2 : ClassId) (h0 : Heap) (n0 : Nat) (v : Option Value) (h : Heap) (L : List Loc) : Prop := Fr n0 L ∧ Keep h0 h [x0, x2] ∧ ((v = none ∧ Fld Z h x0 "java/util/AbstractList" "modCount" "I" (.int f0_modCount) ∧ Fld Z h x0 "java/util/ArrayList" "elementData" "[Ljava/lang/Object;" (.ref x2) ∧ Fld Z h x0 "java/util/ArrayList" "size" "I" (.int (4 : Int32)) ∧ Exa Z h x0 "java/util/ArrayList" ∧ Arx Z h x2 ka_x2 (.object "java/lang/Object") (10 : Int32)))
set_option maxRecDepth 65536 in
set_option maxHeartbeats 40000000 in
theorem rm15_3 (l : Launch) (Z : State) (a0 : Array Value) (hw : ∀ d ∈ tables_1, d.before a0 Z = true) (ws : List Jvm.Cond) (x0 : Addr) (x1 : Addr) (x2 : Addr) (f0_modCount : Int32) (ka_x2 : ClassId) (h0 : Heap) (n0 : Nat) (Z0 : n0 ≤ h0.size) (F0_modCount : Fld Z h0 x0 "java/util/AbstractList" "modCount" "I" (.int f0_modCount)) (F0_elementData : Fld Z h0 x0 "java/util/ArrayList" "elementData" "[Ljava/lang/Object;" (.ref x2)) (F0_size : Fld Z h0 x0 "java/util/ArrayList" "size" "I" (.int (3 : Int32))) (E_x0 : Exa Z h0 x0 "java/util/ArrayList") (E_x1 : Exa Z h0 x1 "java/lang/String") (V_x2 : Arx Z h0 x2 ka_x2 (.object "java/lang/Object") (10 : Int32)) (O_x2 : Ovr Z ka_x2 "java/lang/Object") (g_x0 : n0 ≤ x0) (g_x2 : n0 ≤ x2) (ne_x2_x0 : x2 ≠ x0) :
    MetFree l (⟨"java/util/ArrayList", "add", "(Ljava/lang/Object;[Ljava/lang/Object;I)V"⟩ : MethodName) (head1 (Jvm.Cond.code (⟨"java/util/ArrayList", "add", "(Ljava/lang/Object;[Ljava/lang/Object;I)V"⟩ : MethodName) jdk_38_method_24_code 4 none :: ws) ({ frames := 0, cells := 0, slots := 0, locals := 0 } : Room)) (fun a U => a = #[(.ref x0), (.ref x1), (.ref x2), (.int (3 : Int32))] ∧ Z.Warmed39 U.vm ∧ U.heap = h0) (fun _ _ _ _ _ => True) (fun _ U o U' => ∃ v L, o = .returned v ∧ Q15_3 Z x0 x1 x2 f0_modCount ka_x2 h0 n0 v U'.heap L ∧ FrameEnd U o U' L ({ frames := 0, cells := 0, slots := 0, locals := 0 } : Room).cells ({ frames := 0, cells := 0, slots := 0, locals := 0 } : Room).slots) := by
  refine MetFree.of_bodySF (plainFor_of_name pn_15) hisR ?_
  intro p e s m args below meth c s₁ Bd hml0 hP hK
  obtain ⟨rfl, hZ, hh⟩ := hP
  have hx := Bd.exec
  have hby := Bd.bytes
  have hml : c.maxLocals = 4 := hml0
  have hown : s.vm.findClass "java/util/ArrayList" = some m.cls := findClass_of_methodNamed Bd.named
  have hnm := (name_of_methodNamed Bd.named Bd.method).1
  have X0 : Stand p l e ({ frames := 0, cells := 0, slots := 0, locals := 0 } : Room) s m #[(.ref x0), (.ref x1), (.ref x2), (.int (3 : Int32))] below meth c s₁ [] 0 0 := Stand.of_body Bd
  have e0 : s₁.heap = h0 := by rw [← hh, Bd.state]; rfl
  have N0 := Fr.nil n0
  have K0 : Keep h0 h0 [x0, x2] := Keep.refl h0 _
  refine (?_ : Goes p e below s ({ frames := 0, cells := 0, slots := 0, locals := 0 } : Room).cells ({ frames := 0, cells := 0, slots := 0, locals := 0 } : Room).slots (fun v h L => Q15_3 Z x0 x1 x2 f0_modCount ka_x2 h0 n0 v h L) (s₁.setTop (entryFrame m #[(.ref x0), (.ref x1), (.ref x2), (.int (3 : Int32))] 4)))
  rw [ef_15_3 m x0 x1 x2 f0_modCount ka_x2 ]
  show Goes _ _ _ _ _ _ _ (s₁.setTop (mkF m 0 #[.val (.ref x0), .val (.ref x1), .val (.ref x2), .val (.int (3 : Int32))] []))
  refine Goes.step (fun _ k => XS.iloadN X0.here hx rfl (hb hby d15_0) rfl  k) ?_
  show Goes _ _ _ _ _ _ _ (s₁.setTop (mkF m 1 #[.val (.ref x0), .val (.ref x1), .val (.ref x2), .val (.int (3 : Int32))] [(.int (3 : Int32))]))
  refine Goes.step (fun _ k => XS.aloadN X0.here hx rfl (hb hby d15_1) rfl rfl k) ?_
  show Goes _ _ _ _ _ _ _ (s₁.setTop (mkF m 2 #[.val (.ref x0), .val (.ref x1), .val (.ref x2), .val (.int (3 : Int32))] [(.ref x2), (.int (3 : Int32))]))
  obtain ⟨cl1, Ar1, q1, S1, P1, G1⟩ := id V_x2
  refine Goes.step (fun _ k => X0.arraylength hx (by rw [e0]; exact Ar1.1) (State.isArrayOf_alike hZ.alike Ar1.2.1) (g := (mkF m 2 #[.val (.ref x0), .val (.ref x1), .val (.ref x2), .val (.int (3 : Int32))] [(.ref x2), (.int (3 : Int32))])) rfl rfl (hb hby d15_2) _ k) ?_
  rw [len_of S1 P1]
  show Goes _ _ _ _ _ _ _ (s₁.setTop (mkF m 3 #[.val (.ref x0), .val (.ref x1), .val (.ref x2), .val (.int (3 : Int32))] [(.int (10 : Int32)), (.int (3 : Int32))]))
  refine Goes.step (fun _ k => XS.icmpYes X0.here hx rfl (pc0 := 3) (pc' := 11) rfl (hb hby d15_3) rfl (feq (by decide : ¬ ((3 : Int32) = (10 : Int32)))).2 (by decide) (by decide) k) ?_
  show Goes _ _ _ _ _ _ _ (s₁.setTop (mkF m 11 #[.val (.ref x0), .val (.ref x1), .val (.ref x2), .val (.int (3 : Int32))] []))
  refine Goes.step (fun _ k => XS.aloadN X0.here hx rfl (hb hby d15_11) rfl rfl k) ?_
  show Goes _ _ _ _ _ _ _ (s₁.setTop (mkF m 12 #[.val (.ref x0), .val (.ref x1), .val (.ref x2), .val (.int (3 : Int32))] [(.ref x2)]))
  refine Goes.step (fun _ k => XS.iloadN X0.here hx rfl (hb hby d15_12) rfl  k) ?_
  show Goes _ _ _ _ _ _ _ (s₁.setTop (mkF m 13 #[.val (.ref x0), .val (.ref x1), .val (.ref x2), .val (.int (3 : Int32))] [(.int (3 : Int32)), (.ref x2)]))
  refine Goes.step (fun _ k => XS.aloadN X0.here hx rfl (hb hby d15_13) rfl rfl k) ?_
  show Goes _ _ _ _ _ _ _ (s₁.setTop (mkF m 14 #[.val (.ref x0), .val (.ref x1), .val (.ref x2), .val (.int (3 : Int32))] [(.ref x1), (.int (3 : Int32)), (.ref x2)]))
  obtain ⟨cl2, Ar2, q2, S2, P2, G2⟩ := id V_x2
  have hin2 : ¬ ((3 : Int32) < 0 ∨ cl2.slots.size ≤ ((3 : Int32)).toNatClampNeg) := inb_of S2 ⟨by decide, by decide⟩
  obtain ⟨T3, h3, X3, e3, W3, st3⟩ := stR X0 hx hZ e0 Ar2 (j := (3 : Int32)) hin2 rfl (Sto.ofV Ar2 q2 O_x2 (Ins.of_exa E_x1 (hw _ (List.mem_of_getElem? (i := 119) rfl)))) (g := (mkF m 14 #[.val (.ref x0), .val (.ref x1), .val (.ref x2), .val (.int (3 : Int32))] [(.ref x1), (.int (3 : Int32)), (.ref x2)])) rfl rfl (hb hby d15_14)
  refine Goes.step st3 ?_
  have V3 := Arx.set Ar2 q2 S2 P2 G2 rfl W3
  have f4 := F0_modCount.other W3 (Or.inl (Ne.symm ne_x2_x0))
  have f5 := F0_elementData.other W3 (Or.inl (Ne.symm ne_x2_x0))
  have f6 := F0_size.other W3 (Or.inl (Ne.symm ne_x2_x0))
  have f7 := E_x0.wr W3
  have f8 := E_x1.wr W3
  have f9 := V3
  have K10 : Keep h0 h3 [x0, x2] := K0.wr W3 (Or.inl (List.mem_of_getElem? (i := 1) rfl))
  have Z10 : n0 ≤ h3.size := by rw [Wr.size W3]; exact Z0
  have N10 := Fr.snoc X3 N0 g_x2
  show Goes _ _ _ _ _ _ _ (T3.setTop (mkF m 15 #[.val (.ref x0), .val (.ref x1), .val (.ref x2), .val (.int (3 : Int32))] []))
  refine Goes.step (fun _ k => XS.aloadN X3.here hx rfl (hb hby d15_15) rfl rfl k) ?_
  show Goes _ _ _ _ _ _ _ (T3.setTop (mkF m 16 #[.val (.ref x0), .val (.ref x1), .val (.ref x2), .val (.int (3 : Int32))] [(.ref x0)]))
  refine Goes.step (fun _ k => XS.iloadN X3.here hx rfl (hb hby d15_16) rfl  k) ?_
  show Goes _ _ _ _ _ _ _ (T3.setTop (mkF m 17 #[.val (.ref x0), .val (.ref x1), .val (.ref x2), .val (.int (3 : Int32))] [(.int (3 : Int32)), (.ref x0)]))
  refine Goes.step (fun _ k => XS.iconst X3.here hx rfl (hb hby d15_17) k) ?_
  show Goes _ _ _ _ _ _ _ (T3.setTop (mkF m 18 #[.val (.ref x0), .val (.ref x1), .val (.ref x2), .val (.int (3 : Int32))] [(.int (1 : Int32)), (.int (3 : Int32)), (.ref x0)]))
  refine Goes.step (fun _ k => XS.iadd X3.here hx rfl (hb hby d15_18) rfl k) ?_
  show Goes _ _ _ _ _ _ _ (T3.setTop (mkF m 19 #[.val (.ref x0), .val (.ref x1), .val (.ref x2), .val (.int (3 : Int32))] [(.int (4 : Int32)), (.ref x0)]))
  obtain ⟨T11, h11, X11, e11, W11, st11⟩ := putF X3 hx hZ hown (host := "") (Or.inl (hw _ (List.mem_of_getElem? (i := 86) rfl))) Via.refl e3 f6 f7 (Or.inl (hw _ (List.mem_of_getElem? (i := 87) rfl))) (hw _ (List.mem_of_getElem? (i := 35) rfl)) (ty := .int) (by decide) rfl rfl (g := (mkF m 19 #[.val (.ref x0), .val (.ref x1), .val (.ref x2), .val (.int (3 : Int32))] [(.int (4 : Int32)), (.ref x0)])) rfl rfl (hb hby d15_19)
  refine Goes.step st11 ?_
  have f12 := f4.other W11 (Or.inr (slot_ne (Or.inl (hw _ (List.mem_of_getElem? (i := 54) rfl))) (Or.inl (hw _ (List.mem_of_getElem? (i := 87) rfl))) (by decide) (t := .int) (t' := .int) (by decide) (by decide)))
  have f13 := f5.other W11 (Or.inr (slot_ne (Or.inl (hw _ (List.mem_of_getElem? (i := 57) rfl))) (Or.inl (hw _ (List.mem_of_getElem? (i := 87) rfl))) (by decide) (t := (.array (.object "java/lang/Object"))) (t' := .int) (by decide) (by decide)))
  have f14 := f6.same W11
  have f15 := f7.wr W11
  have f16 := f8.wr W11
  have f17 := f9.other W11 ne_x2_x0
  have K18 : Keep h0 h11 [x0, x2] := K10.wr W11 (Or.inl (List.mem_of_getElem? (i := 0) rfl))
  have Z18 : n0 ≤ h11.size := by rw [Wr.size W11]; exact Z10
  have N18 := Fr.snoc X11 N10 g_x0
  show Goes _ _ _ _ _ _ _ (T11.setTop (mkF m 22 #[.val (.ref x0), .val (.ref x1), .val (.ref x2), .val (.int (3 : Int32))] []))
  exact Goes.retV X11 hx (BodyLoose.notSynchronized Bd) Bd.returns (hb hby d15_22) (by show Q15_3 Z x0 x1 x2 f0_modCount ka_x2 h0 n0 none T11.heap _; rw [e11]; exact ⟨N18, K18, ⟨rfl, f12, f13, f14, f15, f17⟩⟩) (by decide) (by decide)
theorem ef_14_3 (m : MethodId) (x0 : Addr) (x1 : Addr) (f0_modCount : Int32) (f0_elementData : Addr) (ka_f0_elementData : ClassId)  : entryFrame m #[(.ref x0), (.ref x1)] 2 = mkF m 0 #[.val (.ref x0), .val (.ref x1)] [] := by first | (simp [entryFrame, mkF, argsToLocals, Value.category]; done) | rfl
def Q14_3 (Z : State) (x0 : Addr) (x1 : Addr) (f0_modCount : Int32) (f0_elementData : Addr) (ka_f0_elementData : ClassId) (h0 : Heap) (n0 : Nat) (v : Option Value) (h : Heap) (L : List Loc) : Prop := Fr n0 L ∧ Keep h0 h [x0, f0_elementData] ∧ ((v = some (.int (1 : Int32)) ∧ Exa Z h x0 "java/util/ArrayList" ∧ Fld Z h x0 "java/util/AbstractList" "modCount" "I" (.int (f0_modCount + (1 : Int32))) ∧ Fld Z h x0 "java/util/ArrayList" "elementData" "[Ljava/lang/Object;" (.ref f0_elementData) ∧ Fld Z h x0 "java/util/ArrayList" "size" "I" (.int (4 : Int32)) ∧ Arx Z h f0_elementData ka_f0_elementData (.object "java/lang/Object") (10 : Int32)))
set_option maxRecDepth 65536 in
set_option maxHeartbeats 40000000 in
theorem rm14_3 (l : Launch) (Z : State) (a0 : Array Value) (hw : ∀ d ∈ tables_1, d.before a0 Z = true) (ws : List Jvm.Cond) (x0 : Addr) (x1 : Addr) (f0_modCount : Int32) (f0_elementData : Addr) (ka_f0_elementData : ClassId) (h0 : Heap) (n0 : Nat) (Z0 : n0 ≤ h0.size) (F0_modCount : Fld Z h0 x0 "java/util/AbstractList" "modCount" "I" (.int f0_modCount)) (F0_elementData : Fld Z h0 x0 "java/util/ArrayList" "elementData" "[Ljava/lang/Object;" (.ref f0_elementData)) (F0_size : Fld Z h0 x0 "java/util/ArrayList" "size" "I" (.int (3 : Int32))) (E_x0 : Exa Z h0 x0 "java/util/ArrayList") (E_x1 : Exa Z h0 x1 "java/lang/String") (V_f0_elementData : Arx Z h0 f0_elementData ka_f0_elementData (.object "java/lang/Object") (10 : Int32)) (O_f0_elementData : Ovr Z ka_f0_elementData "java/lang/Object") (g_x0 : n0 ≤ x0) (g_f0_elementData : n0 ≤ f0_elementData) (ne_f0_elementData_x0 : f0_elementData ≠ x0) :
    MetFree l (⟨"java/util/ArrayList", "add", "(Ljava/lang/Object;)Z"⟩ : MethodName) (head1 (Jvm.Cond.code (⟨"java/util/ArrayList", "add", "(Ljava/lang/Object;)Z"⟩ : MethodName) jdk_38_method_25_code 2 (some .boolean) :: ws) ({ frames := 1, cells := 0, slots := 0, locals := 15 } : Room)) (fun a U => a = #[(.ref x0), (.ref x1)] ∧ Z.Warmed39 U.vm ∧ U.heap = h0) (fun _ _ _ _ _ => True) (fun _ U o U' => ∃ v L, o = .returned v ∧ Q14_3 Z x0 x1 f0_modCount f0_elementData ka_f0_elementData h0 n0 v U'.heap L ∧ FrameEnd U o U' L ({ frames := 1, cells := 0, slots := 0, locals := 15 } : Room).cells ({ frames := 1, cells := 0, slots := 0, locals := 15 } : Room).slots) := by
  refine MetFree.of_bodySF (plainFor_of_name pn_14) hisR ?_
  intro p e s m args below meth c s₁ Bd hml0 hP hK
  obtain ⟨rfl, hZ, hh⟩ := hP
  have hx := Bd.exec
  have hby := Bd.bytes
  have hml : c.maxLocals = 2 := hml0
  have hown : s.vm.findClass "java/util/ArrayList" = some m.cls := findClass_of_methodNamed Bd.named
  have hnm := (name_of_methodNamed Bd.named Bd.method).1
  have X0 : Stand p l e ({ frames := 1, cells := 0, slots := 0, locals := 15 } : Room) s m #[(.ref x0), (.ref x1)] below meth c s₁ [] 0 0 := Stand.of_body Bd
  have e0 : s₁.heap = h0 := by rw [← hh, Bd.state]; rfl
  have N0 := Fr.nil n0
  have K0 : Keep h0 h0 [x0, f0_elementData] := Keep.refl h0 _
  refine (?_ : Goes p e below s ({ frames := 1, cells := 0, slots := 0, locals := 15 } : Room).cells ({ frames := 1, cells := 0, slots := 0, locals := 15 } : Room).slots (fun v h L => Q14_3 Z x0 x1 f0_modCount f0_elementData ka_f0_elementData h0 n0 v h L) (s₁.setTop (entryFrame m #[(.ref x0), (.ref x1)] 2)))
  rw [ef_14_3 m x0 x1 f0_modCount f0_elementData ka_f0_elementData ]
  show Goes _ _ _ _ _ _ _ (s₁.setTop (mkF m 0 #[.val (.ref x0), .val (.ref x1)] []))
  refine Goes.step (fun _ k => XS.aloadN X0.here hx rfl (hb hby d14_0) rfl rfl k) ?_
  show Goes _ _ _ _ _ _ _ (s₁.setTop (mkF m 1 #[.val (.ref x0), .val (.ref x1)] [(.ref x0)]))
  refine Goes.step (fun _ k => XS.dup X0.here hx rfl (hb hby d14_1) rfl rfl k) ?_
  show Goes _ _ _ _ _ _ _ (s₁.setTop (mkF m 2 #[.val (.ref x0), .val (.ref x1)] [(.ref x0), (.ref x0)]))
  obtain ⟨T1, X1, e1, st1⟩ := getF X0 hx hZ hown (host := "") (Or.inl (hw _ (List.mem_of_getElem? (i := 96) rfl))) (Via.of (hw _ (List.mem_of_getElem? (i := 97) rfl))) e0 F0_modCount (g := (mkF m 2 #[.val (.ref x0), .val (.ref x1)] [(.ref x0), (.ref x0)])) rfl rfl (hb hby d14_2)
  refine Goes.step st1 ?_
  show Goes _ _ _ _ _ _ _ (T1.setTop (mkF m 5 #[.val (.ref x0), .val (.ref x1)] [(.int f0_modCount), (.ref x0)]))
  refine Goes.step (fun _ k => XS.iconst X1.here hx rfl (hb hby d14_5) k) ?_
  show Goes _ _ _ _ _ _ _ (T1.setTop (mkF m 6 #[.val (.ref x0), .val (.ref x1)] [(.int (1 : Int32)), (.int f0_modCount), (.ref x0)]))
  refine Goes.step (fun _ k => XS.iadd X1.here hx rfl (hb hby d14_6) rfl k) ?_
  show Goes _ _ _ _ _ _ _ (T1.setTop (mkF m 7 #[.val (.ref x0), .val (.ref x1)] [(.int (f0_modCount + (1 : Int32))), (.ref x0)]))
  obtain ⟨T2, h2, X2, e2, W2, st2⟩ := putF X1 hx hZ hown (host := "") (Or.inl (hw _ (List.mem_of_getElem? (i := 96) rfl))) (Via.of (hw _ (List.mem_of_getElem? (i := 97) rfl))) e1 F0_modCount E_x0 (Or.inl (hw _ (List.mem_of_getElem? (i := 54) rfl))) (hw _ (List.mem_of_getElem? (i := 35) rfl)) (ty := .int) (by decide) rfl rfl (g := (mkF m 7 #[.val (.ref x0), .val (.ref x1)] [(.int (f0_modCount + (1 : Int32))), (.ref x0)])) rfl rfl (hb hby d14_7)
  refine Goes.step st2 ?_
  have f3 := F0_modCount.same W2
  have f4 := F0_elementData.other W2 (Or.inr (slot_ne (Or.inl (hw _ (List.mem_of_getElem? (i := 57) rfl))) (Or.inl (hw _ (List.mem_of_getElem? (i := 54) rfl))) (by decide) (t := (.array (.object "java/lang/Object"))) (t' := .int) (by decide) (by decide)))
  have f5 := F0_size.other W2 (Or.inr (slot_ne (Or.inl (hw _ (List.mem_of_getElem? (i := 87) rfl))) (Or.inl (hw _ (List.mem_of_getElem? (i := 54) rfl))) (by decide) (t := .int) (t' := .int) (by decide) (by decide)))
  have f6 := E_x0.wr W2
  have f7 := E_x1.wr W2
  have f8 := V_f0_elementData.other W2 ne_f0_elementData_x0
  have K9 : Keep h0 h2 [x0, f0_elementData] := K0.wr W2 (Or.inl (List.mem_of_getElem? (i := 0) rfl))
  have Z9 : n0 ≤ h2.size := by rw [Wr.size W2]; exact Z0
  have N9 := Fr.snoc X2 N0 g_x0
  show Goes _ _ _ _ _ _ _ (T2.setTop (mkF m 10 #[.val (.ref x0), .val (.ref x1)] []))
  refine Goes.step (fun _ k => XS.aloadN X2.here hx rfl (hb hby d14_10) rfl rfl k) ?_
  show Goes _ _ _ _ _ _ _ (T2.setTop (mkF m 11 #[.val (.ref x0), .val (.ref x1)] [(.ref x0)]))
  refine Goes.step (fun _ k => XS.aloadN X2.here hx rfl (hb hby d14_11) rfl rfl k) ?_
  show Goes _ _ _ _ _ _ _ (T2.setTop (mkF m 12 #[.val (.ref x0), .val (.ref x1)] [(.ref x1), (.ref x0)]))
  refine Goes.step (fun _ k => XS.aloadN X2.here hx rfl (hb hby d14_12) rfl rfl k) ?_
  show Goes _ _ _ _ _ _ _ (T2.setTop (mkF m 13 #[.val (.ref x0), .val (.ref x1)] [(.ref x0), (.ref x1), (.ref x0)]))
  obtain ⟨T10, X10, e10, st10⟩ := getF X2 hx hZ hown (host := "") (Or.inl (hw _ (List.mem_of_getElem? (i := 56) rfl))) Via.refl e2 f4 (g := (mkF m 13 #[.val (.ref x0), .val (.ref x1)] [(.ref x0), (.ref x1), (.ref x0)])) rfl rfl (hb hby d14_13)
  refine Goes.step st10 ?_
  show Goes _ _ _ _ _ _ _ (T10.setTop (mkF m 16 #[.val (.ref x0), .val (.ref x1)] [(.ref f0_elementData), (.ref x1), (.ref x0)]))
  refine Goes.step (fun _ k => XS.aloadN X10.here hx rfl (hb hby d14_16) rfl rfl k) ?_
  show Goes _ _ _ _ _ _ _ (T10.setTop (mkF m 17 #[.val (.ref x0), .val (.ref x1)] [(.ref x0), (.ref f0_elementData), (.ref x1), (.ref x0)]))
  obtain ⟨T11, X11, e11, st11⟩ := getF X10 hx hZ hown (host := "") (Or.inl (hw _ (List.mem_of_getElem? (i := 86) rfl))) Via.refl e10 f5 (g := (mkF m 17 #[.val (.ref x0), .val (.ref x1)] [(.ref x0), (.ref f0_elementData), (.ref x1), (.ref x0)])) rfl rfl (hb hby d14_17)
  refine Goes.step st11 ?_
  show Goes _ _ _ _ _ _ _ (T11.setTop (mkF m 20 #[.val (.ref x0), .val (.ref x1)] [(.int (3 : Int32)), (.ref f0_elementData), (.ref x1), (.ref x0)]))
  obtain ⟨cq12, q12, q12'⟩ := f6.cell
  obtain ⟨_, _, ⟨T12, L12, k12, n12⟩, -, X12, ⟨Lc12, hQ12, l12, y12, z12⟩, st12⟩ := X11.privateBack hx (y := (⟨"java/util/ArrayList", "add", "(Ljava/lang/Object;[Ljava/lang/Object;I)V"⟩ : MethodName)) hown (mvT hZ (hw _ (List.mem_of_getElem? (i := 98) rfl))) (mvT hZ (hw _ (List.mem_of_getElem? (i := 99) rfl))) (mvT hZ (hw _ (List.mem_of_getElem? (i := 101) rfl))) (Cond.privateMethod_at (mvP hZ (hw _ (List.mem_of_getElem? (i := 100) rfl)) (args := #[]))) (mvT hZ (hw _ (List.mem_of_getElem? (i := 102) rfl))) (by decide) (backOf (W := 0) (rm15_3 l Z a0 hw [] x0 x1 f0_elementData (f0_modCount + (1 : Int32)) ka_f0_elementData h2 n0 Z9 f3 f4 f5 f6 f7 f8 O_f0_elementData g_x0 g_f0_elementData ne_f0_elementData_x0) hZ (hw _ (List.mem_of_getElem? (i := 102) rfl)) (hw _ (List.mem_of_getElem? (i := 36) rfl)) (by decide) (by decide)) (g := (mkF m 20 #[.val (.ref x0), .val (.ref x1)] [(.int (3 : Int32)), (.ref f0_elementData), (.ref x1), (.ref x0)])) rfl (by rw [hml]; rfl) (Steps.refl _) (a := x0) (by rw [e11]; exact q12) q12' (argsL := [(.ref x1), (.ref f0_elementData), (.int (3 : Int32))]) (rest := []) (lenOf pd_10 rfl) rfl (by show 2 * 0 + _ ≤ _; exact Nat.le_of_eq rfl) (hb hby d14_20) (fun _ _ => ⟨rfl, e11, (by decide : 0 + 0 ≤ _), (by decide : 0 + 0 ≤ _)⟩)
  dsimp only [Pt.U, Pt.locs, Pt.cells, Pt.slots] at X12 l12 y12 z12 st12 hQ12
  subst l12 y12 z12
  obtain ⟨N12, KK12, hR12⟩ := hQ12
  have NA12 := Fr.app N9 N12
  have f16 := f6.keep KK12
  have f17 := f7.keep KK12
  have K19 : Keep h0 T12.heap [x0, f0_elementData] := K9.trans KK12 (allS (Or.inl (List.mem_of_getElem? (i := 0) rfl)) (allS (Or.inl (List.mem_of_getElem? (i := 1) rfl)) all0))
  have Z19 : n0 ≤ T12.heap.size := Nat.le_trans Z9 KK12.1
  obtain ⟨rfl, v12_0_0, v12_0_1, v12_0_2, v12_0_3, v12_0_4⟩ := hR12
  refine Goes.back st12 ?_
  show Goes _ _ _ _ _ _ _ (T12.setTop (mkF m 23 #[.val (.ref x0), .val (.ref x1)] []))
  refine Goes.step (fun _ k => XS.iconst X12.here hx rfl (hb hby d14_23) k) ?_
  show Goes _ _ _ _ _ _ _ (T12.setTop (mkF m 24 #[.val (.ref x0), .val (.ref x1)] [(.int (1 : Int32))]))
  exact Goes.ret X12 hx (BodyLoose.notSynchronized Bd) Bd.returns rfl (Or.inl ⟨rfl, by simp, _, rfl⟩) (hb hby d14_24) (by show Q14_3 Z x0 x1 f0_modCount f0_elementData ka_f0_elementData h0 n0 (some (.int (1 : Int32))) T12.heap _; exact ⟨NA12, K19, ⟨rfl, v12_0_3, v12_0_0, v12_0_1, v12_0_2, v12_0_4⟩⟩) (by decide) (by decide)
theorem ef_12_3 (m : MethodId) (x0 : Addr) (x1 : Addr) (f0_named : Addr) (f0_count : Int64) (f_f0_named_modCount : Int32) (f_f0_named_elementData : Addr) (ka_f_f0_named_elementData : ClassId)  : entryFrame m #[(.ref x0), (.ref x1)] 2 = mkF m 0 #[.val (.ref x0), .val (.ref x1)] [] := by first | (simp [entryFrame, mkF, argsToLocals, Value.category]; done) | rfl
def Q12_3 (Z : State) (x0 : Addr) (x1 : Addr) (f0_named : Addr) (f0_count : Int64) (f_f0_named_modCount : Int32) (f_f0_named_elementData : Addr) (ka_f_f0_named_elementData : ClassId) (h0 : Heap) (n0 : Nat) (v : Option Value) (h : Heap) (L : List Loc) : Prop := Fr n0 L ∧ Keep h0 h [x0, f0_named, f_f0_named_elementData] ∧ ((v = none ∧ Fld Z h x0 "com/example/roles_to_grants/rolestogrants/input/ProblemList" "named" "Ljava/util/List;" (.ref f0_named) ∧ Fld Z h x0 "com/example/roles_to_grants/rolestogrants/input/ProblemList" "count" "J" (.long (f0_count + (1 : Int64))) ∧ Exa Z h x0 "com/example/roles_to_grants/rolestogrants/input/ProblemList" ∧ Exa Z h f0_named "java/util/ArrayList" ∧ Fld Z h f0_named "java/util/AbstractList" "modCount" "I" (.int (f_f0_named_modCount + (1 : Int32))) ∧ Fld Z h f0_named "java/util/ArrayList" "elementData" "[Ljava/lang/Object;" (.ref f_f0_named_elementData) ∧ Fld Z h f0_named "java/util/ArrayList" "size" "I" (.int (4 : Int32)) ∧ Arx Z h f_f0_named_elementData ka_f_f0_named_elementData (.object "java/lang/Object") (10 : Int32)))
set_option maxRecDepth 65536 in
set_option maxHeartbeats 40000000 in
theorem rm12_3 (l : Launch) (Z : State) (a0 : Array Value) (hw : ∀ d ∈ tables_1, d.before a0 Z = true) (ws : List Jvm.Cond) (x0 : Addr) (x1 : Addr) (f0_named : Addr) (f0_count : Int64) (f_f0_named_modCount : Int32) (f_f0_named_elementData : Addr) (ka_f_f0_named_elementData : ClassId) (h0 : Heap) (n0 : Nat) (Z0 : n0 ≤ h0.size) (F0_named : Fld Z h0 x0 "com/example/roles_to_grants/rolestogrants/input/ProblemList" "named" "Ljava/util/List;" (.ref f0_named)) (F0_count : Fld Z h0 x0 "com/example/roles_to_grants/rolestogrants/input/ProblemList" "count" "J" (.long f0_count)) (F_f0_named_modCount : Fld Z h0 f0_named "java/util/AbstractList" "modCount" "I" (.int f_f0_named_modCount)) (F_f0_named_elementData : Fld Z h0 f0_named "java/util/ArrayList" "elementData" "[Ljava/lang/Object;" (.ref f_f0_named_elementData)) (F_f0_named_size : Fld Z h0 f0_named "java/util/ArrayList" "size" "I" (.int (3 : Int32))) (E_x0 : Exa Z h0 x0 "com/example/roles_to_grants/rolestogrants/input/ProblemList") (E_f0_named : Exa Z h0 f0_named "java/util/ArrayList") (E_x1 : Exa Z h0 x1 "java/lang/String") (V_f_f0_named_elementData : Arx Z h0 f_f0_named_elementData ka_f_f0_named_elementData (.object "java/lang/Object") (10 : Int32)) (O_f_f0_named_elementData : Ovr Z ka_f_f0_named_elementData "java/lang/Object") (g_x0 : n0 ≤ x0) (g_f0_named : n0 ≤ f0_named) (g_f_f0_named_elementData : n0 ≤ f_f0_named_elementData) (ne_f_f0_named_elementData_x0 : f_f0_named_elementData ≠ x0) (ne_f_f0_named_elementData_f0_named : f_f0_named_elementData ≠ f0_named) (ne_x0_f0_named : x0 ≠ f0_named) :
    MetFree l (⟨"com/example/roles_to_grants/rolestogrants/input/ProblemList", "add", "(Ljava/lang/String;)V"⟩ : MethodName) (head1 (Jvm.Cond.code (⟨"com/example/roles_to_grants/rolestogrants/input/ProblemList", "add", "(Ljava/lang/String;)V"⟩ : MethodName) prog_17_method_2_code 2 none :: ws) ({ frames := 2, cells := 0, slots := 0, locals := 28 } : Room)) (fun a U => a = #[(.ref x0), (.ref x1)] ∧ Z.Warmed39 U.vm ∧ U.heap = h0) (fun _ _ _ _ _ => True) (fun _ U o U' => ∃ v L, o = .returned v ∧ Q12_3 Z x0 x1 f0_named f0_count f_f0_named_modCount f_f0_named_elementData ka_f_f0_named_elementData h0 n0 v U'.heap L ∧ FrameEnd U o U' L ({ frames := 2, cells := 0, slots := 0, locals := 28 } : Room).cells ({ frames := 2, cells := 0, slots := 0, locals := 28 } : Room).slots) := by
  refine MetFree.of_bodySF (plainFor_of_name pn_12) hisR ?_
  intro p e s m args below meth c s₁ Bd hml0 hP hK
  obtain ⟨rfl, hZ, hh⟩ := hP
  have hx := Bd.exec
  have hby := Bd.bytes
  have hml : c.maxLocals = 2 := hml0
  have hown : s.vm.findClass "com/example/roles_to_grants/rolestogrants/input/ProblemList" = some m.cls := findClass_of_methodNamed Bd.named
  have hnm := (name_of_methodNamed Bd.named Bd.method).1
  have X0 : Stand p l e ({ frames := 2, cells := 0, slots := 0, locals := 28 } : Room) s m #[(.ref x0), (.ref x1)] below meth c s₁ [] 0 0 := Stand.of_body Bd
  have e0 : s₁.heap = h0 := by rw [← hh, Bd.state]; rfl
  have N0 := Fr.nil n0
  have K0 : Keep h0 h0 [x0, f0_named, f_f0_named_elementData] := Keep.refl h0 _
  refine (?_ : Goes p e below s ({ frames := 2, cells := 0, slots := 0, locals := 28 } : Room).cells ({ frames := 2, cells := 0, slots := 0, locals := 28 } : Room).slots (fun v h L => Q12_3 Z x0 x1 f0_named f0_count f_f0_named_modCount f_f0_named_elementData ka_f_f0_named_elementData h0 n0 v h L) (s₁.setTop (entryFrame m #[(.ref x0), (.ref x1)] 2)))
  rw [ef_12_3 m x0 x1 f0_named f0_count f_f0_named_modCount f_f0_named_elementData ka_f_f0_named_elementData ]
  show Goes _ _ _ _ _ _ _ (s₁.setTop (mkF m 0 #[.val (.ref x0), .val (.ref x1)] []))
  refine Goes.step (fun _ k => XS.aloadN X0.here hx rfl (hb hby d12_0) rfl rfl k) ?_
  show Goes _ _ _ _ _ _ _ (s₁.setTop (mkF m 1 #[.val (.ref x0), .val (.ref x1)] [(.ref x0)]))
  obtain ⟨T1, X1, e1, st1⟩ := getF X0 hx hZ hown (host := "") (Or.inl (hw _ (List.mem_of_getElem? (i := 58) rfl))) Via.refl e0 F0_named (g := (mkF m 1 #[.val (.ref x0), .val (.ref x1)] [(.ref x0)])) rfl rfl (hb hby d12_1)
  refine Goes.step st1 ?_
  show Goes _ _ _ _ _ _ _ (T1.setTop (mkF m 4 #[.val (.ref x0), .val (.ref x1)] [(.ref f0_named)]))
  obtain ⟨cq2, kq2, q2a, q2b, q2c⟩ := isOf hZ e1 E_f0_named
  obtain ⟨_, _, ⟨T2, L2, k2, n2⟩, -, X2, ⟨Lc2, hQ2, l2, y2, z2⟩, st2⟩ := X1.interfaceBack hx (xi := (⟨"java/util/List", "size", "()I"⟩ : MethodName)) (y := (⟨"java/util/ArrayList", "size", "()I"⟩ : MethodName)) hown (mvT hZ (hw _ (List.mem_of_getElem? (i := 77) rfl))) (mvT hZ (hw _ (List.mem_of_getElem? (i := 78) rfl))) (mvT hZ (hw _ (List.mem_of_getElem? (i := 79) rfl))) (mvT hZ (hw _ (List.mem_of_getElem? (i := 80) rfl))) (mvT hZ (hw _ (List.mem_of_getElem? (i := 81) rfl))) (mvT hZ (hw _ (List.mem_of_getElem? (i := 82) rfl))) (mvT hZ (hw _ (List.mem_of_getElem? (i := 83) rfl))) (mvT hZ (hw _ (List.mem_of_getElem? (i := 84) rfl))) (by decide) (backOf (W := 0) (rm13 l Z a0 hw [] f0_named (3 : Int32) h0 n0 Z0 F_f0_named_size) hZ (hw _ (List.mem_of_getElem? (i := 85) rfl)) (hw _ (List.mem_of_getElem? (i := 36) rfl)) (by decide) (by decide)) q2a q2b q2c (g := (mkF m 4 #[.val (.ref x0), .val (.ref x1)] [(.ref f0_named)])) rfl (by rw [hml]; rfl) (Steps.refl _) (argsL := []) (rest := []) (lenOf pd_8 rfl) rfl (by show 2 * 0 + _ ≤ _; exact Nat.le_of_eq rfl) (hb hby d12_4) (fun _ _ => ⟨rfl, e1, (by decide : 0 + 0 ≤ _), (by decide : 0 + 0 ≤ _)⟩)
  dsimp only [Pt.U, Pt.locs, Pt.cells, Pt.slots] at X2 l2 y2 z2 st2 hQ2
  subst l2 y2 z2
  obtain ⟨N2, eh2, hR2⟩ := hQ2
  have NA2 := Fr.app N0 N2
  obtain rfl := hR2
  refine Goes.back st2 ?_
  show Goes _ _ _ _ _ _ _ (T2.setTop (mkF m 9 #[.val (.ref x0), .val (.ref x1)] [(.int (3 : Int32))]))
  refine Goes.step (fun _ k => XS.bipush X2.here hx rfl (hb hby d12_9) k) ?_
  show Goes _ _ _ _ _ _ _ (T2.setTop (mkF m 11 #[.val (.ref x0), .val (.ref x1)] [(.int (100 : Int32)), (.int (3 : Int32))]))
  refine Goes.step (fun _ k => XS.icmpNo X2.here hx rfl (hb hby d12_11) rfl (tlt (by decide : (3 : Int32) < (100 : Int32))).2.1 k) ?_
  show Goes _ _ _ _ _ _ _ (T2.setTop (mkF m 14 #[.val (.ref x0), .val (.ref x1)] []))
  refine Goes.step (fun _ k => XS.aloadN X2.here hx rfl (hb hby d12_14) rfl rfl k) ?_
  show Goes _ _ _ _ _ _ _ (T2.setTop (mkF m 15 #[.val (.ref x0), .val (.ref x1)] [(.ref x0)]))
  obtain ⟨T3, X3, e3, st3⟩ := getF X2 hx hZ hown (host := "") (Or.inl (hw _ (List.mem_of_getElem? (i := 58) rfl))) Via.refl eh2 F0_named (g := (mkF m 15 #[.val (.ref x0), .val (.ref x1)] [(.ref x0)])) rfl rfl (hb hby d12_15)
  refine Goes.step st3 ?_
  show Goes _ _ _ _ _ _ _ (T3.setTop (mkF m 18 #[.val (.ref x0), .val (.ref x1)] [(.ref f0_named)]))
  refine Goes.step (fun _ k => XS.aloadN X3.here hx rfl (hb hby d12_18) rfl rfl k) ?_
  show Goes _ _ _ _ _ _ _ (T3.setTop (mkF m 19 #[.val (.ref x0), .val (.ref x1)] [(.ref x1), (.ref f0_named)]))
  obtain ⟨cq4, kq4, q4a, q4b, q4c⟩ := isOf hZ e3 E_f0_named
  obtain ⟨_, _, ⟨T4, L4, k4, n4⟩, -, X4, ⟨Lc4, hQ4, l4, y4, z4⟩, st4⟩ := X3.interfaceBack hx (xi := (⟨"java/util/List", "add", "(Ljava/lang/Object;)Z"⟩ : MethodName)) (y := (⟨"java/util/ArrayList", "add", "(Ljava/lang/Object;)Z"⟩ : MethodName)) hown (mvT hZ (hw _ (List.mem_of_getElem? (i := 88) rfl))) (mvT hZ (hw _ (List.mem_of_getElem? (i := 89) rfl))) (mvT hZ (hw _ (List.mem_of_getElem? (i := 90) rfl))) (mvT hZ (hw _ (List.mem_of_getElem? (i := 91) rfl))) (mvT hZ (hw _ (List.mem_of_getElem? (i := 92) rfl))) (mvT hZ (hw _ (List.mem_of_getElem? (i := 93) rfl))) (mvT hZ (hw _ (List.mem_of_getElem? (i := 94) rfl))) (mvT hZ (hw _ (List.mem_of_getElem? (i := 84) rfl))) (by decide) (backOf (W := 0) (rm14_3 l Z a0 hw [] f0_named x1 f_f0_named_modCount f_f0_named_elementData ka_f_f0_named_elementData h0 n0 Z0 F_f0_named_modCount F_f0_named_elementData F_f0_named_size E_f0_named E_x1 V_f_f0_named_elementData O_f_f0_named_elementData g_f0_named g_f_f0_named_elementData ne_f_f0_named_elementData_f0_named) hZ (hw _ (List.mem_of_getElem? (i := 95) rfl)) (hw _ (List.mem_of_getElem? (i := 36) rfl)) (by decide) (by decide)) q4a q4b q4c (g := (mkF m 19 #[.val (.ref x0), .val (.ref x1)] [(.ref x1), (.ref f0_named)])) rfl (by rw [hml]; rfl) (Steps.refl _) (argsL := [(.ref x1)]) (rest := []) (lenOf pd_9 rfl) rfl (by show 2 * 0 + _ ≤ _; exact Nat.le_of_eq rfl) (hb hby d12_19) (fun _ _ => ⟨rfl, e3, (by decide : 0 + 0 ≤ _), (by decide : 0 + 0 ≤ _)⟩)
  dsimp only [Pt.U, Pt.locs, Pt.cells, Pt.slots] at X4 l4 y4 z4 st4 hQ4
  subst l4 y4 z4
  obtain ⟨N4, KK4, hR4⟩ := hQ4
  have NA4 := Fr.app NA2 N4
  have f5 := F0_named.keep KK4 (ninS ne_x0_f0_named (ninS (Ne.symm ne_f_f0_named_elementData_x0) nin0))
  have f6 := F0_count.keep KK4 (ninS ne_x0_f0_named (ninS (Ne.symm ne_f_f0_named_elementData_x0) nin0))
  have f10 := E_x0.keep KK4
  have f11 := E_f0_named.keep KK4
  have f12 := E_x1.keep KK4
  have K14 : Keep h0 T4.heap [x0, f0_named, f_f0_named_elementData] := K0.trans KK4 (allS (Or.inl (List.mem_of_getElem? (i := 1) rfl)) (allS (Or.inl (List.mem_of_getElem? (i := 2) rfl)) all0))
  have Z14 : n0 ≤ T4.heap.size := Nat.le_trans Z0 KK4.1
  obtain ⟨rfl, v4_0_0, v4_0_1, v4_0_2, v4_0_3, v4_0_4⟩ := hR4
  refine Goes.back st4 ?_
  show Goes _ _ _ _ _ _ _ (T4.setTop (mkF m 24 #[.val (.ref x0), .val (.ref x1)] [(.int (1 : Int32))]))
  refine Goes.step (fun _ k => XS.pop X4.here hx rfl (hb hby d12_24) rfl rfl k) ?_
  show Goes _ _ _ _ _ _ _ (T4.setTop (mkF m 25 #[.val (.ref x0), .val (.ref x1)] []))
  refine Goes.step (fun _ k => XS.aloadN X4.here hx rfl (hb hby d12_25) rfl rfl k) ?_
  show Goes _ _ _ _ _ _ _ (T4.setTop (mkF m 26 #[.val (.ref x0), .val (.ref x1)] [(.ref x0)]))
  refine Goes.step (fun _ k => XS.dup X4.here hx rfl (hb hby d12_26) rfl rfl k) ?_
  show Goes _ _ _ _ _ _ _ (T4.setTop (mkF m 27 #[.val (.ref x0), .val (.ref x1)] [(.ref x0), (.ref x0)]))
  obtain ⟨T15, X15, e15, st15⟩ := getF X4 hx hZ hown (host := "") (Or.inl (hw _ (List.mem_of_getElem? (i := 65) rfl))) Via.refl rfl f6 (g := (mkF m 27 #[.val (.ref x0), .val (.ref x1)] [(.ref x0), (.ref x0)])) rfl rfl (hb hby d12_27)
  refine Goes.step st15 ?_
  show Goes _ _ _ _ _ _ _ (T15.setTop (mkF m 30 #[.val (.ref x0), .val (.ref x1)] [(.long f0_count), (.ref x0)]))
  refine Goes.step (fun _ k => XS.lconst X15.here hx rfl (hb hby d12_30) k) ?_
  show Goes _ _ _ _ _ _ _ (T15.setTop (mkF m 31 #[.val (.ref x0), .val (.ref x1)] [(.long (1 : Int64)), (.long f0_count), (.ref x0)]))
  refine Goes.step (fun _ k => XS.ladd X15.here hx rfl (hb hby d12_31) rfl k) ?_
  show Goes _ _ _ _ _ _ _ (T15.setTop (mkF m 32 #[.val (.ref x0), .val (.ref x1)] [(.long (f0_count + (1 : Int64))), (.ref x0)]))
  obtain ⟨T16, h16, X16, e16, W16, st16⟩ := putF X15 hx hZ hown (host := "") (Or.inl (hw _ (List.mem_of_getElem? (i := 65) rfl))) Via.refl e15 f6 f10 (Or.inl (hw _ (List.mem_of_getElem? (i := 66) rfl))) (hw _ (List.mem_of_getElem? (i := 28) rfl)) (ty := .long) (by decide) rfl rfl (g := (mkF m 32 #[.val (.ref x0), .val (.ref x1)] [(.long (f0_count + (1 : Int64))), (.ref x0)])) rfl rfl (hb hby d12_32)
  refine Goes.step st16 ?_
  have f17 := f5.other W16 (Or.inr (slot_ne (Or.inr (hw _ (List.mem_of_getElem? (i := 59) rfl))) (Or.inl (hw _ (List.mem_of_getElem? (i := 66) rfl))) (by decide) (t := (.object "java/util/List")) (t' := .long) (by decide) (by decide)))
  have f18 := f6.same W16
  have f19 := f10.wr W16
  have f20 := v4_0_0.wr W16
  have f21 := f12.wr W16
  have f22 := v4_0_1.other W16 (Or.inl (Ne.symm ne_x0_f0_named))
  have f23 := v4_0_2.other W16 (Or.inl (Ne.symm ne_x0_f0_named))
  have f24 := v4_0_3.other W16 (Or.inl (Ne.symm ne_x0_f0_named))
  have f25 := v4_0_4.other W16 ne_f_f0_named_elementData_x0
  have K26 : Keep h0 h16 [x0, f0_named, f_f0_named_elementData] := K14.wr W16 (Or.inl (List.mem_of_getElem? (i := 0) rfl))
  have Z26 : n0 ≤ h16.size := by rw [Wr.size W16]; exact Z14
  have N26 := Fr.snoc X16 NA4 g_x0
  show Goes _ _ _ _ _ _ _ (T16.setTop (mkF m 35 #[.val (.ref x0), .val (.ref x1)] []))
  exact Goes.retV X16 hx (BodyLoose.notSynchronized Bd) Bd.returns (hb hby d12_35) (by show Q12_3 Z x0 x1 f0_named f0_count f_f0_named_modCount f_f0_named_elementData ka_f_f0_named_elementData h0 n0 none T16.heap _; rw [e16]; exact ⟨N26, K26, ⟨rfl, f17, f18, f19, f20, f22, f23, f24, f25⟩⟩) (by decide) (by decide)
theorem pn_0 : plainName "com/example/roles_to_grants/rolestogrants/input/ProblemListIsEmptyPinLaw" = true := by first | (simp [plainName, overriddenIn]; done) | decide +kernel
theorem ef_0 (m : MethodId) (p0 : Int32) (p1 : Int64) (p2 : Int32) (zC : Int32) (de : Addr) (kde : ClassId)  : entryFrame m #[(.int p0), (.long p1), (.int p2)] maxLocals = mkF m 0 #[.val (.int p0), .val (.long p1), .second, .val (.int p2), .unset, .unset, .unset, .unset, .unset, .unset, .unset, .unset, .unset] [] := by first | (simp [entryFrame, mkF, argsToLocals, Value.category, maxLocals]; done) | rfl
theorem pd_0 : parseMethodDescriptor "(C)Ljava/lang/String;" = some ⟨[.char], some (.object "java/lang/String")⟩ := by decide +kernel
theorem pd_5 : parseMethodDescriptor "()Z" = some ⟨[], some .boolean⟩ := by decide +kernel
theorem pd_6 : parseMethodDescriptor "(J)V" = some ⟨[.long], none⟩ := by decide +kernel
theorem pd_7 : parseMethodDescriptor "(Ljava/lang/String;)V" = some ⟨[(.object "java/lang/String")], none⟩ := by decide +kernel
def Q0 (Z : State) (p0 : Int32) (p1 : Int64) (p2 : Int32) (zC : Int32) (de : Addr) (kde : ClassId) (h0 : Heap) (n0 : Nat) (v : Option Value) (h : Heap) (L : List Loc) : Prop := v = some (.int 1) ∧ Fr n0 L
set_option maxRecDepth 65536 in
set_option maxHeartbeats 40000000 in
theorem rm0 (l : Launch) (Z : State) (a0 : Array Value) (hw : ∀ d ∈ tables_1, d.before a0 Z = true) (ws : List Jvm.Cond) (p0 : Int32) (p1 : Int64) (p2 : Int32) (zC : Int32) (de : Addr) (kde : ClassId) (h0 : Heap) (n0 : Nat) (Z0 : n0 ≤ h0.size) (S_CS : Sta Z Z.heap "java/lang/String" "COMPACT_STRINGS" "Z" (.int zC)) (P5 : ¬ (zC = (0 : Int32))) (S_DE : Sta Z Z.heap "java/util/ArrayList" "DEFAULTCAPACITY_EMPTY_ELEMENTDATA" "[Ljava/lang/Object;" (.ref de)) (V_de0 : Arx Z Z.heap de kde (.object "java/lang/Object") (0 : Int32)) (X00 : Old Z n0 h0) :
    MetFree l x (head1 (Jvm.Cond.code x code maxLocals ret :: ws) room_1) (fun a U => a = #[(.int p0), (.long p1), (.int p2)] ∧ Z.Warmed39 U.vm ∧ U.heap = h0) (fun _ _ _ _ _ => True) (fun _ U o U' => ∃ v L, o = .returned v ∧ Q0 Z p0 p1 p2 zC de kde h0 n0 v U'.heap L ∧ FrameEnd U o U' L room_1.cells room_1.slots) := by
  refine MetFree.of_bodySF (plainFor_of_name pn_0) hisR ?_
  intro p e s m args below meth c s₁ Bd hml0 hP hK
  obtain ⟨rfl, hZ, hh⟩ := hP
  have hx := Bd.exec
  have hby := Bd.bytes
  have hml : c.maxLocals = 13 := hml0
  have hown : s.vm.findClass "com/example/roles_to_grants/rolestogrants/input/ProblemListIsEmptyPinLaw" = some m.cls := findClass_of_methodNamed Bd.named
  have hnm := (name_of_methodNamed Bd.named Bd.method).1
  have X0 : Stand p l e room_1 s m #[(.int p0), (.long p1), (.int p2)] below meth c s₁ [] 0 0 := Stand.of_body Bd
  have e0 : s₁.heap = h0 := by rw [← hh, Bd.state]; rfl
  have N0 := Fr.nil n0
  have K0 : Keep h0 h0 [] := Keep.refl h0 _
  refine (?_ : Goes p e below s room_1.cells room_1.slots (fun v h L => Q0 Z p0 p1 p2 zC de kde h0 n0 v h L) (s₁.setTop (entryFrame m #[(.int p0), (.long p1), (.int p2)] maxLocals)))
  rw [ef_0 m p0 p1 p2 zC de kde ]
  have V_de := V_de0.ext X00.2
  show Goes _ _ _ _ _ _ _ (s₁.setTop (mkF m 0 #[.val (.int p0), .val (.long p1), .second, .val (.int p2), .unset, .unset, .unset, .unset, .unset, .unset, .unset, .unset, .unset] []))
  refine Goes.step (fun _ k => XS.iloadN X0.here hx rfl (hb hby at_0) rfl  k) ?_
  show Goes _ _ _ _ _ _ _ (s₁.setTop (mkF m 1 #[.val (.int p0), .val (.long p1), .second, .val (.int p2), .unset, .unset, .unset, .unset, .unset, .unset, .unset, .unset, .unset] [(.int p0)]))
  refine Goes.step (fun _ k => XS.iconst X0.here hx rfl (hb hby at_1) k) ?_
  show Goes _ _ _ _ _ _ _ (s₁.setTop (mkF m 2 #[.val (.int p0), .val (.long p1), .second, .val (.int p2), .unset, .unset, .unset, .unset, .unset, .unset, .unset, .unset, .unset] [(.int (3 : Int32)), (.int p0)]))
  refine Goes.step (fun _ k => XS.iand X0.here hx rfl (hb hby at_2) rfl k) ?_
  show Goes _ _ _ _ _ _ _ (s₁.setTop (mkF m 3 #[.val (.int p0), .val (.long p1), .second, .val (.int p2), .unset, .unset, .unset, .unset, .unset, .unset, .unset, .unset, .unset] [(.int (p0 &&& (3 : Int32)))]))
  refine Goes.step (fun _ k => XS.istore X0.here hx rfl (hb hby at_3) rfl (l' := #[.val (.int p0), .val (.long p1), .second, .val (.int p2), .val (.int (p0 &&& (3 : Int32))), .unset, .unset, .unset, .unset, .unset, .unset, .unset, .unset]) rfl k) ?_
  show Goes _ _ _ _ _ _ _ (s₁.setTop (mkF m 5 #[.val (.int p0), .val (.long p1), .second, .val (.int p2), .val (.int (p0 &&& (3 : Int32))), .unset, .unset, .unset, .unset, .unset, .unset, .unset, .unset] []))
  generalize hg_a4 : (p0 &&& (3 : Int32)) = a4
  show Goes _ _ _ _ _ _ _ (s₁.setTop (mkF m 5 #[.val (.int p0), .val (.long p1), .second, .val (.int p2), .val (.int a4), .unset, .unset, .unset, .unset, .unset, .unset, .unset, .unset] []))
  rcases own_and3 hg_a4 with rfl | rfl | rfl | rfl
  · show Goes _ _ _ _ _ _ _ (s₁.setTop (mkF m 5 #[.val (.int p0), .val (.long p1), .second, .val (.int p2), .val (.int (0 : Int32)), .unset, .unset, .unset, .unset, .unset, .unset, .unset, .unset] []))
    refine Goes.step (fun _ k => XS.iloadN X0.here hx rfl (hb hby at_5) rfl  k) ?_
    show Goes _ _ _ _ _ _ _ (s₁.setTop (mkF m 6 #[.val (.int p0), .val (.long p1), .second, .val (.int p2), .val (.int (0 : Int32)), .unset, .unset, .unset, .unset, .unset, .unset, .unset, .unset] [(.int p0)]))
    refine Goes.step (fun _ k => XS.iconst X0.here hx rfl (hb hby at_6) k) ?_
    show Goes _ _ _ _ _ _ _ (s₁.setTop (mkF m 7 #[.val (.int p0), .val (.long p1), .second, .val (.int p2), .val (.int (0 : Int32)), .unset, .unset, .unset, .unset, .unset, .unset, .unset, .unset] [(.int (2 : Int32)), (.int p0)]))
    refine Goes.step (fun _ k => XS.iushr X0.here hx rfl (hb hby at_7) rfl k) ?_
    show Goes _ _ _ _ _ _ _ (s₁.setTop (mkF m 8 #[.val (.int p0), .val (.long p1), .second, .val (.int p2), .val (.int (0 : Int32)), .unset, .unset, .unset, .unset, .unset, .unset, .unset, .unset] [(.int ((p0.toUInt32 >>> ((2 : Int32) &&& 31).toUInt32).toInt32))]))
    refine Goes.step (fun _ k => XS.iconst X0.here hx rfl (hb hby at_8) k) ?_
    show Goes _ _ _ _ _ _ _ (s₁.setTop (mkF m 9 #[.val (.int p0), .val (.long p1), .second, .val (.int p2), .val (.int (0 : Int32)), .unset, .unset, .unset, .unset, .unset, .unset, .unset, .unset] [(.int (1 : Int32)), (.int ((p0.toUInt32 >>> ((2 : Int32) &&& 31).toUInt32).toInt32))]))
    refine Goes.step (fun _ k => XS.iand X0.here hx rfl (hb hby at_9) rfl k) ?_
    show Goes _ _ _ _ _ _ _ (s₁.setTop (mkF m 10 #[.val (.int p0), .val (.long p1), .second, .val (.int p2), .val (.int (0 : Int32)), .unset, .unset, .unset, .unset, .unset, .unset, .unset, .unset] [(.int (((p0.toUInt32 >>> ((2 : Int32) &&& 31).toUInt32).toInt32) &&& (1 : Int32)))]))
    refine Goes.step (fun _ k => XS.istore X0.here hx rfl (hb hby at_10) rfl (l' := #[.val (.int p0), .val (.long p1), .second, .val (.int p2), .val (.int (0 : Int32)), .val (.int (((p0.toUInt32 >>> ((2 : Int32) &&& 31).toUInt32).toInt32) &&& (1 : Int32))), .unset, .unset, .unset, .unset, .unset, .unset, .unset]) rfl k) ?_
    show Goes _ _ _ _ _ _ _ (s₁.setTop (mkF m 12 #[.val (.int p0), .val (.long p1), .second, .val (.int p2), .val (.int (0 : Int32)), .val (.int (((p0.toUInt32 >>> ((2 : Int32) &&& 31).toUInt32).toInt32) &&& (1 : Int32))), .unset, .unset, .unset, .unset, .unset, .unset, .unset] []))
    generalize hg_b5 : (((p0.toUInt32 >>> ((2 : Int32) &&& 31).toUInt32).toInt32) &&& (1 : Int32)) = b5
    show Goes _ _ _ _ _ _ _ (s₁.setTop (mkF m 12 #[.val (.int p0), .val (.long p1), .second, .val (.int p2), .val (.int (0 : Int32)), .val (.int b5), .unset, .unset, .unset, .unset, .unset, .unset, .unset] []))
    rcases own_and1 hg_b5 with rfl | rfl
    · show Goes _ _ _ _ _ _ _ (s₁.setTop (mkF m 12 #[.val (.int p0), .val (.long p1), .second, .val (.int p2), .val (.int (0 : Int32)), .val (.int (0 : Int32)), .unset, .unset, .unset, .unset, .unset, .unset, .unset] []))
      refine Goes.step (fun _ k => XS.lloadN X0.here hx rfl (hb hby at_12) rfl  k) ?_
      show Goes _ _ _ _ _ _ _ (s₁.setTop (mkF m 13 #[.val (.int p0), .val (.long p1), .second, .val (.int p2), .val (.int (0 : Int32)), .val (.int (0 : Int32)), .unset, .unset, .unset, .unset, .unset, .unset, .unset] [(.long p1)]))
      refine Goes.step (fun _ k => X0.ldc2Long hx hown (mvT hZ (hw _ (List.mem_of_getElem? (i := 0) rfl))) (g := (mkF m 13 #[.val (.int p0), .val (.long p1), .second, .val (.int p2), .val (.int (0 : Int32)), .val (.int (0 : Int32)), .unset, .unset, .unset, .unset, .unset, .unset, .unset] [(.long p1)])) rfl (hb hby at_13) _ k) ?_
      show Goes _ _ _ _ _ _ _ (s₁.setTop (mkF m 16 #[.val (.int p0), .val (.long p1), .second, .val (.int p2), .val (.int (0 : Int32)), .val (.int (0 : Int32)), .unset, .unset, .unset, .unset, .unset, .unset, .unset] [(.long (9223372036854775807 : Int64)), (.long p1)]))
      refine Goes.step (fun _ k => XS.land X0.here hx rfl (hb hby at_16) rfl k) ?_
      show Goes _ _ _ _ _ _ _ (s₁.setTop (mkF m 17 #[.val (.int p0), .val (.long p1), .second, .val (.int p2), .val (.int (0 : Int32)), .val (.int (0 : Int32)), .unset, .unset, .unset, .unset, .unset, .unset, .unset] [(.long (p1 &&& (9223372036854775807 : Int64)))]))
      refine Goes.step (fun _ k => XS.lstore X0.here hx rfl (hb hby at_17) rfl (l' := #[.val (.int p0), .val (.long p1), .second, .val (.int p2), .val (.int (0 : Int32)), .val (.int (0 : Int32)), .val (.long (p1 &&& (9223372036854775807 : Int64))), .second, .unset, .unset, .unset, .unset, .unset]) rfl k) ?_
      show Goes _ _ _ _ _ _ _ (s₁.setTop (mkF m 19 #[.val (.int p0), .val (.long p1), .second, .val (.int p2), .val (.int (0 : Int32)), .val (.int (0 : Int32)), .val (.long (p1 &&& (9223372036854775807 : Int64))), .second, .unset, .unset, .unset, .unset, .unset] []))
      generalize hg_u6 : (p1 &&& (9223372036854775807 : Int64)) = u6
      show Goes _ _ _ _ _ _ _ (s₁.setTop (mkF m 19 #[.val (.int p0), .val (.long p1), .second, .val (.int p2), .val (.int (0 : Int32)), .val (.int (0 : Int32)), .val (.long u6), .second, .unset, .unset, .unset, .unset, .unset] []))
      refine Goes.step (fun _ k => XS.iloadN X0.here hx rfl (hb hby at_19) rfl  k) ?_
      show Goes _ _ _ _ _ _ _ (s₁.setTop (mkF m 20 #[.val (.int p0), .val (.long p1), .second, .val (.int p2), .val (.int (0 : Int32)), .val (.int (0 : Int32)), .val (.long u6), .second, .unset, .unset, .unset, .unset, .unset] [(.int p2)]))
      refine Goes.step (fun _ k => XS.sipush X0.here hx rfl (hb hby at_20) k) ?_
      show Goes _ _ _ _ _ _ _ (s₁.setTop (mkF m 23 #[.val (.int p0), .val (.long p1), .second, .val (.int p2), .val (.int (0 : Int32)), .val (.int (0 : Int32)), .val (.long u6), .second, .unset, .unset, .unset, .unset, .unset] [(.int (255 : Int32)), (.int p2)]))
      refine Goes.step (fun _ k => XS.iand X0.here hx rfl (hb hby at_23) rfl k) ?_
      show Goes _ _ _ _ _ _ _ (s₁.setTop (mkF m 24 #[.val (.int p0), .val (.long p1), .second, .val (.int p2), .val (.int (0 : Int32)), .val (.int (0 : Int32)), .val (.long u6), .second, .unset, .unset, .unset, .unset, .unset] [(.int (p2 &&& (255 : Int32)))]))
      refine Goes.step (fun _ k => XS.i2c X0.here hx rfl (hb hby at_24) rfl k) ?_
      show Goes _ _ _ _ _ _ _ (s₁.setTop (mkF m 25 #[.val (.int p0), .val (.long p1), .second, .val (.int p2), .val (.int (0 : Int32)), .val (.int (0 : Int32)), .val (.long u6), .second, .unset, .unset, .unset, .unset, .unset] [(.int ((p2 &&& (255 : Int32)).toUInt32.toUInt16.toUInt32.toInt32))]))
      obtain ⟨_, _, ⟨T1, L1, k1, n1⟩, -, X1, ⟨Lc1, hQ1, l1, y1, z1⟩, st1⟩ := Jvm.LawKit.callS X0 hx (y := (⟨"java/lang/String", "valueOf", "(C)Ljava/lang/String;"⟩ : MethodName)) hown (mvT hZ (hw _ (List.mem_of_getElem? (i := 1) rfl))) (mvT hZ (hw _ (List.mem_of_getElem? (i := 2) rfl))) (mvT hZ (hw _ (List.mem_of_getElem? (i := 3) rfl))) (mvT hZ (hw _ (List.mem_of_getElem? (i := 4) rfl))) (by decide) (backOf (W := 0) (rm1 l Z a0 hw [] ((p2 &&& (255 : Int32)).toUInt32.toUInt16.toUInt32.toInt32) zC h0 n0 Z0 S_CS X00 P5 (own_char _)) hZ (hw _ (List.mem_of_getElem? (i := 4) rfl)) (hw _ (List.mem_of_getElem? (i := 3) rfl)) (by decide) (by decide)) (g := (mkF m 25 #[.val (.int p0), .val (.long p1), .second, .val (.int p2), .val (.int (0 : Int32)), .val (.int (0 : Int32)), .val (.long u6), .second, .unset, .unset, .unset, .unset, .unset] [(.int ((p2 &&& (255 : Int32)).toUInt32.toUInt16.toUInt32.toInt32))])) rfl (by rw [hml]; rfl) (argsL := [(.int ((p2 &&& (255 : Int32)).toUInt32.toUInt16.toUInt32.toInt32))]) (rest := []) (lenOf pd_0 rfl) rfl (by show 2 * 0 + _ ≤ _; exact Nat.le_of_eq rfl) (hb hby at_25) (fun _ _ => ⟨rfl, e0, (by decide : 0 + 2 ≤ _), (by decide : 0 + 5 ≤ _)⟩)
      dsimp only [Pt.U, Pt.locs, Pt.cells, Pt.slots] at X1 l1 y1 z1 st1 hQ1
      subst l1 y1 z1
      obtain ⟨N1, KK1, hR1⟩ := hQ1
      have NA1 := Fr.app N0 N1
      have XO2 : Old Z n0 T1.heap := X00.keep KK1 all0
      have f3 := V_de.keep KK1 nin0
      have K4 : Keep h0 T1.heap [] := K0.trans KK1 all0
      have Z4 : n0 ≤ T1.heap.size := Nat.le_trans Z0 KK1.1
      obtain ⟨r1_0_0, r1_0_1, kk1_0_0, rfl, u1_0_0, g_r1_0_0, le_r1_0_0, g_r1_0_1, le_r1_0_1, nn1_0_0, v1_0_0, v1_0_1, v1_0_2⟩ := hR1
      have ne5 : de ≠ r1_0_0 := Nat.ne_of_lt (Nat.lt_of_lt_of_le V_de.lt le_r1_0_0)
      have sz_r1_0_0 : h0.size ≤ r1_0_0 := Nat.le_trans K0.1 le_r1_0_0
      have ne6 : de ≠ r1_0_1 := Nat.ne_of_lt (Nat.lt_of_lt_of_le V_de.lt le_r1_0_1)
      have sz_r1_0_1 : h0.size ≤ r1_0_1 := Nat.le_trans K0.1 le_r1_0_1
      refine Goes.step st1 ?_
      show Goes _ _ _ _ _ _ _ (T1.setTop (mkF m 28 #[.val (.int p0), .val (.long p1), .second, .val (.int p2), .val (.int (0 : Int32)), .val (.int (0 : Int32)), .val (.long u6), .second, .unset, .unset, .unset, .unset, .unset] [(.ref r1_0_0)]))
      refine Goes.step (fun _ k => XS.astore X1.here hx rfl (hb hby at_28) rfl rfl (l' := #[.val (.int p0), .val (.long p1), .second, .val (.int p2), .val (.int (0 : Int32)), .val (.int (0 : Int32)), .val (.long u6), .second, .val (.ref r1_0_0), .unset, .unset, .unset, .unset]) rfl k) ?_
      show Goes _ _ _ _ _ _ _ (T1.setTop (mkF m 30 #[.val (.int p0), .val (.long p1), .second, .val (.int p2), .val (.int (0 : Int32)), .val (.int (0 : Int32)), .val (.long u6), .second, .val (.ref r1_0_0), .unset, .unset, .unset, .unset] []))
      obtain ⟨T7, h7, X7, e7, E7, A7, D7, -, st7⟩ := newO X1 hx hZ hown (hw _ (List.mem_of_getElem? (i := 27) rfl)) (hw _ (List.mem_of_getElem? (i := 28) rfl)) (hw _ (List.mem_of_getElem? (i := 29) rfl)) rfl (g := (mkF m 30 #[.val (.int p0), .val (.long p1), .second, .val (.int p2), .val (.int (0 : Int32)), .val (.int (0 : Int32)), .val (.long u6), .second, .val (.ref r1_0_0), .unset, .unset, .unset, .unset] [])) rfl (hb hby at_30) (by decide) (by decide)
      obtain ⟨b7, g7⟩ : ∃ z, z = T1.heap.size := ⟨_, rfl⟩
      rw [← g7] at A7 D7 st7
      refine Goes.step st7 ?_
      have g_b7 : n0 ≤ b7 := Nat.le_trans Z4 (Nat.le_of_eq g7.symm)
      have sz_b7 : h0.size ≤ b7 := Nat.le_trans K4.1 (Nat.le_of_eq g7.symm)
      have ne8 : de ≠ b7 := Nat.ne_of_lt (Nat.lt_of_lt_of_le f3.lt (Nat.le_of_eq g7.symm))
      have ne9 : r1_0_0 ≠ b7 := Nat.ne_of_lt (Nat.lt_of_lt_of_le v1_0_0.lt (Nat.le_of_eq g7.symm))
      have ne10 : r1_0_1 ≠ b7 := Nat.ne_of_lt (Nat.lt_of_lt_of_le v1_0_1.lt (Nat.le_of_eq g7.symm))
      have XO11 : Old Z n0 h7 := XO2.ext E7
      have f12 := f3.ext E7
      have f13 := v1_0_0.ext E7
      have f14 := v1_0_1.ext E7
      have f15 := v1_0_2.ext E7
      have K16 : Keep h0 h7 [] := K4.ext E7
      have Z16 : n0 ≤ h7.size := Nat.le_trans Z4 E7.1
      have E_b7 := A7
      have F_named_b7 : Fld Z h7 b7 "com/example/roles_to_grants/rolestogrants/input/ProblemList" "named" "Ljava/util/List;" .null := D7 (Or.inr (hw _ (List.mem_of_getElem? (i := 59) rfl))) (ty := (.object "java/util/List")) (by decide)
      have F_count_b7 : Fld Z h7 b7 "com/example/roles_to_grants/rolestogrants/input/ProblemList" "count" "J" (.long (0 : Int64)) := D7 (Or.inl (hw _ (List.mem_of_getElem? (i := 66) rfl))) (ty := .long) (by decide)
      show Goes _ _ _ _ _ _ _ (T7.setTop (mkF m 33 #[.val (.int p0), .val (.long p1), .second, .val (.int p2), .val (.int (0 : Int32)), .val (.int (0 : Int32)), .val (.long u6), .second, .val (.ref r1_0_0), .unset, .unset, .unset, .unset] [(.ref b7)]))
      refine Goes.step (fun _ k => XS.dup X7.here hx rfl (hb hby at_33) rfl rfl k) ?_
      show Goes _ _ _ _ _ _ _ (T7.setTop (mkF m 34 #[.val (.int p0), .val (.long p1), .second, .val (.int p2), .val (.int (0 : Int32)), .val (.int (0 : Int32)), .val (.long u6), .second, .val (.ref r1_0_0), .unset, .unset, .unset, .unset] [(.ref b7), (.ref b7)]))
      obtain ⟨_, _, ⟨T17, L17, k17, n17⟩, -, X17, ⟨Lc17, hQ17, l17, y17, z17⟩, st17⟩ := X7.specialBack hx (y := (⟨"com/example/roles_to_grants/rolestogrants/input/ProblemList", "<init>", "()V"⟩ : MethodName)) rfl hown (mvT hZ (hw _ (List.mem_of_getElem? (i := 30) rfl))) (mvT hZ (hw _ (List.mem_of_getElem? (i := 31) rfl))) (mvT hZ (hw _ (List.mem_of_getElem? (i := 32) rfl))) (by decide) (backOf (W := 1) (rm6 l Z a0 hw [] b7 de h7 n0 Z16 S_DE XO11 F_named_b7 F_count_b7 E_b7 g_b7) hZ (hw _ (List.mem_of_getElem? (i := 32) rfl)) (hw _ (List.mem_of_getElem? (i := 29) rfl)) (by decide) (by decide)) (g := (mkF m 34 #[.val (.int p0), .val (.long p1), .second, .val (.int p2), .val (.int (0 : Int32)), .val (.int (0 : Int32)), .val (.long u6), .second, .val (.ref r1_0_0), .unset, .unset, .unset, .unset] [(.ref b7), (.ref b7)])) rfl (by rw [hml]; rfl) (Steps.refl _) (a := b7) (argsL := []) (rest := [(.ref b7)]) (lenOf pd_4 rfl) rfl (by show 2 * 0 + _ ≤ _; exact Nat.le_of_eq rfl) (hb hby at_34) (fun _ _ => ⟨rfl, e7, (by decide : 3 + 1 ≤ _), (by decide : 7 + 3 ≤ _)⟩)
      dsimp only [Pt.U, Pt.locs, Pt.cells, Pt.slots] at X17 l17 y17 z17 st17 hQ17
      subst l17 y17 z17
      obtain ⟨N17, KK17, hR17⟩ := hQ17
      have NA17 := Fr.app NA1 N17
      have XO18 : Old Z n0 T17.heap := XO11.keep KK17 (allS g_b7 all0)
      have f19 := f12.keep KK17 (ninS ne8 nin0)
      have f20 := f13.keep KK17
      have f21 := f14.keep KK17 (ninS ne10 nin0)
      have f22 := f15.keep KK17 (ninS ne9 nin0)
      have f23 := E_b7.keep KK17
      have K26 : Keep h0 T17.heap [] := K16.trans KK17 (allS (Or.inr sz_b7) all0)
      have Z26 : n0 ≤ T17.heap.size := Nat.le_trans Z16 KK17.1
      obtain ⟨r17_0_0, rfl, g_r17_0_0, le_r17_0_0, v17_0_0, v17_0_1, v17_0_2, v17_0_3, v17_0_4, v17_0_5, v17_0_6⟩ := hR17
      have ne27 : de ≠ r17_0_0 := Nat.ne_of_lt (Nat.lt_of_lt_of_le f12.lt le_r17_0_0)
      have ne28 : r1_0_0 ≠ r17_0_0 := Nat.ne_of_lt (Nat.lt_of_lt_of_le f13.lt le_r17_0_0)
      have ne29 : r1_0_1 ≠ r17_0_0 := Nat.ne_of_lt (Nat.lt_of_lt_of_le f14.lt le_r17_0_0)
      have ne30 : b7 ≠ r17_0_0 := Nat.ne_of_lt (Nat.lt_of_lt_of_le E_b7.lt le_r17_0_0)
      have sz_r17_0_0 : h0.size ≤ r17_0_0 := Nat.le_trans K16.1 le_r17_0_0
      refine Goes.back st17 ?_
      show Goes _ _ _ _ _ _ _ (T17.setTop (mkF m 37 #[.val (.int p0), .val (.long p1), .second, .val (.int p2), .val (.int (0 : Int32)), .val (.int (0 : Int32)), .val (.long u6), .second, .val (.ref r1_0_0), .unset, .unset, .unset, .unset] [(.ref b7)]))
      refine Goes.step (fun _ k => XS.astore X17.here hx rfl (hb hby at_37) rfl rfl (l' := #[.val (.int p0), .val (.long p1), .second, .val (.int p2), .val (.int (0 : Int32)), .val (.int (0 : Int32)), .val (.long u6), .second, .val (.ref r1_0_0), .val (.ref b7), .unset, .unset, .unset]) rfl k) ?_
      show Goes _ _ _ _ _ _ _ (T17.setTop (mkF m 39 #[.val (.int p0), .val (.long p1), .second, .val (.int p2), .val (.int (0 : Int32)), .val (.int (0 : Int32)), .val (.long u6), .second, .val (.ref r1_0_0), .val (.ref b7), .unset, .unset, .unset] []))
      refine Goes.step (fun _ k => XS.aload X17.here hx rfl (hb hby at_39) rfl rfl k) ?_
      show Goes _ _ _ _ _ _ _ (T17.setTop (mkF m 41 #[.val (.int p0), .val (.long p1), .second, .val (.int p2), .val (.int (0 : Int32)), .val (.int (0 : Int32)), .val (.long u6), .second, .val (.ref r1_0_0), .val (.ref b7), .unset, .unset, .unset] [(.ref b7)]))
      obtain ⟨cq31, kq31, q31a, q31b, q31c⟩ := isOf hZ rfl v17_0_2
      obtain ⟨_, _, ⟨T31, L31, k31, n31⟩, -, X31, ⟨Lc31, hQ31, l31, y31, z31⟩, st31⟩ := X17.virtualBack hx (y := (⟨"com/example/roles_to_grants/rolestogrants/input/ProblemList", "isEmpty", "()Z"⟩ : MethodName)) (z := (⟨"com/example/roles_to_grants/rolestogrants/input/ProblemList", "isEmpty", "()Z"⟩ : MethodName)) hown (mvT hZ (hw _ (List.mem_of_getElem? (i := 60) rfl))) (mvT hZ (hw _ (List.mem_of_getElem? (i := 61) rfl))) (notFace_of_selects (args := #[]) (mvT hZ (hw _ (List.mem_of_getElem? (i := 63) rfl)))) (mvT hZ (hw _ (List.mem_of_getElem? (i := 63) rfl))) (mvT hZ (hw _ (List.mem_of_getElem? (i := 62) rfl))) (by decide) (backOf (W := 0) (rm10 l Z a0 hw [] b7 (0 : Int64) T17.heap n0 Z26 v17_0_1) hZ (hw _ (List.mem_of_getElem? (i := 64) rfl)) (hw _ (List.mem_of_getElem? (i := 29) rfl)) (by decide) (by decide)) q31a q31c (g := (mkF m 41 #[.val (.int p0), .val (.long p1), .second, .val (.int p2), .val (.int (0 : Int32)), .val (.int (0 : Int32)), .val (.long u6), .second, .val (.ref r1_0_0), .val (.ref b7), .unset, .unset, .unset] [(.ref b7)])) rfl (by rw [hml]; rfl) (Steps.refl _) (argsL := []) (rest := []) (lenOf pd_5 rfl) rfl (by show 2 * 0 + _ ≤ _; exact Nat.le_of_eq rfl) (hb hby at_41) (fun _ _ => ⟨rfl, rfl, (by decide : 4 + 0 ≤ _), (by decide : 10 + 0 ≤ _)⟩)
      dsimp only [Pt.U, Pt.locs, Pt.cells, Pt.slots] at X31 l31 y31 z31 st31 hQ31
      subst l31 y31 z31
      obtain ⟨N31, eh31, hR31⟩ := hQ31
      have NA31 := Fr.app NA17 N31
      rcases hR31 with ⟨rfl, u31_0_0⟩ | ⟨rfl, u31_1_0⟩
      · refine Goes.back st31 ?_
        show Goes _ _ _ _ _ _ _ (T31.setTop (mkF m 44 #[.val (.int p0), .val (.long p1), .second, .val (.int p2), .val (.int (0 : Int32)), .val (.int (0 : Int32)), .val (.long u6), .second, .val (.ref r1_0_0), .val (.ref b7), .unset, .unset, .unset] [(.int (1 : Int32))]))
        refine Goes.step (fun _ k => XS.istore X31.here hx rfl (hb hby at_44) rfl (l' := #[.val (.int p0), .val (.long p1), .second, .val (.int p2), .val (.int (0 : Int32)), .val (.int (0 : Int32)), .val (.long u6), .second, .val (.ref r1_0_0), .val (.ref b7), .val (.int (1 : Int32)), .unset, .unset]) rfl k) ?_
        show Goes _ _ _ _ _ _ _ (T31.setTop (mkF m 46 #[.val (.int p0), .val (.long p1), .second, .val (.int p2), .val (.int (0 : Int32)), .val (.int (0 : Int32)), .val (.long u6), .second, .val (.ref r1_0_0), .val (.ref b7), .val (.int (1 : Int32)), .unset, .unset] []))
        refine Goes.step (fun _ k => XS.iload X31.here hx rfl (hb hby at_46) rfl  k) ?_
        show Goes _ _ _ _ _ _ _ (T31.setTop (mkF m 48 #[.val (.int p0), .val (.long p1), .second, .val (.int p2), .val (.int (0 : Int32)), .val (.int (0 : Int32)), .val (.long u6), .second, .val (.ref r1_0_0), .val (.ref b7), .val (.int (1 : Int32)), .unset, .unset] [(.int (0 : Int32))]))
        refine Goes.step (fun _ k => XS.iconst X31.here hx rfl (hb hby at_48) k) ?_
        show Goes _ _ _ _ _ _ _ (T31.setTop (mkF m 49 #[.val (.int p0), .val (.long p1), .second, .val (.int p2), .val (.int (0 : Int32)), .val (.int (0 : Int32)), .val (.long u6), .second, .val (.ref r1_0_0), .val (.ref b7), .val (.int (1 : Int32)), .unset, .unset] [(.int (1 : Int32)), (.int (0 : Int32))]))
        refine Goes.step (fun _ k => XS.icmpYes X31.here hx rfl (pc0 := 49) (pc' := 59) rfl (hb hby at_49) rfl (tlt (by decide : (0 : Int32) < (1 : Int32))).1 (by decide) (by decide) k) ?_
        show Goes _ _ _ _ _ _ _ (T31.setTop (mkF m 59 #[.val (.int p0), .val (.long p1), .second, .val (.int p2), .val (.int (0 : Int32)), .val (.int (0 : Int32)), .val (.long u6), .second, .val (.ref r1_0_0), .val (.ref b7), .val (.int (1 : Int32)), .unset, .unset] []))
        refine Goes.step (fun _ k => XS.iload X31.here hx rfl (hb hby at_59) rfl  k) ?_
        show Goes _ _ _ _ _ _ _ (T31.setTop (mkF m 61 #[.val (.int p0), .val (.long p1), .second, .val (.int p2), .val (.int (0 : Int32)), .val (.int (0 : Int32)), .val (.long u6), .second, .val (.ref r1_0_0), .val (.ref b7), .val (.int (1 : Int32)), .unset, .unset] [(.int (0 : Int32))]))
        refine Goes.step (fun _ k => XS.iconst X31.here hx rfl (hb hby at_61) k) ?_
        show Goes _ _ _ _ _ _ _ (T31.setTop (mkF m 62 #[.val (.int p0), .val (.long p1), .second, .val (.int p2), .val (.int (0 : Int32)), .val (.int (0 : Int32)), .val (.long u6), .second, .val (.ref r1_0_0), .val (.ref b7), .val (.int (1 : Int32)), .unset, .unset] [(.int (2 : Int32)), (.int (0 : Int32))]))
        refine Goes.step (fun _ k => XS.icmpYes X31.here hx rfl (pc0 := 62) (pc' := 72) rfl (hb hby at_62) rfl (tlt (by decide : (0 : Int32) < (2 : Int32))).1 (by decide) (by decide) k) ?_
        show Goes _ _ _ _ _ _ _ (T31.setTop (mkF m 72 #[.val (.int p0), .val (.long p1), .second, .val (.int p2), .val (.int (0 : Int32)), .val (.int (0 : Int32)), .val (.long u6), .second, .val (.ref r1_0_0), .val (.ref b7), .val (.int (1 : Int32)), .unset, .unset] []))
        refine Goes.step (fun _ k => XS.iload X31.here hx rfl (hb hby at_72) rfl  k) ?_
        show Goes _ _ _ _ _ _ _ (T31.setTop (mkF m 74 #[.val (.int p0), .val (.long p1), .second, .val (.int p2), .val (.int (0 : Int32)), .val (.int (0 : Int32)), .val (.long u6), .second, .val (.ref r1_0_0), .val (.ref b7), .val (.int (1 : Int32)), .unset, .unset] [(.int (0 : Int32))]))
        refine Goes.step (fun _ k => XS.iconst X31.here hx rfl (hb hby at_74) k) ?_
        show Goes _ _ _ _ _ _ _ (T31.setTop (mkF m 75 #[.val (.int p0), .val (.long p1), .second, .val (.int p2), .val (.int (0 : Int32)), .val (.int (0 : Int32)), .val (.long u6), .second, .val (.ref r1_0_0), .val (.ref b7), .val (.int (1 : Int32)), .unset, .unset] [(.int (3 : Int32)), (.int (0 : Int32))]))
        refine Goes.step (fun _ k => XS.icmpYes X31.here hx rfl (pc0 := 75) (pc' := 85) rfl (hb hby at_75) rfl (tlt (by decide : (0 : Int32) < (3 : Int32))).1 (by decide) (by decide) k) ?_
        show Goes _ _ _ _ _ _ _ (T31.setTop (mkF m 85 #[.val (.int p0), .val (.long p1), .second, .val (.int p2), .val (.int (0 : Int32)), .val (.int (0 : Int32)), .val (.long u6), .second, .val (.ref r1_0_0), .val (.ref b7), .val (.int (1 : Int32)), .unset, .unset] []))
        refine Goes.step (fun _ k => XS.aload X31.here hx rfl (hb hby at_85) rfl rfl k) ?_
        show Goes _ _ _ _ _ _ _ (T31.setTop (mkF m 87 #[.val (.int p0), .val (.long p1), .second, .val (.int p2), .val (.int (0 : Int32)), .val (.int (0 : Int32)), .val (.long u6), .second, .val (.ref r1_0_0), .val (.ref b7), .val (.int (1 : Int32)), .unset, .unset] [(.ref b7)]))
        obtain ⟨cq32, kq32, q32a, q32b, q32c⟩ := isOf hZ eh31 v17_0_2
        obtain ⟨_, _, ⟨T32, L32, k32, n32⟩, -, X32, ⟨Lc32, hQ32, l32, y32, z32⟩, st32⟩ := X31.virtualBack hx (y := (⟨"com/example/roles_to_grants/rolestogrants/input/ProblemList", "isEmpty", "()Z"⟩ : MethodName)) (z := (⟨"com/example/roles_to_grants/rolestogrants/input/ProblemList", "isEmpty", "()Z"⟩ : MethodName)) hown (mvT hZ (hw _ (List.mem_of_getElem? (i := 60) rfl))) (mvT hZ (hw _ (List.mem_of_getElem? (i := 61) rfl))) (notFace_of_selects (args := #[]) (mvT hZ (hw _ (List.mem_of_getElem? (i := 63) rfl)))) (mvT hZ (hw _ (List.mem_of_getElem? (i := 63) rfl))) (mvT hZ (hw _ (List.mem_of_getElem? (i := 62) rfl))) (by decide) (backOf (W := 0) (rm10 l Z a0 hw [] b7 (0 : Int64) T17.heap n0 Z26 v17_0_1) hZ (hw _ (List.mem_of_getElem? (i := 64) rfl)) (hw _ (List.mem_of_getElem? (i := 29) rfl)) (by decide) (by decide)) q32a q32c (g := (mkF m 87 #[.val (.int p0), .val (.long p1), .second, .val (.int p2), .val (.int (0 : Int32)), .val (.int (0 : Int32)), .val (.long u6), .second, .val (.ref r1_0_0), .val (.ref b7), .val (.int (1 : Int32)), .unset, .unset] [(.ref b7)])) rfl (by rw [hml]; rfl) (Steps.refl _) (argsL := []) (rest := []) (lenOf pd_5 rfl) rfl (by show 2 * 0 + _ ≤ _; exact Nat.le_of_eq rfl) (hb hby at_87) (fun _ _ => ⟨rfl, eh31, (by decide : 4 + 0 ≤ _), (by decide : 10 + 0 ≤ _)⟩)
        dsimp only [Pt.U, Pt.locs, Pt.cells, Pt.slots] at X32 l32 y32 z32 st32 hQ32
        subst l32 y32 z32
        obtain ⟨N32, eh32, hR32⟩ := hQ32
        have NA32 := Fr.app NA31 N32
        rcases hR32 with ⟨rfl, u32_0_0⟩ | ⟨rfl, u32_1_0⟩
        · refine Goes.back st32 ?_
          show Goes _ _ _ _ _ _ _ (T32.setTop (mkF m 90 #[.val (.int p0), .val (.long p1), .second, .val (.int p2), .val (.int (0 : Int32)), .val (.int (0 : Int32)), .val (.long u6), .second, .val (.ref r1_0_0), .val (.ref b7), .val (.int (1 : Int32)), .unset, .unset] [(.int (1 : Int32))]))
          refine Goes.step (fun _ k => XS.istore X32.here hx rfl (hb hby at_90) rfl (l' := #[.val (.int p0), .val (.long p1), .second, .val (.int p2), .val (.int (0 : Int32)), .val (.int (0 : Int32)), .val (.long u6), .second, .val (.ref r1_0_0), .val (.ref b7), .val (.int (1 : Int32)), .val (.int (1 : Int32)), .unset]) rfl k) ?_
          show Goes _ _ _ _ _ _ _ (T32.setTop (mkF m 92 #[.val (.int p0), .val (.long p1), .second, .val (.int p2), .val (.int (0 : Int32)), .val (.int (0 : Int32)), .val (.long u6), .second, .val (.ref r1_0_0), .val (.ref b7), .val (.int (1 : Int32)), .val (.int (1 : Int32)), .unset] []))
          refine Goes.step (fun _ k => XS.aload X32.here hx rfl (hb hby at_92) rfl rfl k) ?_
          show Goes _ _ _ _ _ _ _ (T32.setTop (mkF m 94 #[.val (.int p0), .val (.long p1), .second, .val (.int p2), .val (.int (0 : Int32)), .val (.int (0 : Int32)), .val (.long u6), .second, .val (.ref r1_0_0), .val (.ref b7), .val (.int (1 : Int32)), .val (.int (1 : Int32)), .unset] [(.ref b7)]))
          refine Goes.step (fun _ k => XS.lload X32.here hx rfl (hb hby at_94) rfl  k) ?_
          show Goes _ _ _ _ _ _ _ (T32.setTop (mkF m 96 #[.val (.int p0), .val (.long p1), .second, .val (.int p2), .val (.int (0 : Int32)), .val (.int (0 : Int32)), .val (.long u6), .second, .val (.ref r1_0_0), .val (.ref b7), .val (.int (1 : Int32)), .val (.int (1 : Int32)), .unset] [(.long u6), (.ref b7)]))
          obtain ⟨cq33, kq33, q33a, q33b, q33c⟩ := isOf hZ eh32 v17_0_2
          obtain ⟨_, _, ⟨T33, L33, k33, n33⟩, -, X33, ⟨Lc33, hQ33, l33, y33, z33⟩, st33⟩ := X32.virtualBack hx (y := (⟨"com/example/roles_to_grants/rolestogrants/input/ProblemList", "addUnnamed", "(J)V"⟩ : MethodName)) (z := (⟨"com/example/roles_to_grants/rolestogrants/input/ProblemList", "addUnnamed", "(J)V"⟩ : MethodName)) hown (mvT hZ (hw _ (List.mem_of_getElem? (i := 67) rfl))) (mvT hZ (hw _ (List.mem_of_getElem? (i := 68) rfl))) (notFace_of_selects (args := #[]) (mvT hZ (hw _ (List.mem_of_getElem? (i := 70) rfl)))) (mvT hZ (hw _ (List.mem_of_getElem? (i := 70) rfl))) (mvT hZ (hw _ (List.mem_of_getElem? (i := 69) rfl))) (by decide) (backOf (W := 0) (rm11 l Z a0 hw [] b7 u6 r17_0_0 (0 : Int64) T17.heap n0 Z26 v17_0_0 v17_0_1 v17_0_2 g_b7) hZ (hw _ (List.mem_of_getElem? (i := 71) rfl)) (hw _ (List.mem_of_getElem? (i := 29) rfl)) (by decide) (by decide)) q33a q33c (g := (mkF m 96 #[.val (.int p0), .val (.long p1), .second, .val (.int p2), .val (.int (0 : Int32)), .val (.int (0 : Int32)), .val (.long u6), .second, .val (.ref r1_0_0), .val (.ref b7), .val (.int (1 : Int32)), .val (.int (1 : Int32)), .unset] [(.long u6), (.ref b7)])) rfl (by rw [hml]; rfl) (Steps.refl _) (argsL := [(.long u6)]) (rest := []) (lenOf pd_6 rfl) rfl (by show 2 * 0 + _ ≤ _; exact Nat.le_of_eq rfl) (hb hby at_96) (fun _ _ => ⟨rfl, eh32, (by decide : 4 + 0 ≤ _), (by decide : 10 + 0 ≤ _)⟩)
          dsimp only [Pt.U, Pt.locs, Pt.cells, Pt.slots] at X33 l33 y33 z33 st33 hQ33
          subst l33 y33 z33
          obtain ⟨N33, KK33, hR33⟩ := hQ33
          have NA33 := Fr.app NA32 N33
          have XO34 : Old Z n0 T33.heap := XO18.keep KK33 (allS g_b7 all0)
          have f35 := f19.keep KK33 (ninS ne8 nin0)
          have f36 := f20.keep KK33
          have f37 := f21.keep KK33 (ninS ne10 nin0)
          have f38 := f22.keep KK33 (ninS ne9 nin0)
          have f39 := v17_0_2.keep KK33
          have f42 := v17_0_3.keep KK33
          have f43 := v17_0_4.keep KK33 (ninS (Ne.symm ne30) nin0)
          have f44 := v17_0_5.keep KK33 (ninS (Ne.symm ne30) nin0)
          have f45 := v17_0_6.keep KK33 (ninS (Ne.symm ne30) nin0)
          have K46 : Keep h0 T33.heap [] := K26.trans KK33 (allS (Or.inr sz_b7) all0)
          have Z46 : n0 ≤ T33.heap.size := Nat.le_trans Z26 KK33.1
          obtain ⟨rfl, v33_0_0, v33_0_1, v33_0_2⟩ := hR33
          refine Goes.back st33 ?_
          show Goes _ _ _ _ _ _ _ (T33.setTop (mkF m 99 #[.val (.int p0), .val (.long p1), .second, .val (.int p2), .val (.int (0 : Int32)), .val (.int (0 : Int32)), .val (.long u6), .second, .val (.ref r1_0_0), .val (.ref b7), .val (.int (1 : Int32)), .val (.int (1 : Int32)), .unset] []))
          refine Goes.step (fun _ k => XS.iload X33.here hx rfl (hb hby at_99) rfl  k) ?_
          show Goes _ _ _ _ _ _ _ (T33.setTop (mkF m 101 #[.val (.int p0), .val (.long p1), .second, .val (.int p2), .val (.int (0 : Int32)), .val (.int (0 : Int32)), .val (.long u6), .second, .val (.ref r1_0_0), .val (.ref b7), .val (.int (1 : Int32)), .val (.int (1 : Int32)), .unset] [(.int (0 : Int32))]))
          refine Goes.step (fun _ k => XS.iconst X33.here hx rfl (hb hby at_101) k) ?_
          show Goes _ _ _ _ _ _ _ (T33.setTop (mkF m 102 #[.val (.int p0), .val (.long p1), .second, .val (.int p2), .val (.int (0 : Int32)), .val (.int (0 : Int32)), .val (.long u6), .second, .val (.ref r1_0_0), .val (.ref b7), .val (.int (1 : Int32)), .val (.int (1 : Int32)), .unset] [(.int (1 : Int32)), (.int (0 : Int32))]))
          refine Goes.step (fun _ k => XS.icmpYes X33.here hx rfl (pc0 := 102) (pc' := 112) rfl (hb hby at_102) rfl (feq (by decide : ¬ ((0 : Int32) = (1 : Int32)))).2 (by decide) (by decide) k) ?_
          show Goes _ _ _ _ _ _ _ (T33.setTop (mkF m 112 #[.val (.int p0), .val (.long p1), .second, .val (.int p2), .val (.int (0 : Int32)), .val (.int (0 : Int32)), .val (.long u6), .second, .val (.ref r1_0_0), .val (.ref b7), .val (.int (1 : Int32)), .val (.int (1 : Int32)), .unset] []))
          refine Goes.step (fun _ k => XS.aload X33.here hx rfl (hb hby at_112) rfl rfl k) ?_
          show Goes _ _ _ _ _ _ _ (T33.setTop (mkF m 114 #[.val (.int p0), .val (.long p1), .second, .val (.int p2), .val (.int (0 : Int32)), .val (.int (0 : Int32)), .val (.long u6), .second, .val (.ref r1_0_0), .val (.ref b7), .val (.int (1 : Int32)), .val (.int (1 : Int32)), .unset] [(.ref b7)]))
          obtain ⟨cq47, kq47, q47a, q47b, q47c⟩ := isOf hZ rfl v33_0_2
          obtain ⟨_, _, ⟨T47, L47, k47, n47⟩, -, X47, ⟨Lc47, hQ47, l47, y47, z47⟩, st47⟩ := X33.virtualBack hx (y := (⟨"com/example/roles_to_grants/rolestogrants/input/ProblemList", "isEmpty", "()Z"⟩ : MethodName)) (z := (⟨"com/example/roles_to_grants/rolestogrants/input/ProblemList", "isEmpty", "()Z"⟩ : MethodName)) hown (mvT hZ (hw _ (List.mem_of_getElem? (i := 60) rfl))) (mvT hZ (hw _ (List.mem_of_getElem? (i := 61) rfl))) (notFace_of_selects (args := #[]) (mvT hZ (hw _ (List.mem_of_getElem? (i := 63) rfl)))) (mvT hZ (hw _ (List.mem_of_getElem? (i := 63) rfl))) (mvT hZ (hw _ (List.mem_of_getElem? (i := 62) rfl))) (by decide) (backOf (W := 0) (rm10 l Z a0 hw [] b7 ((0 : Int64) + u6) T33.heap n0 Z46 v33_0_1) hZ (hw _ (List.mem_of_getElem? (i := 64) rfl)) (hw _ (List.mem_of_getElem? (i := 29) rfl)) (by decide) (by decide)) q47a q47c (g := (mkF m 114 #[.val (.int p0), .val (.long p1), .second, .val (.int p2), .val (.int (0 : Int32)), .val (.int (0 : Int32)), .val (.long u6), .second, .val (.ref r1_0_0), .val (.ref b7), .val (.int (1 : Int32)), .val (.int (1 : Int32)), .unset] [(.ref b7)])) rfl (by rw [hml]; rfl) (Steps.refl _) (argsL := []) (rest := []) (lenOf pd_5 rfl) rfl (by show 2 * 0 + _ ≤ _; exact Nat.le_of_eq rfl) (hb hby at_114) (fun _ _ => ⟨rfl, rfl, (by decide : 4 + 0 ≤ _), (by decide : 10 + 0 ≤ _)⟩)
          dsimp only [Pt.U, Pt.locs, Pt.cells, Pt.slots] at X47 l47 y47 z47 st47 hQ47
          subst l47 y47 z47
          obtain ⟨N47, eh47, hR47⟩ := hQ47
          have NA47 := Fr.app NA33 N47
          rcases hR47 with ⟨rfl, u47_0_0⟩ | ⟨rfl, u47_1_0⟩
          · refine Goes.back st47 ?_
            show Goes _ _ _ _ _ _ _ (T47.setTop (mkF m 117 #[.val (.int p0), .val (.long p1), .second, .val (.int p2), .val (.int (0 : Int32)), .val (.int (0 : Int32)), .val (.long u6), .second, .val (.ref r1_0_0), .val (.ref b7), .val (.int (1 : Int32)), .val (.int (1 : Int32)), .unset] [(.int (1 : Int32))]))
            refine Goes.step (fun _ k => XS.istore X47.here hx rfl (hb hby at_117) rfl (l' := #[.val (.int p0), .val (.long p1), .second, .val (.int p2), .val (.int (0 : Int32)), .val (.int (0 : Int32)), .val (.long u6), .second, .val (.ref r1_0_0), .val (.ref b7), .val (.int (1 : Int32)), .val (.int (1 : Int32)), .val (.int (1 : Int32))]) rfl k) ?_
            show Goes _ _ _ _ _ _ _ (T47.setTop (mkF m 119 #[.val (.int p0), .val (.long p1), .second, .val (.int p2), .val (.int (0 : Int32)), .val (.int (0 : Int32)), .val (.long u6), .second, .val (.ref r1_0_0), .val (.ref b7), .val (.int (1 : Int32)), .val (.int (1 : Int32)), .val (.int (1 : Int32))] []))
            refine Goes.step (fun _ k => XS.iload X47.here hx rfl (hb hby at_119) rfl  k) ?_
            show Goes _ _ _ _ _ _ _ (T47.setTop (mkF m 121 #[.val (.int p0), .val (.long p1), .second, .val (.int p2), .val (.int (0 : Int32)), .val (.int (0 : Int32)), .val (.long u6), .second, .val (.ref r1_0_0), .val (.ref b7), .val (.int (1 : Int32)), .val (.int (1 : Int32)), .val (.int (1 : Int32))] [(.int (1 : Int32))]))
            refine Goes.step (fun _ k => XS.ifNo X47.here hx rfl (hb hby at_121) rfl ((if0 _ _).trans (feq (by decide : ¬ ((1 : Int32) = (0 : Int32)))).1) k) ?_
            show Goes _ _ _ _ _ _ _ (T47.setTop (mkF m 124 #[.val (.int p0), .val (.long p1), .second, .val (.int p2), .val (.int (0 : Int32)), .val (.int (0 : Int32)), .val (.long u6), .second, .val (.ref r1_0_0), .val (.ref b7), .val (.int (1 : Int32)), .val (.int (1 : Int32)), .val (.int (1 : Int32))] []))
            refine Goes.step (fun _ k => XS.iload X47.here hx rfl (hb hby at_124) rfl  k) ?_
            show Goes _ _ _ _ _ _ _ (T47.setTop (mkF m 126 #[.val (.int p0), .val (.long p1), .second, .val (.int p2), .val (.int (0 : Int32)), .val (.int (0 : Int32)), .val (.long u6), .second, .val (.ref r1_0_0), .val (.ref b7), .val (.int (1 : Int32)), .val (.int (1 : Int32)), .val (.int (1 : Int32))] [(.int (1 : Int32))]))
            refine Goes.step (fun _ k => XS.iload X47.here hx rfl (hb hby at_126) rfl  k) ?_
            show Goes _ _ _ _ _ _ _ (T47.setTop (mkF m 128 #[.val (.int p0), .val (.long p1), .second, .val (.int p2), .val (.int (0 : Int32)), .val (.int (0 : Int32)), .val (.long u6), .second, .val (.ref r1_0_0), .val (.ref b7), .val (.int (1 : Int32)), .val (.int (1 : Int32)), .val (.int (1 : Int32))] [(.int (0 : Int32)), (.int (1 : Int32))]))
            refine Goes.step (fun _ k => XS.ifNo X47.here hx rfl (hb hby at_128) rfl ((if0 _ _).trans (teq (by decide : (0 : Int32) = (0 : Int32))).2) k) ?_
            show Goes _ _ _ _ _ _ _ (T47.setTop (mkF m 131 #[.val (.int p0), .val (.long p1), .second, .val (.int p2), .val (.int (0 : Int32)), .val (.int (0 : Int32)), .val (.long u6), .second, .val (.ref r1_0_0), .val (.ref b7), .val (.int (1 : Int32)), .val (.int (1 : Int32)), .val (.int (1 : Int32))] [(.int (1 : Int32))]))
            refine Goes.step (fun _ k => XS.iconst X47.here hx rfl (hb hby at_131) k) ?_
            show Goes _ _ _ _ _ _ _ (T47.setTop (mkF m 132 #[.val (.int p0), .val (.long p1), .second, .val (.int p2), .val (.int (0 : Int32)), .val (.int (0 : Int32)), .val (.long u6), .second, .val (.ref r1_0_0), .val (.ref b7), .val (.int (1 : Int32)), .val (.int (1 : Int32)), .val (.int (1 : Int32))] [(.int (1 : Int32)), (.int (1 : Int32))]))
            refine Goes.step (fun _ k => XS.goto X47.here hx rfl (pc0 := 132) (pc' := 136) rfl (hb hby at_132) (by decide) (by decide) k) ?_
            show Goes _ _ _ _ _ _ _ (T47.setTop (mkF m 136 #[.val (.int p0), .val (.long p1), .second, .val (.int p2), .val (.int (0 : Int32)), .val (.int (0 : Int32)), .val (.long u6), .second, .val (.ref r1_0_0), .val (.ref b7), .val (.int (1 : Int32)), .val (.int (1 : Int32)), .val (.int (1 : Int32))] [(.int (1 : Int32)), (.int (1 : Int32))]))
            refine Goes.step (fun _ k => XS.icmpNo X47.here hx rfl (hb hby at_136) rfl (teq (by decide : (1 : Int32) = (1 : Int32))).2 k) ?_
            show Goes _ _ _ _ _ _ _ (T47.setTop (mkF m 139 #[.val (.int p0), .val (.long p1), .second, .val (.int p2), .val (.int (0 : Int32)), .val (.int (0 : Int32)), .val (.long u6), .second, .val (.ref r1_0_0), .val (.ref b7), .val (.int (1 : Int32)), .val (.int (1 : Int32)), .val (.int (1 : Int32))] []))
            refine Goes.step (fun _ k => XS.iload X47.here hx rfl (hb hby at_139) rfl  k) ?_
            show Goes _ _ _ _ _ _ _ (T47.setTop (mkF m 141 #[.val (.int p0), .val (.long p1), .second, .val (.int p2), .val (.int (0 : Int32)), .val (.int (0 : Int32)), .val (.long u6), .second, .val (.ref r1_0_0), .val (.ref b7), .val (.int (1 : Int32)), .val (.int (1 : Int32)), .val (.int (1 : Int32))] [(.int (1 : Int32))]))
            refine Goes.step (fun _ k => XS.iload X47.here hx rfl (hb hby at_141) rfl  k) ?_
            show Goes _ _ _ _ _ _ _ (T47.setTop (mkF m 143 #[.val (.int p0), .val (.long p1), .second, .val (.int p2), .val (.int (0 : Int32)), .val (.int (0 : Int32)), .val (.long u6), .second, .val (.ref r1_0_0), .val (.ref b7), .val (.int (1 : Int32)), .val (.int (1 : Int32)), .val (.int (1 : Int32))] [(.int (0 : Int32)), (.int (1 : Int32))]))
            refine Goes.step (fun _ k => XS.ifNo X47.here hx rfl (hb hby at_143) rfl ((if0 _ _).trans (teq (by decide : (0 : Int32) = (0 : Int32))).2) k) ?_
            show Goes _ _ _ _ _ _ _ (T47.setTop (mkF m 146 #[.val (.int p0), .val (.long p1), .second, .val (.int p2), .val (.int (0 : Int32)), .val (.int (0 : Int32)), .val (.long u6), .second, .val (.ref r1_0_0), .val (.ref b7), .val (.int (1 : Int32)), .val (.int (1 : Int32)), .val (.int (1 : Int32))] [(.int (1 : Int32))]))
            refine Goes.step (fun _ k => XS.lload X47.here hx rfl (hb hby at_146) rfl  k) ?_
            show Goes _ _ _ _ _ _ _ (T47.setTop (mkF m 148 #[.val (.int p0), .val (.long p1), .second, .val (.int p2), .val (.int (0 : Int32)), .val (.int (0 : Int32)), .val (.long u6), .second, .val (.ref r1_0_0), .val (.ref b7), .val (.int (1 : Int32)), .val (.int (1 : Int32)), .val (.int (1 : Int32))] [(.long u6), (.int (1 : Int32))]))
            refine Goes.step (fun _ k => XS.lconst X47.here hx rfl (hb hby at_148) k) ?_
            show Goes _ _ _ _ _ _ _ (T47.setTop (mkF m 149 #[.val (.int p0), .val (.long p1), .second, .val (.int p2), .val (.int (0 : Int32)), .val (.int (0 : Int32)), .val (.long u6), .second, .val (.ref r1_0_0), .val (.ref b7), .val (.int (1 : Int32)), .val (.int (1 : Int32)), .val (.int (1 : Int32))] [(.long (0 : Int64)), (.long u6), (.int (1 : Int32))]))
            refine Goes.step (fun _ k => XS.lcmp X47.here hx rfl (hb hby at_149) rfl k) ?_
            show Goes _ _ _ _ _ _ _ (T47.setTop (mkF m 150 #[.val (.int p0), .val (.long p1), .second, .val (.int p2), .val (.int (0 : Int32)), .val (.int (0 : Int32)), .val (.long u6), .second, .val (.ref r1_0_0), .val (.ref b7), .val (.int (1 : Int32)), .val (.int (1 : Int32)), .val (.int (1 : Int32))] [(.int (lcmpW u6 (0 : Int64))), (.int (1 : Int32))]))
            refine Goes.step (fun _ k => XS.ifNo X47.here hx rfl (hb hby at_150) rfl ((if0 _ _).trans (teq ((lw_eq _ _).mpr (own_z u47_0_0))).2) k) ?_
            show Goes _ _ _ _ _ _ _ (T47.setTop (mkF m 153 #[.val (.int p0), .val (.long p1), .second, .val (.int p2), .val (.int (0 : Int32)), .val (.int (0 : Int32)), .val (.long u6), .second, .val (.ref r1_0_0), .val (.ref b7), .val (.int (1 : Int32)), .val (.int (1 : Int32)), .val (.int (1 : Int32))] [(.int (1 : Int32))]))
            refine Goes.step (fun _ k => XS.iload X47.here hx rfl (hb hby at_153) rfl  k) ?_
            show Goes _ _ _ _ _ _ _ (T47.setTop (mkF m 155 #[.val (.int p0), .val (.long p1), .second, .val (.int p2), .val (.int (0 : Int32)), .val (.int (0 : Int32)), .val (.long u6), .second, .val (.ref r1_0_0), .val (.ref b7), .val (.int (1 : Int32)), .val (.int (1 : Int32)), .val (.int (1 : Int32))] [(.int (0 : Int32)), (.int (1 : Int32))]))
            refine Goes.step (fun _ k => XS.ifNo X47.here hx rfl (hb hby at_155) rfl ((if0 _ _).trans (teq (by decide : (0 : Int32) = (0 : Int32))).2) k) ?_
            show Goes _ _ _ _ _ _ _ (T47.setTop (mkF m 158 #[.val (.int p0), .val (.long p1), .second, .val (.int p2), .val (.int (0 : Int32)), .val (.int (0 : Int32)), .val (.long u6), .second, .val (.ref r1_0_0), .val (.ref b7), .val (.int (1 : Int32)), .val (.int (1 : Int32)), .val (.int (1 : Int32))] [(.int (1 : Int32))]))
            refine Goes.step (fun _ k => XS.iconst X47.here hx rfl (hb hby at_158) k) ?_
            show Goes _ _ _ _ _ _ _ (T47.setTop (mkF m 159 #[.val (.int p0), .val (.long p1), .second, .val (.int p2), .val (.int (0 : Int32)), .val (.int (0 : Int32)), .val (.long u6), .second, .val (.ref r1_0_0), .val (.ref b7), .val (.int (1 : Int32)), .val (.int (1 : Int32)), .val (.int (1 : Int32))] [(.int (1 : Int32)), (.int (1 : Int32))]))
            refine Goes.step (fun _ k => XS.goto X47.here hx rfl (pc0 := 159) (pc' := 163) rfl (hb hby at_159) (by decide) (by decide) k) ?_
            show Goes _ _ _ _ _ _ _ (T47.setTop (mkF m 163 #[.val (.int p0), .val (.long p1), .second, .val (.int p2), .val (.int (0 : Int32)), .val (.int (0 : Int32)), .val (.long u6), .second, .val (.ref r1_0_0), .val (.ref b7), .val (.int (1 : Int32)), .val (.int (1 : Int32)), .val (.int (1 : Int32))] [(.int (1 : Int32)), (.int (1 : Int32))]))
            refine Goes.step (fun _ k => XS.icmpNo X47.here hx rfl (hb hby at_163) rfl (teq (by decide : (1 : Int32) = (1 : Int32))).2 k) ?_
            show Goes _ _ _ _ _ _ _ (T47.setTop (mkF m 166 #[.val (.int p0), .val (.long p1), .second, .val (.int p2), .val (.int (0 : Int32)), .val (.int (0 : Int32)), .val (.long u6), .second, .val (.ref r1_0_0), .val (.ref b7), .val (.int (1 : Int32)), .val (.int (1 : Int32)), .val (.int (1 : Int32))] []))
            refine Goes.step (fun _ k => XS.iconst X47.here hx rfl (hb hby at_166) k) ?_
            show Goes _ _ _ _ _ _ _ (T47.setTop (mkF m 167 #[.val (.int p0), .val (.long p1), .second, .val (.int p2), .val (.int (0 : Int32)), .val (.int (0 : Int32)), .val (.long u6), .second, .val (.ref r1_0_0), .val (.ref b7), .val (.int (1 : Int32)), .val (.int (1 : Int32)), .val (.int (1 : Int32))] [(.int (1 : Int32))]))
            refine Goes.step (fun _ k => XS.goto X47.here hx rfl (pc0 := 167) (pc' := 171) rfl (hb hby at_167) (by decide) (by decide) k) ?_
            show Goes _ _ _ _ _ _ _ (T47.setTop (mkF m 171 #[.val (.int p0), .val (.long p1), .second, .val (.int p2), .val (.int (0 : Int32)), .val (.int (0 : Int32)), .val (.long u6), .second, .val (.ref r1_0_0), .val (.ref b7), .val (.int (1 : Int32)), .val (.int (1 : Int32)), .val (.int (1 : Int32))] [(.int (1 : Int32))]))
            exact Goes.ret X47 hx (BodyLoose.notSynchronized Bd) Bd.returns rfl (Or.inl ⟨rfl, by simp, _, rfl⟩) (hb hby at_171) (by show Q0 Z p0 p1 p2 zC de kde h0 n0 (some (.int (1 : Int32))) T47.heap _; rw [eh47]; exact ⟨rfl, NA47⟩) (by decide) (by decide)
          · refine Goes.back st47 ?_
            show Goes _ _ _ _ _ _ _ (T47.setTop (mkF m 117 #[.val (.int p0), .val (.long p1), .second, .val (.int p2), .val (.int (0 : Int32)), .val (.int (0 : Int32)), .val (.long u6), .second, .val (.ref r1_0_0), .val (.ref b7), .val (.int (1 : Int32)), .val (.int (1 : Int32)), .unset] [(.int (0 : Int32))]))
            refine Goes.step (fun _ k => XS.istore X47.here hx rfl (hb hby at_117) rfl (l' := #[.val (.int p0), .val (.long p1), .second, .val (.int p2), .val (.int (0 : Int32)), .val (.int (0 : Int32)), .val (.long u6), .second, .val (.ref r1_0_0), .val (.ref b7), .val (.int (1 : Int32)), .val (.int (1 : Int32)), .val (.int (0 : Int32))]) rfl k) ?_
            show Goes _ _ _ _ _ _ _ (T47.setTop (mkF m 119 #[.val (.int p0), .val (.long p1), .second, .val (.int p2), .val (.int (0 : Int32)), .val (.int (0 : Int32)), .val (.long u6), .second, .val (.ref r1_0_0), .val (.ref b7), .val (.int (1 : Int32)), .val (.int (1 : Int32)), .val (.int (0 : Int32))] []))
            refine Goes.step (fun _ k => XS.iload X47.here hx rfl (hb hby at_119) rfl  k) ?_
            show Goes _ _ _ _ _ _ _ (T47.setTop (mkF m 121 #[.val (.int p0), .val (.long p1), .second, .val (.int p2), .val (.int (0 : Int32)), .val (.int (0 : Int32)), .val (.long u6), .second, .val (.ref r1_0_0), .val (.ref b7), .val (.int (1 : Int32)), .val (.int (1 : Int32)), .val (.int (0 : Int32))] [(.int (1 : Int32))]))
            refine Goes.step (fun _ k => XS.ifNo X47.here hx rfl (hb hby at_121) rfl ((if0 _ _).trans (feq (by decide : ¬ ((1 : Int32) = (0 : Int32)))).1) k) ?_
            show Goes _ _ _ _ _ _ _ (T47.setTop (mkF m 124 #[.val (.int p0), .val (.long p1), .second, .val (.int p2), .val (.int (0 : Int32)), .val (.int (0 : Int32)), .val (.long u6), .second, .val (.ref r1_0_0), .val (.ref b7), .val (.int (1 : Int32)), .val (.int (1 : Int32)), .val (.int (0 : Int32))] []))
            refine Goes.step (fun _ k => XS.iload X47.here hx rfl (hb hby at_124) rfl  k) ?_
            show Goes _ _ _ _ _ _ _ (T47.setTop (mkF m 126 #[.val (.int p0), .val (.long p1), .second, .val (.int p2), .val (.int (0 : Int32)), .val (.int (0 : Int32)), .val (.long u6), .second, .val (.ref r1_0_0), .val (.ref b7), .val (.int (1 : Int32)), .val (.int (1 : Int32)), .val (.int (0 : Int32))] [(.int (1 : Int32))]))
            refine Goes.step (fun _ k => XS.iload X47.here hx rfl (hb hby at_126) rfl  k) ?_
            show Goes _ _ _ _ _ _ _ (T47.setTop (mkF m 128 #[.val (.int p0), .val (.long p1), .second, .val (.int p2), .val (.int (0 : Int32)), .val (.int (0 : Int32)), .val (.long u6), .second, .val (.ref r1_0_0), .val (.ref b7), .val (.int (1 : Int32)), .val (.int (1 : Int32)), .val (.int (0 : Int32))] [(.int (0 : Int32)), (.int (1 : Int32))]))
            refine Goes.step (fun _ k => XS.ifNo X47.here hx rfl (hb hby at_128) rfl ((if0 _ _).trans (teq (by decide : (0 : Int32) = (0 : Int32))).2) k) ?_
            show Goes _ _ _ _ _ _ _ (T47.setTop (mkF m 131 #[.val (.int p0), .val (.long p1), .second, .val (.int p2), .val (.int (0 : Int32)), .val (.int (0 : Int32)), .val (.long u6), .second, .val (.ref r1_0_0), .val (.ref b7), .val (.int (1 : Int32)), .val (.int (1 : Int32)), .val (.int (0 : Int32))] [(.int (1 : Int32))]))
            refine Goes.step (fun _ k => XS.iconst X47.here hx rfl (hb hby at_131) k) ?_
            show Goes _ _ _ _ _ _ _ (T47.setTop (mkF m 132 #[.val (.int p0), .val (.long p1), .second, .val (.int p2), .val (.int (0 : Int32)), .val (.int (0 : Int32)), .val (.long u6), .second, .val (.ref r1_0_0), .val (.ref b7), .val (.int (1 : Int32)), .val (.int (1 : Int32)), .val (.int (0 : Int32))] [(.int (1 : Int32)), (.int (1 : Int32))]))
            refine Goes.step (fun _ k => XS.goto X47.here hx rfl (pc0 := 132) (pc' := 136) rfl (hb hby at_132) (by decide) (by decide) k) ?_
            show Goes _ _ _ _ _ _ _ (T47.setTop (mkF m 136 #[.val (.int p0), .val (.long p1), .second, .val (.int p2), .val (.int (0 : Int32)), .val (.int (0 : Int32)), .val (.long u6), .second, .val (.ref r1_0_0), .val (.ref b7), .val (.int (1 : Int32)), .val (.int (1 : Int32)), .val (.int (0 : Int32))] [(.int (1 : Int32)), (.int (1 : Int32))]))
            refine Goes.step (fun _ k => XS.icmpNo X47.here hx rfl (hb hby at_136) rfl (teq (by decide : (1 : Int32) = (1 : Int32))).2 k) ?_
            show Goes _ _ _ _ _ _ _ (T47.setTop (mkF m 139 #[.val (.int p0), .val (.long p1), .second, .val (.int p2), .val (.int (0 : Int32)), .val (.int (0 : Int32)), .val (.long u6), .second, .val (.ref r1_0_0), .val (.ref b7), .val (.int (1 : Int32)), .val (.int (1 : Int32)), .val (.int (0 : Int32))] []))
            refine Goes.step (fun _ k => XS.iload X47.here hx rfl (hb hby at_139) rfl  k) ?_
            show Goes _ _ _ _ _ _ _ (T47.setTop (mkF m 141 #[.val (.int p0), .val (.long p1), .second, .val (.int p2), .val (.int (0 : Int32)), .val (.int (0 : Int32)), .val (.long u6), .second, .val (.ref r1_0_0), .val (.ref b7), .val (.int (1 : Int32)), .val (.int (1 : Int32)), .val (.int (0 : Int32))] [(.int (0 : Int32))]))
            refine Goes.step (fun _ k => XS.iload X47.here hx rfl (hb hby at_141) rfl  k) ?_
            show Goes _ _ _ _ _ _ _ (T47.setTop (mkF m 143 #[.val (.int p0), .val (.long p1), .second, .val (.int p2), .val (.int (0 : Int32)), .val (.int (0 : Int32)), .val (.long u6), .second, .val (.ref r1_0_0), .val (.ref b7), .val (.int (1 : Int32)), .val (.int (1 : Int32)), .val (.int (0 : Int32))] [(.int (0 : Int32)), (.int (0 : Int32))]))
            refine Goes.step (fun _ k => XS.ifNo X47.here hx rfl (hb hby at_143) rfl ((if0 _ _).trans (teq (by decide : (0 : Int32) = (0 : Int32))).2) k) ?_
            show Goes _ _ _ _ _ _ _ (T47.setTop (mkF m 146 #[.val (.int p0), .val (.long p1), .second, .val (.int p2), .val (.int (0 : Int32)), .val (.int (0 : Int32)), .val (.long u6), .second, .val (.ref r1_0_0), .val (.ref b7), .val (.int (1 : Int32)), .val (.int (1 : Int32)), .val (.int (0 : Int32))] [(.int (0 : Int32))]))
            refine Goes.step (fun _ k => XS.lload X47.here hx rfl (hb hby at_146) rfl  k) ?_
            show Goes _ _ _ _ _ _ _ (T47.setTop (mkF m 148 #[.val (.int p0), .val (.long p1), .second, .val (.int p2), .val (.int (0 : Int32)), .val (.int (0 : Int32)), .val (.long u6), .second, .val (.ref r1_0_0), .val (.ref b7), .val (.int (1 : Int32)), .val (.int (1 : Int32)), .val (.int (0 : Int32))] [(.long u6), (.int (0 : Int32))]))
            refine Goes.step (fun _ k => XS.lconst X47.here hx rfl (hb hby at_148) k) ?_
            show Goes _ _ _ _ _ _ _ (T47.setTop (mkF m 149 #[.val (.int p0), .val (.long p1), .second, .val (.int p2), .val (.int (0 : Int32)), .val (.int (0 : Int32)), .val (.long u6), .second, .val (.ref r1_0_0), .val (.ref b7), .val (.int (1 : Int32)), .val (.int (1 : Int32)), .val (.int (0 : Int32))] [(.long (0 : Int64)), (.long u6), (.int (0 : Int32))]))
            refine Goes.step (fun _ k => XS.lcmp X47.here hx rfl (hb hby at_149) rfl k) ?_
            show Goes _ _ _ _ _ _ _ (T47.setTop (mkF m 150 #[.val (.int p0), .val (.long p1), .second, .val (.int p2), .val (.int (0 : Int32)), .val (.int (0 : Int32)), .val (.long u6), .second, .val (.ref r1_0_0), .val (.ref b7), .val (.int (1 : Int32)), .val (.int (1 : Int32)), .val (.int (0 : Int32))] [(.int (lcmpW u6 (0 : Int64))), (.int (0 : Int32))]))
            refine Goes.step (fun _ k => XS.ifYes X47.here hx rfl (pc0 := 150) (pc' := 162) rfl (hb hby at_150) rfl ((if0 _ _).trans (feq (fun q => (own_z' u47_1_0) ((lw_eq _ _).mp q))).2) (by decide) (by decide) k) ?_
            show Goes _ _ _ _ _ _ _ (T47.setTop (mkF m 162 #[.val (.int p0), .val (.long p1), .second, .val (.int p2), .val (.int (0 : Int32)), .val (.int (0 : Int32)), .val (.long u6), .second, .val (.ref r1_0_0), .val (.ref b7), .val (.int (1 : Int32)), .val (.int (1 : Int32)), .val (.int (0 : Int32))] [(.int (0 : Int32))]))
            refine Goes.step (fun _ k => XS.iconst X47.here hx rfl (hb hby at_162) k) ?_
            show Goes _ _ _ _ _ _ _ (T47.setTop (mkF m 163 #[.val (.int p0), .val (.long p1), .second, .val (.int p2), .val (.int (0 : Int32)), .val (.int (0 : Int32)), .val (.long u6), .second, .val (.ref r1_0_0), .val (.ref b7), .val (.int (1 : Int32)), .val (.int (1 : Int32)), .val (.int (0 : Int32))] [(.int (0 : Int32)), (.int (0 : Int32))]))
            refine Goes.step (fun _ k => XS.icmpNo X47.here hx rfl (hb hby at_163) rfl (teq (by decide : (0 : Int32) = (0 : Int32))).2 k) ?_
            show Goes _ _ _ _ _ _ _ (T47.setTop (mkF m 166 #[.val (.int p0), .val (.long p1), .second, .val (.int p2), .val (.int (0 : Int32)), .val (.int (0 : Int32)), .val (.long u6), .second, .val (.ref r1_0_0), .val (.ref b7), .val (.int (1 : Int32)), .val (.int (1 : Int32)), .val (.int (0 : Int32))] []))
            refine Goes.step (fun _ k => XS.iconst X47.here hx rfl (hb hby at_166) k) ?_
            show Goes _ _ _ _ _ _ _ (T47.setTop (mkF m 167 #[.val (.int p0), .val (.long p1), .second, .val (.int p2), .val (.int (0 : Int32)), .val (.int (0 : Int32)), .val (.long u6), .second, .val (.ref r1_0_0), .val (.ref b7), .val (.int (1 : Int32)), .val (.int (1 : Int32)), .val (.int (0 : Int32))] [(.int (1 : Int32))]))
            refine Goes.step (fun _ k => XS.goto X47.here hx rfl (pc0 := 167) (pc' := 171) rfl (hb hby at_167) (by decide) (by decide) k) ?_
            show Goes _ _ _ _ _ _ _ (T47.setTop (mkF m 171 #[.val (.int p0), .val (.long p1), .second, .val (.int p2), .val (.int (0 : Int32)), .val (.int (0 : Int32)), .val (.long u6), .second, .val (.ref r1_0_0), .val (.ref b7), .val (.int (1 : Int32)), .val (.int (1 : Int32)), .val (.int (0 : Int32))] [(.int (1 : Int32))]))
            exact Goes.ret X47 hx (BodyLoose.notSynchronized Bd) Bd.returns rfl (Or.inl ⟨rfl, by simp, _, rfl⟩) (hb hby at_171) (by show Q0 Z p0 p1 p2 zC de kde h0 n0 (some (.int (1 : Int32))) T47.heap _; rw [eh47]; exact ⟨rfl, NA47⟩) (by decide) (by decide)
        · exact absurd (by decide : (0 : Int64) = (0 : Int64)) u32_1_0
      · exact absurd (by decide : (0 : Int64) = (0 : Int64)) u31_1_0
    · show Goes _ _ _ _ _ _ _ (s₁.setTop (mkF m 12 #[.val (.int p0), .val (.long p1), .second, .val (.int p2), .val (.int (0 : Int32)), .val (.int (1 : Int32)), .unset, .unset, .unset, .unset, .unset, .unset, .unset] []))
      refine Goes.step (fun _ k => XS.lloadN X0.here hx rfl (hb hby at_12) rfl  k) ?_
      show Goes _ _ _ _ _ _ _ (s₁.setTop (mkF m 13 #[.val (.int p0), .val (.long p1), .second, .val (.int p2), .val (.int (0 : Int32)), .val (.int (1 : Int32)), .unset, .unset, .unset, .unset, .unset, .unset, .unset] [(.long p1)]))
      refine Goes.step (fun _ k => X0.ldc2Long hx hown (mvT hZ (hw _ (List.mem_of_getElem? (i := 0) rfl))) (g := (mkF m 13 #[.val (.int p0), .val (.long p1), .second, .val (.int p2), .val (.int (0 : Int32)), .val (.int (1 : Int32)), .unset, .unset, .unset, .unset, .unset, .unset, .unset] [(.long p1)])) rfl (hb hby at_13) _ k) ?_
      show Goes _ _ _ _ _ _ _ (s₁.setTop (mkF m 16 #[.val (.int p0), .val (.long p1), .second, .val (.int p2), .val (.int (0 : Int32)), .val (.int (1 : Int32)), .unset, .unset, .unset, .unset, .unset, .unset, .unset] [(.long (9223372036854775807 : Int64)), (.long p1)]))
      refine Goes.step (fun _ k => XS.land X0.here hx rfl (hb hby at_16) rfl k) ?_
      show Goes _ _ _ _ _ _ _ (s₁.setTop (mkF m 17 #[.val (.int p0), .val (.long p1), .second, .val (.int p2), .val (.int (0 : Int32)), .val (.int (1 : Int32)), .unset, .unset, .unset, .unset, .unset, .unset, .unset] [(.long (p1 &&& (9223372036854775807 : Int64)))]))
      refine Goes.step (fun _ k => XS.lstore X0.here hx rfl (hb hby at_17) rfl (l' := #[.val (.int p0), .val (.long p1), .second, .val (.int p2), .val (.int (0 : Int32)), .val (.int (1 : Int32)), .val (.long (p1 &&& (9223372036854775807 : Int64))), .second, .unset, .unset, .unset, .unset, .unset]) rfl k) ?_
      show Goes _ _ _ _ _ _ _ (s₁.setTop (mkF m 19 #[.val (.int p0), .val (.long p1), .second, .val (.int p2), .val (.int (0 : Int32)), .val (.int (1 : Int32)), .val (.long (p1 &&& (9223372036854775807 : Int64))), .second, .unset, .unset, .unset, .unset, .unset] []))
      generalize hg_u6 : (p1 &&& (9223372036854775807 : Int64)) = u6
      show Goes _ _ _ _ _ _ _ (s₁.setTop (mkF m 19 #[.val (.int p0), .val (.long p1), .second, .val (.int p2), .val (.int (0 : Int32)), .val (.int (1 : Int32)), .val (.long u6), .second, .unset, .unset, .unset, .unset, .unset] []))
      refine Goes.step (fun _ k => XS.iloadN X0.here hx rfl (hb hby at_19) rfl  k) ?_
      show Goes _ _ _ _ _ _ _ (s₁.setTop (mkF m 20 #[.val (.int p0), .val (.long p1), .second, .val (.int p2), .val (.int (0 : Int32)), .val (.int (1 : Int32)), .val (.long u6), .second, .unset, .unset, .unset, .unset, .unset] [(.int p2)]))
      refine Goes.step (fun _ k => XS.sipush X0.here hx rfl (hb hby at_20) k) ?_
      show Goes _ _ _ _ _ _ _ (s₁.setTop (mkF m 23 #[.val (.int p0), .val (.long p1), .second, .val (.int p2), .val (.int (0 : Int32)), .val (.int (1 : Int32)), .val (.long u6), .second, .unset, .unset, .unset, .unset, .unset] [(.int (255 : Int32)), (.int p2)]))
      refine Goes.step (fun _ k => XS.iand X0.here hx rfl (hb hby at_23) rfl k) ?_
      show Goes _ _ _ _ _ _ _ (s₁.setTop (mkF m 24 #[.val (.int p0), .val (.long p1), .second, .val (.int p2), .val (.int (0 : Int32)), .val (.int (1 : Int32)), .val (.long u6), .second, .unset, .unset, .unset, .unset, .unset] [(.int (p2 &&& (255 : Int32)))]))
      refine Goes.step (fun _ k => XS.i2c X0.here hx rfl (hb hby at_24) rfl k) ?_
      show Goes _ _ _ _ _ _ _ (s₁.setTop (mkF m 25 #[.val (.int p0), .val (.long p1), .second, .val (.int p2), .val (.int (0 : Int32)), .val (.int (1 : Int32)), .val (.long u6), .second, .unset, .unset, .unset, .unset, .unset] [(.int ((p2 &&& (255 : Int32)).toUInt32.toUInt16.toUInt32.toInt32))]))
      obtain ⟨_, _, ⟨T48, L48, k48, n48⟩, -, X48, ⟨Lc48, hQ48, l48, y48, z48⟩, st48⟩ := Jvm.LawKit.callS X0 hx (y := (⟨"java/lang/String", "valueOf", "(C)Ljava/lang/String;"⟩ : MethodName)) hown (mvT hZ (hw _ (List.mem_of_getElem? (i := 1) rfl))) (mvT hZ (hw _ (List.mem_of_getElem? (i := 2) rfl))) (mvT hZ (hw _ (List.mem_of_getElem? (i := 3) rfl))) (mvT hZ (hw _ (List.mem_of_getElem? (i := 4) rfl))) (by decide) (backOf (W := 0) (rm1 l Z a0 hw [] ((p2 &&& (255 : Int32)).toUInt32.toUInt16.toUInt32.toInt32) zC h0 n0 Z0 S_CS X00 P5 (own_char _)) hZ (hw _ (List.mem_of_getElem? (i := 4) rfl)) (hw _ (List.mem_of_getElem? (i := 3) rfl)) (by decide) (by decide)) (g := (mkF m 25 #[.val (.int p0), .val (.long p1), .second, .val (.int p2), .val (.int (0 : Int32)), .val (.int (1 : Int32)), .val (.long u6), .second, .unset, .unset, .unset, .unset, .unset] [(.int ((p2 &&& (255 : Int32)).toUInt32.toUInt16.toUInt32.toInt32))])) rfl (by rw [hml]; rfl) (argsL := [(.int ((p2 &&& (255 : Int32)).toUInt32.toUInt16.toUInt32.toInt32))]) (rest := []) (lenOf pd_0 rfl) rfl (by show 2 * 0 + _ ≤ _; exact Nat.le_of_eq rfl) (hb hby at_25) (fun _ _ => ⟨rfl, e0, (by decide : 0 + 2 ≤ _), (by decide : 0 + 5 ≤ _)⟩)
      dsimp only [Pt.U, Pt.locs, Pt.cells, Pt.slots] at X48 l48 y48 z48 st48 hQ48
      subst l48 y48 z48
      obtain ⟨N48, KK48, hR48⟩ := hQ48
      have NA48 := Fr.app N0 N48
      have XO49 : Old Z n0 T48.heap := X00.keep KK48 all0
      have f50 := V_de.keep KK48 nin0
      have K51 : Keep h0 T48.heap [] := K0.trans KK48 all0
      have Z51 : n0 ≤ T48.heap.size := Nat.le_trans Z0 KK48.1
      obtain ⟨r48_0_0, r48_0_1, kk48_0_0, rfl, u48_0_0, g_r48_0_0, le_r48_0_0, g_r48_0_1, le_r48_0_1, nn48_0_0, v48_0_0, v48_0_1, v48_0_2⟩ := hR48
      have ne52 : de ≠ r48_0_0 := Nat.ne_of_lt (Nat.lt_of_lt_of_le V_de.lt le_r48_0_0)
      have sz_r48_0_0 : h0.size ≤ r48_0_0 := Nat.le_trans K0.1 le_r48_0_0
      have ne53 : de ≠ r48_0_1 := Nat.ne_of_lt (Nat.lt_of_lt_of_le V_de.lt le_r48_0_1)
      have sz_r48_0_1 : h0.size ≤ r48_0_1 := Nat.le_trans K0.1 le_r48_0_1
      refine Goes.step st48 ?_
      show Goes _ _ _ _ _ _ _ (T48.setTop (mkF m 28 #[.val (.int p0), .val (.long p1), .second, .val (.int p2), .val (.int (0 : Int32)), .val (.int (1 : Int32)), .val (.long u6), .second, .unset, .unset, .unset, .unset, .unset] [(.ref r48_0_0)]))
      refine Goes.step (fun _ k => XS.astore X48.here hx rfl (hb hby at_28) rfl rfl (l' := #[.val (.int p0), .val (.long p1), .second, .val (.int p2), .val (.int (0 : Int32)), .val (.int (1 : Int32)), .val (.long u6), .second, .val (.ref r48_0_0), .unset, .unset, .unset, .unset]) rfl k) ?_
      show Goes _ _ _ _ _ _ _ (T48.setTop (mkF m 30 #[.val (.int p0), .val (.long p1), .second, .val (.int p2), .val (.int (0 : Int32)), .val (.int (1 : Int32)), .val (.long u6), .second, .val (.ref r48_0_0), .unset, .unset, .unset, .unset] []))
      obtain ⟨T54, h54, X54, e54, E54, A54, D54, -, st54⟩ := newO X48 hx hZ hown (hw _ (List.mem_of_getElem? (i := 27) rfl)) (hw _ (List.mem_of_getElem? (i := 28) rfl)) (hw _ (List.mem_of_getElem? (i := 29) rfl)) rfl (g := (mkF m 30 #[.val (.int p0), .val (.long p1), .second, .val (.int p2), .val (.int (0 : Int32)), .val (.int (1 : Int32)), .val (.long u6), .second, .val (.ref r48_0_0), .unset, .unset, .unset, .unset] [])) rfl (hb hby at_30) (by decide) (by decide)
      obtain ⟨b54, g54⟩ : ∃ z, z = T48.heap.size := ⟨_, rfl⟩
      rw [← g54] at A54 D54 st54
      refine Goes.step st54 ?_
      have g_b54 : n0 ≤ b54 := Nat.le_trans Z51 (Nat.le_of_eq g54.symm)
      have sz_b54 : h0.size ≤ b54 := Nat.le_trans K51.1 (Nat.le_of_eq g54.symm)
      have ne55 : de ≠ b54 := Nat.ne_of_lt (Nat.lt_of_lt_of_le f50.lt (Nat.le_of_eq g54.symm))
      have ne56 : r48_0_0 ≠ b54 := Nat.ne_of_lt (Nat.lt_of_lt_of_le v48_0_0.lt (Nat.le_of_eq g54.symm))
      have ne57 : r48_0_1 ≠ b54 := Nat.ne_of_lt (Nat.lt_of_lt_of_le v48_0_1.lt (Nat.le_of_eq g54.symm))
      have XO58 : Old Z n0 h54 := XO49.ext E54
      have f59 := f50.ext E54
      have f60 := v48_0_0.ext E54
      have f61 := v48_0_1.ext E54
      have f62 := v48_0_2.ext E54
      have K63 : Keep h0 h54 [] := K51.ext E54
      have Z63 : n0 ≤ h54.size := Nat.le_trans Z51 E54.1
      have E_b54 := A54
      have F_named_b54 : Fld Z h54 b54 "com/example/roles_to_grants/rolestogrants/input/ProblemList" "named" "Ljava/util/List;" .null := D54 (Or.inr (hw _ (List.mem_of_getElem? (i := 59) rfl))) (ty := (.object "java/util/List")) (by decide)
      have F_count_b54 : Fld Z h54 b54 "com/example/roles_to_grants/rolestogrants/input/ProblemList" "count" "J" (.long (0 : Int64)) := D54 (Or.inl (hw _ (List.mem_of_getElem? (i := 66) rfl))) (ty := .long) (by decide)
      show Goes _ _ _ _ _ _ _ (T54.setTop (mkF m 33 #[.val (.int p0), .val (.long p1), .second, .val (.int p2), .val (.int (0 : Int32)), .val (.int (1 : Int32)), .val (.long u6), .second, .val (.ref r48_0_0), .unset, .unset, .unset, .unset] [(.ref b54)]))
      refine Goes.step (fun _ k => XS.dup X54.here hx rfl (hb hby at_33) rfl rfl k) ?_
      show Goes _ _ _ _ _ _ _ (T54.setTop (mkF m 34 #[.val (.int p0), .val (.long p1), .second, .val (.int p2), .val (.int (0 : Int32)), .val (.int (1 : Int32)), .val (.long u6), .second, .val (.ref r48_0_0), .unset, .unset, .unset, .unset] [(.ref b54), (.ref b54)]))
      obtain ⟨_, _, ⟨T64, L64, k64, n64⟩, -, X64, ⟨Lc64, hQ64, l64, y64, z64⟩, st64⟩ := X54.specialBack hx (y := (⟨"com/example/roles_to_grants/rolestogrants/input/ProblemList", "<init>", "()V"⟩ : MethodName)) rfl hown (mvT hZ (hw _ (List.mem_of_getElem? (i := 30) rfl))) (mvT hZ (hw _ (List.mem_of_getElem? (i := 31) rfl))) (mvT hZ (hw _ (List.mem_of_getElem? (i := 32) rfl))) (by decide) (backOf (W := 1) (rm6 l Z a0 hw [] b54 de h54 n0 Z63 S_DE XO58 F_named_b54 F_count_b54 E_b54 g_b54) hZ (hw _ (List.mem_of_getElem? (i := 32) rfl)) (hw _ (List.mem_of_getElem? (i := 29) rfl)) (by decide) (by decide)) (g := (mkF m 34 #[.val (.int p0), .val (.long p1), .second, .val (.int p2), .val (.int (0 : Int32)), .val (.int (1 : Int32)), .val (.long u6), .second, .val (.ref r48_0_0), .unset, .unset, .unset, .unset] [(.ref b54), (.ref b54)])) rfl (by rw [hml]; rfl) (Steps.refl _) (a := b54) (argsL := []) (rest := [(.ref b54)]) (lenOf pd_4 rfl) rfl (by show 2 * 0 + _ ≤ _; exact Nat.le_of_eq rfl) (hb hby at_34) (fun _ _ => ⟨rfl, e54, (by decide : 3 + 1 ≤ _), (by decide : 7 + 3 ≤ _)⟩)
      dsimp only [Pt.U, Pt.locs, Pt.cells, Pt.slots] at X64 l64 y64 z64 st64 hQ64
      subst l64 y64 z64
      obtain ⟨N64, KK64, hR64⟩ := hQ64
      have NA64 := Fr.app NA48 N64
      have XO65 : Old Z n0 T64.heap := XO58.keep KK64 (allS g_b54 all0)
      have f66 := f59.keep KK64 (ninS ne55 nin0)
      have f67 := f60.keep KK64
      have f68 := f61.keep KK64 (ninS ne57 nin0)
      have f69 := f62.keep KK64 (ninS ne56 nin0)
      have f70 := E_b54.keep KK64
      have K73 : Keep h0 T64.heap [] := K63.trans KK64 (allS (Or.inr sz_b54) all0)
      have Z73 : n0 ≤ T64.heap.size := Nat.le_trans Z63 KK64.1
      obtain ⟨r64_0_0, rfl, g_r64_0_0, le_r64_0_0, v64_0_0, v64_0_1, v64_0_2, v64_0_3, v64_0_4, v64_0_5, v64_0_6⟩ := hR64
      have ne74 : de ≠ r64_0_0 := Nat.ne_of_lt (Nat.lt_of_lt_of_le f59.lt le_r64_0_0)
      have ne75 : r48_0_0 ≠ r64_0_0 := Nat.ne_of_lt (Nat.lt_of_lt_of_le f60.lt le_r64_0_0)
      have ne76 : r48_0_1 ≠ r64_0_0 := Nat.ne_of_lt (Nat.lt_of_lt_of_le f61.lt le_r64_0_0)
      have ne77 : b54 ≠ r64_0_0 := Nat.ne_of_lt (Nat.lt_of_lt_of_le E_b54.lt le_r64_0_0)
      have sz_r64_0_0 : h0.size ≤ r64_0_0 := Nat.le_trans K63.1 le_r64_0_0
      refine Goes.back st64 ?_
      show Goes _ _ _ _ _ _ _ (T64.setTop (mkF m 37 #[.val (.int p0), .val (.long p1), .second, .val (.int p2), .val (.int (0 : Int32)), .val (.int (1 : Int32)), .val (.long u6), .second, .val (.ref r48_0_0), .unset, .unset, .unset, .unset] [(.ref b54)]))
      refine Goes.step (fun _ k => XS.astore X64.here hx rfl (hb hby at_37) rfl rfl (l' := #[.val (.int p0), .val (.long p1), .second, .val (.int p2), .val (.int (0 : Int32)), .val (.int (1 : Int32)), .val (.long u6), .second, .val (.ref r48_0_0), .val (.ref b54), .unset, .unset, .unset]) rfl k) ?_
      show Goes _ _ _ _ _ _ _ (T64.setTop (mkF m 39 #[.val (.int p0), .val (.long p1), .second, .val (.int p2), .val (.int (0 : Int32)), .val (.int (1 : Int32)), .val (.long u6), .second, .val (.ref r48_0_0), .val (.ref b54), .unset, .unset, .unset] []))
      refine Goes.step (fun _ k => XS.aload X64.here hx rfl (hb hby at_39) rfl rfl k) ?_
      show Goes _ _ _ _ _ _ _ (T64.setTop (mkF m 41 #[.val (.int p0), .val (.long p1), .second, .val (.int p2), .val (.int (0 : Int32)), .val (.int (1 : Int32)), .val (.long u6), .second, .val (.ref r48_0_0), .val (.ref b54), .unset, .unset, .unset] [(.ref b54)]))
      obtain ⟨cq78, kq78, q78a, q78b, q78c⟩ := isOf hZ rfl v64_0_2
      obtain ⟨_, _, ⟨T78, L78, k78, n78⟩, -, X78, ⟨Lc78, hQ78, l78, y78, z78⟩, st78⟩ := X64.virtualBack hx (y := (⟨"com/example/roles_to_grants/rolestogrants/input/ProblemList", "isEmpty", "()Z"⟩ : MethodName)) (z := (⟨"com/example/roles_to_grants/rolestogrants/input/ProblemList", "isEmpty", "()Z"⟩ : MethodName)) hown (mvT hZ (hw _ (List.mem_of_getElem? (i := 60) rfl))) (mvT hZ (hw _ (List.mem_of_getElem? (i := 61) rfl))) (notFace_of_selects (args := #[]) (mvT hZ (hw _ (List.mem_of_getElem? (i := 63) rfl)))) (mvT hZ (hw _ (List.mem_of_getElem? (i := 63) rfl))) (mvT hZ (hw _ (List.mem_of_getElem? (i := 62) rfl))) (by decide) (backOf (W := 0) (rm10 l Z a0 hw [] b54 (0 : Int64) T64.heap n0 Z73 v64_0_1) hZ (hw _ (List.mem_of_getElem? (i := 64) rfl)) (hw _ (List.mem_of_getElem? (i := 29) rfl)) (by decide) (by decide)) q78a q78c (g := (mkF m 41 #[.val (.int p0), .val (.long p1), .second, .val (.int p2), .val (.int (0 : Int32)), .val (.int (1 : Int32)), .val (.long u6), .second, .val (.ref r48_0_0), .val (.ref b54), .unset, .unset, .unset] [(.ref b54)])) rfl (by rw [hml]; rfl) (Steps.refl _) (argsL := []) (rest := []) (lenOf pd_5 rfl) rfl (by show 2 * 0 + _ ≤ _; exact Nat.le_of_eq rfl) (hb hby at_41) (fun _ _ => ⟨rfl, rfl, (by decide : 4 + 0 ≤ _), (by decide : 10 + 0 ≤ _)⟩)
      dsimp only [Pt.U, Pt.locs, Pt.cells, Pt.slots] at X78 l78 y78 z78 st78 hQ78
      subst l78 y78 z78
      obtain ⟨N78, eh78, hR78⟩ := hQ78
      have NA78 := Fr.app NA64 N78
      rcases hR78 with ⟨rfl, u78_0_0⟩ | ⟨rfl, u78_1_0⟩
      · refine Goes.back st78 ?_
        show Goes _ _ _ _ _ _ _ (T78.setTop (mkF m 44 #[.val (.int p0), .val (.long p1), .second, .val (.int p2), .val (.int (0 : Int32)), .val (.int (1 : Int32)), .val (.long u6), .second, .val (.ref r48_0_0), .val (.ref b54), .unset, .unset, .unset] [(.int (1 : Int32))]))
        refine Goes.step (fun _ k => XS.istore X78.here hx rfl (hb hby at_44) rfl (l' := #[.val (.int p0), .val (.long p1), .second, .val (.int p2), .val (.int (0 : Int32)), .val (.int (1 : Int32)), .val (.long u6), .second, .val (.ref r48_0_0), .val (.ref b54), .val (.int (1 : Int32)), .unset, .unset]) rfl k) ?_
        show Goes _ _ _ _ _ _ _ (T78.setTop (mkF m 46 #[.val (.int p0), .val (.long p1), .second, .val (.int p2), .val (.int (0 : Int32)), .val (.int (1 : Int32)), .val (.long u6), .second, .val (.ref r48_0_0), .val (.ref b54), .val (.int (1 : Int32)), .unset, .unset] []))
        refine Goes.step (fun _ k => XS.iload X78.here hx rfl (hb hby at_46) rfl  k) ?_
        show Goes _ _ _ _ _ _ _ (T78.setTop (mkF m 48 #[.val (.int p0), .val (.long p1), .second, .val (.int p2), .val (.int (0 : Int32)), .val (.int (1 : Int32)), .val (.long u6), .second, .val (.ref r48_0_0), .val (.ref b54), .val (.int (1 : Int32)), .unset, .unset] [(.int (0 : Int32))]))
        refine Goes.step (fun _ k => XS.iconst X78.here hx rfl (hb hby at_48) k) ?_
        show Goes _ _ _ _ _ _ _ (T78.setTop (mkF m 49 #[.val (.int p0), .val (.long p1), .second, .val (.int p2), .val (.int (0 : Int32)), .val (.int (1 : Int32)), .val (.long u6), .second, .val (.ref r48_0_0), .val (.ref b54), .val (.int (1 : Int32)), .unset, .unset] [(.int (1 : Int32)), (.int (0 : Int32))]))
        refine Goes.step (fun _ k => XS.icmpYes X78.here hx rfl (pc0 := 49) (pc' := 59) rfl (hb hby at_49) rfl (tlt (by decide : (0 : Int32) < (1 : Int32))).1 (by decide) (by decide) k) ?_
        show Goes _ _ _ _ _ _ _ (T78.setTop (mkF m 59 #[.val (.int p0), .val (.long p1), .second, .val (.int p2), .val (.int (0 : Int32)), .val (.int (1 : Int32)), .val (.long u6), .second, .val (.ref r48_0_0), .val (.ref b54), .val (.int (1 : Int32)), .unset, .unset] []))
        refine Goes.step (fun _ k => XS.iload X78.here hx rfl (hb hby at_59) rfl  k) ?_
        show Goes _ _ _ _ _ _ _ (T78.setTop (mkF m 61 #[.val (.int p0), .val (.long p1), .second, .val (.int p2), .val (.int (0 : Int32)), .val (.int (1 : Int32)), .val (.long u6), .second, .val (.ref r48_0_0), .val (.ref b54), .val (.int (1 : Int32)), .unset, .unset] [(.int (0 : Int32))]))
        refine Goes.step (fun _ k => XS.iconst X78.here hx rfl (hb hby at_61) k) ?_
        show Goes _ _ _ _ _ _ _ (T78.setTop (mkF m 62 #[.val (.int p0), .val (.long p1), .second, .val (.int p2), .val (.int (0 : Int32)), .val (.int (1 : Int32)), .val (.long u6), .second, .val (.ref r48_0_0), .val (.ref b54), .val (.int (1 : Int32)), .unset, .unset] [(.int (2 : Int32)), (.int (0 : Int32))]))
        refine Goes.step (fun _ k => XS.icmpYes X78.here hx rfl (pc0 := 62) (pc' := 72) rfl (hb hby at_62) rfl (tlt (by decide : (0 : Int32) < (2 : Int32))).1 (by decide) (by decide) k) ?_
        show Goes _ _ _ _ _ _ _ (T78.setTop (mkF m 72 #[.val (.int p0), .val (.long p1), .second, .val (.int p2), .val (.int (0 : Int32)), .val (.int (1 : Int32)), .val (.long u6), .second, .val (.ref r48_0_0), .val (.ref b54), .val (.int (1 : Int32)), .unset, .unset] []))
        refine Goes.step (fun _ k => XS.iload X78.here hx rfl (hb hby at_72) rfl  k) ?_
        show Goes _ _ _ _ _ _ _ (T78.setTop (mkF m 74 #[.val (.int p0), .val (.long p1), .second, .val (.int p2), .val (.int (0 : Int32)), .val (.int (1 : Int32)), .val (.long u6), .second, .val (.ref r48_0_0), .val (.ref b54), .val (.int (1 : Int32)), .unset, .unset] [(.int (0 : Int32))]))
        refine Goes.step (fun _ k => XS.iconst X78.here hx rfl (hb hby at_74) k) ?_
        show Goes _ _ _ _ _ _ _ (T78.setTop (mkF m 75 #[.val (.int p0), .val (.long p1), .second, .val (.int p2), .val (.int (0 : Int32)), .val (.int (1 : Int32)), .val (.long u6), .second, .val (.ref r48_0_0), .val (.ref b54), .val (.int (1 : Int32)), .unset, .unset] [(.int (3 : Int32)), (.int (0 : Int32))]))
        refine Goes.step (fun _ k => XS.icmpYes X78.here hx rfl (pc0 := 75) (pc' := 85) rfl (hb hby at_75) rfl (tlt (by decide : (0 : Int32) < (3 : Int32))).1 (by decide) (by decide) k) ?_
        show Goes _ _ _ _ _ _ _ (T78.setTop (mkF m 85 #[.val (.int p0), .val (.long p1), .second, .val (.int p2), .val (.int (0 : Int32)), .val (.int (1 : Int32)), .val (.long u6), .second, .val (.ref r48_0_0), .val (.ref b54), .val (.int (1 : Int32)), .unset, .unset] []))
        refine Goes.step (fun _ k => XS.aload X78.here hx rfl (hb hby at_85) rfl rfl k) ?_
        show Goes _ _ _ _ _ _ _ (T78.setTop (mkF m 87 #[.val (.int p0), .val (.long p1), .second, .val (.int p2), .val (.int (0 : Int32)), .val (.int (1 : Int32)), .val (.long u6), .second, .val (.ref r48_0_0), .val (.ref b54), .val (.int (1 : Int32)), .unset, .unset] [(.ref b54)]))
        obtain ⟨cq79, kq79, q79a, q79b, q79c⟩ := isOf hZ eh78 v64_0_2
        obtain ⟨_, _, ⟨T79, L79, k79, n79⟩, -, X79, ⟨Lc79, hQ79, l79, y79, z79⟩, st79⟩ := X78.virtualBack hx (y := (⟨"com/example/roles_to_grants/rolestogrants/input/ProblemList", "isEmpty", "()Z"⟩ : MethodName)) (z := (⟨"com/example/roles_to_grants/rolestogrants/input/ProblemList", "isEmpty", "()Z"⟩ : MethodName)) hown (mvT hZ (hw _ (List.mem_of_getElem? (i := 60) rfl))) (mvT hZ (hw _ (List.mem_of_getElem? (i := 61) rfl))) (notFace_of_selects (args := #[]) (mvT hZ (hw _ (List.mem_of_getElem? (i := 63) rfl)))) (mvT hZ (hw _ (List.mem_of_getElem? (i := 63) rfl))) (mvT hZ (hw _ (List.mem_of_getElem? (i := 62) rfl))) (by decide) (backOf (W := 0) (rm10 l Z a0 hw [] b54 (0 : Int64) T64.heap n0 Z73 v64_0_1) hZ (hw _ (List.mem_of_getElem? (i := 64) rfl)) (hw _ (List.mem_of_getElem? (i := 29) rfl)) (by decide) (by decide)) q79a q79c (g := (mkF m 87 #[.val (.int p0), .val (.long p1), .second, .val (.int p2), .val (.int (0 : Int32)), .val (.int (1 : Int32)), .val (.long u6), .second, .val (.ref r48_0_0), .val (.ref b54), .val (.int (1 : Int32)), .unset, .unset] [(.ref b54)])) rfl (by rw [hml]; rfl) (Steps.refl _) (argsL := []) (rest := []) (lenOf pd_5 rfl) rfl (by show 2 * 0 + _ ≤ _; exact Nat.le_of_eq rfl) (hb hby at_87) (fun _ _ => ⟨rfl, eh78, (by decide : 4 + 0 ≤ _), (by decide : 10 + 0 ≤ _)⟩)
        dsimp only [Pt.U, Pt.locs, Pt.cells, Pt.slots] at X79 l79 y79 z79 st79 hQ79
        subst l79 y79 z79
        obtain ⟨N79, eh79, hR79⟩ := hQ79
        have NA79 := Fr.app NA78 N79
        rcases hR79 with ⟨rfl, u79_0_0⟩ | ⟨rfl, u79_1_0⟩
        · refine Goes.back st79 ?_
          show Goes _ _ _ _ _ _ _ (T79.setTop (mkF m 90 #[.val (.int p0), .val (.long p1), .second, .val (.int p2), .val (.int (0 : Int32)), .val (.int (1 : Int32)), .val (.long u6), .second, .val (.ref r48_0_0), .val (.ref b54), .val (.int (1 : Int32)), .unset, .unset] [(.int (1 : Int32))]))
          refine Goes.step (fun _ k => XS.istore X79.here hx rfl (hb hby at_90) rfl (l' := #[.val (.int p0), .val (.long p1), .second, .val (.int p2), .val (.int (0 : Int32)), .val (.int (1 : Int32)), .val (.long u6), .second, .val (.ref r48_0_0), .val (.ref b54), .val (.int (1 : Int32)), .val (.int (1 : Int32)), .unset]) rfl k) ?_
          show Goes _ _ _ _ _ _ _ (T79.setTop (mkF m 92 #[.val (.int p0), .val (.long p1), .second, .val (.int p2), .val (.int (0 : Int32)), .val (.int (1 : Int32)), .val (.long u6), .second, .val (.ref r48_0_0), .val (.ref b54), .val (.int (1 : Int32)), .val (.int (1 : Int32)), .unset] []))
          refine Goes.step (fun _ k => XS.aload X79.here hx rfl (hb hby at_92) rfl rfl k) ?_
          show Goes _ _ _ _ _ _ _ (T79.setTop (mkF m 94 #[.val (.int p0), .val (.long p1), .second, .val (.int p2), .val (.int (0 : Int32)), .val (.int (1 : Int32)), .val (.long u6), .second, .val (.ref r48_0_0), .val (.ref b54), .val (.int (1 : Int32)), .val (.int (1 : Int32)), .unset] [(.ref b54)]))
          refine Goes.step (fun _ k => XS.lload X79.here hx rfl (hb hby at_94) rfl  k) ?_
          show Goes _ _ _ _ _ _ _ (T79.setTop (mkF m 96 #[.val (.int p0), .val (.long p1), .second, .val (.int p2), .val (.int (0 : Int32)), .val (.int (1 : Int32)), .val (.long u6), .second, .val (.ref r48_0_0), .val (.ref b54), .val (.int (1 : Int32)), .val (.int (1 : Int32)), .unset] [(.long u6), (.ref b54)]))
          obtain ⟨cq80, kq80, q80a, q80b, q80c⟩ := isOf hZ eh79 v64_0_2
          obtain ⟨_, _, ⟨T80, L80, k80, n80⟩, -, X80, ⟨Lc80, hQ80, l80, y80, z80⟩, st80⟩ := X79.virtualBack hx (y := (⟨"com/example/roles_to_grants/rolestogrants/input/ProblemList", "addUnnamed", "(J)V"⟩ : MethodName)) (z := (⟨"com/example/roles_to_grants/rolestogrants/input/ProblemList", "addUnnamed", "(J)V"⟩ : MethodName)) hown (mvT hZ (hw _ (List.mem_of_getElem? (i := 67) rfl))) (mvT hZ (hw _ (List.mem_of_getElem? (i := 68) rfl))) (notFace_of_selects (args := #[]) (mvT hZ (hw _ (List.mem_of_getElem? (i := 70) rfl)))) (mvT hZ (hw _ (List.mem_of_getElem? (i := 70) rfl))) (mvT hZ (hw _ (List.mem_of_getElem? (i := 69) rfl))) (by decide) (backOf (W := 0) (rm11 l Z a0 hw [] b54 u6 r64_0_0 (0 : Int64) T64.heap n0 Z73 v64_0_0 v64_0_1 v64_0_2 g_b54) hZ (hw _ (List.mem_of_getElem? (i := 71) rfl)) (hw _ (List.mem_of_getElem? (i := 29) rfl)) (by decide) (by decide)) q80a q80c (g := (mkF m 96 #[.val (.int p0), .val (.long p1), .second, .val (.int p2), .val (.int (0 : Int32)), .val (.int (1 : Int32)), .val (.long u6), .second, .val (.ref r48_0_0), .val (.ref b54), .val (.int (1 : Int32)), .val (.int (1 : Int32)), .unset] [(.long u6), (.ref b54)])) rfl (by rw [hml]; rfl) (Steps.refl _) (argsL := [(.long u6)]) (rest := []) (lenOf pd_6 rfl) rfl (by show 2 * 0 + _ ≤ _; exact Nat.le_of_eq rfl) (hb hby at_96) (fun _ _ => ⟨rfl, eh79, (by decide : 4 + 0 ≤ _), (by decide : 10 + 0 ≤ _)⟩)
          dsimp only [Pt.U, Pt.locs, Pt.cells, Pt.slots] at X80 l80 y80 z80 st80 hQ80
          subst l80 y80 z80
          obtain ⟨N80, KK80, hR80⟩ := hQ80
          have NA80 := Fr.app NA79 N80
          have XO81 : Old Z n0 T80.heap := XO65.keep KK80 (allS g_b54 all0)
          have f82 := f66.keep KK80 (ninS ne55 nin0)
          have f83 := f67.keep KK80
          have f84 := f68.keep KK80 (ninS ne57 nin0)
          have f85 := f69.keep KK80 (ninS ne56 nin0)
          have f86 := v64_0_2.keep KK80
          have f89 := v64_0_3.keep KK80
          have f90 := v64_0_4.keep KK80 (ninS (Ne.symm ne77) nin0)
          have f91 := v64_0_5.keep KK80 (ninS (Ne.symm ne77) nin0)
          have f92 := v64_0_6.keep KK80 (ninS (Ne.symm ne77) nin0)
          have K93 : Keep h0 T80.heap [] := K73.trans KK80 (allS (Or.inr sz_b54) all0)
          have Z93 : n0 ≤ T80.heap.size := Nat.le_trans Z73 KK80.1
          obtain ⟨rfl, v80_0_0, v80_0_1, v80_0_2⟩ := hR80
          refine Goes.back st80 ?_
          show Goes _ _ _ _ _ _ _ (T80.setTop (mkF m 99 #[.val (.int p0), .val (.long p1), .second, .val (.int p2), .val (.int (0 : Int32)), .val (.int (1 : Int32)), .val (.long u6), .second, .val (.ref r48_0_0), .val (.ref b54), .val (.int (1 : Int32)), .val (.int (1 : Int32)), .unset] []))
          refine Goes.step (fun _ k => XS.iload X80.here hx rfl (hb hby at_99) rfl  k) ?_
          show Goes _ _ _ _ _ _ _ (T80.setTop (mkF m 101 #[.val (.int p0), .val (.long p1), .second, .val (.int p2), .val (.int (0 : Int32)), .val (.int (1 : Int32)), .val (.long u6), .second, .val (.ref r48_0_0), .val (.ref b54), .val (.int (1 : Int32)), .val (.int (1 : Int32)), .unset] [(.int (1 : Int32))]))
          refine Goes.step (fun _ k => XS.iconst X80.here hx rfl (hb hby at_101) k) ?_
          show Goes _ _ _ _ _ _ _ (T80.setTop (mkF m 102 #[.val (.int p0), .val (.long p1), .second, .val (.int p2), .val (.int (0 : Int32)), .val (.int (1 : Int32)), .val (.long u6), .second, .val (.ref r48_0_0), .val (.ref b54), .val (.int (1 : Int32)), .val (.int (1 : Int32)), .unset] [(.int (1 : Int32)), (.int (1 : Int32))]))
          refine Goes.step (fun _ k => XS.icmpNo X80.here hx rfl (hb hby at_102) rfl (teq (by decide : (1 : Int32) = (1 : Int32))).2 k) ?_
          show Goes _ _ _ _ _ _ _ (T80.setTop (mkF m 105 #[.val (.int p0), .val (.long p1), .second, .val (.int p2), .val (.int (0 : Int32)), .val (.int (1 : Int32)), .val (.long u6), .second, .val (.ref r48_0_0), .val (.ref b54), .val (.int (1 : Int32)), .val (.int (1 : Int32)), .unset] []))
          refine Goes.step (fun _ k => XS.aload X80.here hx rfl (hb hby at_105) rfl rfl k) ?_
          show Goes _ _ _ _ _ _ _ (T80.setTop (mkF m 107 #[.val (.int p0), .val (.long p1), .second, .val (.int p2), .val (.int (0 : Int32)), .val (.int (1 : Int32)), .val (.long u6), .second, .val (.ref r48_0_0), .val (.ref b54), .val (.int (1 : Int32)), .val (.int (1 : Int32)), .unset] [(.ref b54)]))
          refine Goes.step (fun _ k => XS.aload X80.here hx rfl (hb hby at_107) rfl rfl k) ?_
          show Goes _ _ _ _ _ _ _ (T80.setTop (mkF m 109 #[.val (.int p0), .val (.long p1), .second, .val (.int p2), .val (.int (0 : Int32)), .val (.int (1 : Int32)), .val (.long u6), .second, .val (.ref r48_0_0), .val (.ref b54), .val (.int (1 : Int32)), .val (.int (1 : Int32)), .unset] [(.ref r48_0_0), (.ref b54)]))
          obtain ⟨cq94, kq94, q94a, q94b, q94c⟩ := isOf hZ rfl v80_0_2
          obtain ⟨_, _, ⟨T94, L94, k94, n94⟩, -, X94, ⟨Lc94, hQ94, l94, y94, z94⟩, st94⟩ := X80.virtualBack hx (y := (⟨"com/example/roles_to_grants/rolestogrants/input/ProblemList", "add", "(Ljava/lang/String;)V"⟩ : MethodName)) (z := (⟨"com/example/roles_to_grants/rolestogrants/input/ProblemList", "add", "(Ljava/lang/String;)V"⟩ : MethodName)) hown (mvT hZ (hw _ (List.mem_of_getElem? (i := 72) rfl))) (mvT hZ (hw _ (List.mem_of_getElem? (i := 73) rfl))) (notFace_of_selects (args := #[]) (mvT hZ (hw _ (List.mem_of_getElem? (i := 75) rfl)))) (mvT hZ (hw _ (List.mem_of_getElem? (i := 75) rfl))) (mvT hZ (hw _ (List.mem_of_getElem? (i := 74) rfl))) (by decide) (backOf (W := 0) (rm12_0 l Z a0 hw [] b54 r48_0_0 de r64_0_0 ((0 : Int64) + u6) (0 : Int32) kde T80.heap n0 Z93 S_DE XO81 v80_0_0 v80_0_1 f90 f91 f92 v80_0_2 f89 f83 f82 g_b54 g_r64_0_0 ne55 ne74 ne77) hZ (hw _ (List.mem_of_getElem? (i := 76) rfl)) (hw _ (List.mem_of_getElem? (i := 29) rfl)) (by decide) (by decide)) q94a q94c (g := (mkF m 109 #[.val (.int p0), .val (.long p1), .second, .val (.int p2), .val (.int (0 : Int32)), .val (.int (1 : Int32)), .val (.long u6), .second, .val (.ref r48_0_0), .val (.ref b54), .val (.int (1 : Int32)), .val (.int (1 : Int32)), .unset] [(.ref r48_0_0), (.ref b54)])) rfl (by rw [hml]; rfl) (Steps.refl _) (argsL := [(.ref r48_0_0)]) (rest := []) (lenOf pd_7 rfl) rfl (by show 2 * 0 + _ ≤ _; exact Nat.le_of_eq rfl) (hb hby at_109) (fun _ _ => ⟨rfl, rfl, (by decide : 4 + 1 ≤ _), (by decide : 10 + 10 ≤ _)⟩)
          dsimp only [Pt.U, Pt.locs, Pt.cells, Pt.slots] at X94 l94 y94 z94 st94 hQ94
          subst l94 y94 z94
          obtain ⟨N94, KK94, hR94⟩ := hQ94
          have NA94 := Fr.app NA80 N94
          have XO95 : Old Z n0 T94.heap := XO81.keep KK94 (allS g_b54 (allS g_r64_0_0 all0))
          have f96 := f82.keep KK94 (ninS ne55 (ninS ne74 nin0))
          have f97 := f83.keep KK94
          have f98 := f84.keep KK94 (ninS ne57 (ninS ne76 nin0))
          have f99 := f85.keep KK94 (ninS ne56 (ninS ne75 nin0))
          have f100 := v80_0_2.keep KK94
          have f101 := f89.keep KK94
          have K107 : Keep h0 T94.heap [] := K93.trans KK94 (allS (Or.inr sz_b54) (allS (Or.inr sz_r64_0_0) all0))
          have Z107 : n0 ≤ T94.heap.size := Nat.le_trans Z93 KK94.1
          obtain ⟨r94_0_0, kk94_0_0, rfl, g_r94_0_0, le_r94_0_0, v94_0_0, v94_0_1, v94_0_2, v94_0_3, v94_0_4, v94_0_5, v94_0_6, v94_0_7, oo94_0_0⟩ := hR94
          have ne108 : de ≠ r94_0_0 := Nat.ne_of_lt (Nat.lt_of_lt_of_le f82.lt le_r94_0_0)
          have ne109 : r48_0_0 ≠ r94_0_0 := Nat.ne_of_lt (Nat.lt_of_lt_of_le f83.lt le_r94_0_0)
          have ne110 : r48_0_1 ≠ r94_0_0 := Nat.ne_of_lt (Nat.lt_of_lt_of_le f84.lt le_r94_0_0)
          have ne111 : b54 ≠ r94_0_0 := Nat.ne_of_lt (Nat.lt_of_lt_of_le v80_0_2.lt le_r94_0_0)
          have ne112 : r64_0_0 ≠ r94_0_0 := Nat.ne_of_lt (Nat.lt_of_lt_of_le f89.lt le_r94_0_0)
          have sz_r94_0_0 : h0.size ≤ r94_0_0 := Nat.le_trans K93.1 le_r94_0_0
          refine Goes.back st94 ?_
          show Goes _ _ _ _ _ _ _ (T94.setTop (mkF m 112 #[.val (.int p0), .val (.long p1), .second, .val (.int p2), .val (.int (0 : Int32)), .val (.int (1 : Int32)), .val (.long u6), .second, .val (.ref r48_0_0), .val (.ref b54), .val (.int (1 : Int32)), .val (.int (1 : Int32)), .unset] []))
          refine Goes.step (fun _ k => XS.aload X94.here hx rfl (hb hby at_112) rfl rfl k) ?_
          show Goes _ _ _ _ _ _ _ (T94.setTop (mkF m 114 #[.val (.int p0), .val (.long p1), .second, .val (.int p2), .val (.int (0 : Int32)), .val (.int (1 : Int32)), .val (.long u6), .second, .val (.ref r48_0_0), .val (.ref b54), .val (.int (1 : Int32)), .val (.int (1 : Int32)), .unset] [(.ref b54)]))
          obtain ⟨cq113, kq113, q113a, q113b, q113c⟩ := isOf hZ rfl v94_0_2
          obtain ⟨_, _, ⟨T113, L113, k113, n113⟩, -, X113, ⟨Lc113, hQ113, l113, y113, z113⟩, st113⟩ := X94.virtualBack hx (y := (⟨"com/example/roles_to_grants/rolestogrants/input/ProblemList", "isEmpty", "()Z"⟩ : MethodName)) (z := (⟨"com/example/roles_to_grants/rolestogrants/input/ProblemList", "isEmpty", "()Z"⟩ : MethodName)) hown (mvT hZ (hw _ (List.mem_of_getElem? (i := 60) rfl))) (mvT hZ (hw _ (List.mem_of_getElem? (i := 61) rfl))) (notFace_of_selects (args := #[]) (mvT hZ (hw _ (List.mem_of_getElem? (i := 63) rfl)))) (mvT hZ (hw _ (List.mem_of_getElem? (i := 63) rfl))) (mvT hZ (hw _ (List.mem_of_getElem? (i := 62) rfl))) (by decide) (backOf (W := 0) (rm10 l Z a0 hw [] b54 (((0 : Int64) + u6) + (1 : Int64)) T94.heap n0 Z107 v94_0_1) hZ (hw _ (List.mem_of_getElem? (i := 64) rfl)) (hw _ (List.mem_of_getElem? (i := 29) rfl)) (by decide) (by decide)) q113a q113c (g := (mkF m 114 #[.val (.int p0), .val (.long p1), .second, .val (.int p2), .val (.int (0 : Int32)), .val (.int (1 : Int32)), .val (.long u6), .second, .val (.ref r48_0_0), .val (.ref b54), .val (.int (1 : Int32)), .val (.int (1 : Int32)), .unset] [(.ref b54)])) rfl (by rw [hml]; rfl) (Steps.refl _) (argsL := []) (rest := []) (lenOf pd_5 rfl) rfl (by show 2 * 0 + _ ≤ _; exact Nat.le_of_eq rfl) (hb hby at_114) (fun _ _ => ⟨rfl, rfl, (by decide : 5 + 0 ≤ _), (by decide : 20 + 0 ≤ _)⟩)
          dsimp only [Pt.U, Pt.locs, Pt.cells, Pt.slots] at X113 l113 y113 z113 st113 hQ113
          subst l113 y113 z113
          obtain ⟨N113, eh113, hR113⟩ := hQ113
          have NA113 := Fr.app NA94 N113
          rcases hR113 with ⟨rfl, u113_0_0⟩ | ⟨rfl, u113_1_0⟩
          · exact absurd u113_0_0 (own_nz1 hg_u6 (0 : Int64) (by decide) (by decide))
          · refine Goes.back st113 ?_
            show Goes _ _ _ _ _ _ _ (T113.setTop (mkF m 117 #[.val (.int p0), .val (.long p1), .second, .val (.int p2), .val (.int (0 : Int32)), .val (.int (1 : Int32)), .val (.long u6), .second, .val (.ref r48_0_0), .val (.ref b54), .val (.int (1 : Int32)), .val (.int (1 : Int32)), .unset] [(.int (0 : Int32))]))
            refine Goes.step (fun _ k => XS.istore X113.here hx rfl (hb hby at_117) rfl (l' := #[.val (.int p0), .val (.long p1), .second, .val (.int p2), .val (.int (0 : Int32)), .val (.int (1 : Int32)), .val (.long u6), .second, .val (.ref r48_0_0), .val (.ref b54), .val (.int (1 : Int32)), .val (.int (1 : Int32)), .val (.int (0 : Int32))]) rfl k) ?_
            show Goes _ _ _ _ _ _ _ (T113.setTop (mkF m 119 #[.val (.int p0), .val (.long p1), .second, .val (.int p2), .val (.int (0 : Int32)), .val (.int (1 : Int32)), .val (.long u6), .second, .val (.ref r48_0_0), .val (.ref b54), .val (.int (1 : Int32)), .val (.int (1 : Int32)), .val (.int (0 : Int32))] []))
            refine Goes.step (fun _ k => XS.iload X113.here hx rfl (hb hby at_119) rfl  k) ?_
            show Goes _ _ _ _ _ _ _ (T113.setTop (mkF m 121 #[.val (.int p0), .val (.long p1), .second, .val (.int p2), .val (.int (0 : Int32)), .val (.int (1 : Int32)), .val (.long u6), .second, .val (.ref r48_0_0), .val (.ref b54), .val (.int (1 : Int32)), .val (.int (1 : Int32)), .val (.int (0 : Int32))] [(.int (1 : Int32))]))
            refine Goes.step (fun _ k => XS.ifNo X113.here hx rfl (hb hby at_121) rfl ((if0 _ _).trans (feq (by decide : ¬ ((1 : Int32) = (0 : Int32)))).1) k) ?_
            show Goes _ _ _ _ _ _ _ (T113.setTop (mkF m 124 #[.val (.int p0), .val (.long p1), .second, .val (.int p2), .val (.int (0 : Int32)), .val (.int (1 : Int32)), .val (.long u6), .second, .val (.ref r48_0_0), .val (.ref b54), .val (.int (1 : Int32)), .val (.int (1 : Int32)), .val (.int (0 : Int32))] []))
            refine Goes.step (fun _ k => XS.iload X113.here hx rfl (hb hby at_124) rfl  k) ?_
            show Goes _ _ _ _ _ _ _ (T113.setTop (mkF m 126 #[.val (.int p0), .val (.long p1), .second, .val (.int p2), .val (.int (0 : Int32)), .val (.int (1 : Int32)), .val (.long u6), .second, .val (.ref r48_0_0), .val (.ref b54), .val (.int (1 : Int32)), .val (.int (1 : Int32)), .val (.int (0 : Int32))] [(.int (1 : Int32))]))
            refine Goes.step (fun _ k => XS.iload X113.here hx rfl (hb hby at_126) rfl  k) ?_
            show Goes _ _ _ _ _ _ _ (T113.setTop (mkF m 128 #[.val (.int p0), .val (.long p1), .second, .val (.int p2), .val (.int (0 : Int32)), .val (.int (1 : Int32)), .val (.long u6), .second, .val (.ref r48_0_0), .val (.ref b54), .val (.int (1 : Int32)), .val (.int (1 : Int32)), .val (.int (0 : Int32))] [(.int (0 : Int32)), (.int (1 : Int32))]))
            refine Goes.step (fun _ k => XS.ifNo X113.here hx rfl (hb hby at_128) rfl ((if0 _ _).trans (teq (by decide : (0 : Int32) = (0 : Int32))).2) k) ?_
            show Goes _ _ _ _ _ _ _ (T113.setTop (mkF m 131 #[.val (.int p0), .val (.long p1), .second, .val (.int p2), .val (.int (0 : Int32)), .val (.int (1 : Int32)), .val (.long u6), .second, .val (.ref r48_0_0), .val (.ref b54), .val (.int (1 : Int32)), .val (.int (1 : Int32)), .val (.int (0 : Int32))] [(.int (1 : Int32))]))
            refine Goes.step (fun _ k => XS.iconst X113.here hx rfl (hb hby at_131) k) ?_
            show Goes _ _ _ _ _ _ _ (T113.setTop (mkF m 132 #[.val (.int p0), .val (.long p1), .second, .val (.int p2), .val (.int (0 : Int32)), .val (.int (1 : Int32)), .val (.long u6), .second, .val (.ref r48_0_0), .val (.ref b54), .val (.int (1 : Int32)), .val (.int (1 : Int32)), .val (.int (0 : Int32))] [(.int (1 : Int32)), (.int (1 : Int32))]))
            refine Goes.step (fun _ k => XS.goto X113.here hx rfl (pc0 := 132) (pc' := 136) rfl (hb hby at_132) (by decide) (by decide) k) ?_
            show Goes _ _ _ _ _ _ _ (T113.setTop (mkF m 136 #[.val (.int p0), .val (.long p1), .second, .val (.int p2), .val (.int (0 : Int32)), .val (.int (1 : Int32)), .val (.long u6), .second, .val (.ref r48_0_0), .val (.ref b54), .val (.int (1 : Int32)), .val (.int (1 : Int32)), .val (.int (0 : Int32))] [(.int (1 : Int32)), (.int (1 : Int32))]))
            refine Goes.step (fun _ k => XS.icmpNo X113.here hx rfl (hb hby at_136) rfl (teq (by decide : (1 : Int32) = (1 : Int32))).2 k) ?_
            show Goes _ _ _ _ _ _ _ (T113.setTop (mkF m 139 #[.val (.int p0), .val (.long p1), .second, .val (.int p2), .val (.int (0 : Int32)), .val (.int (1 : Int32)), .val (.long u6), .second, .val (.ref r48_0_0), .val (.ref b54), .val (.int (1 : Int32)), .val (.int (1 : Int32)), .val (.int (0 : Int32))] []))
            refine Goes.step (fun _ k => XS.iload X113.here hx rfl (hb hby at_139) rfl  k) ?_
            show Goes _ _ _ _ _ _ _ (T113.setTop (mkF m 141 #[.val (.int p0), .val (.long p1), .second, .val (.int p2), .val (.int (0 : Int32)), .val (.int (1 : Int32)), .val (.long u6), .second, .val (.ref r48_0_0), .val (.ref b54), .val (.int (1 : Int32)), .val (.int (1 : Int32)), .val (.int (0 : Int32))] [(.int (0 : Int32))]))
            refine Goes.step (fun _ k => XS.iload X113.here hx rfl (hb hby at_141) rfl  k) ?_
            show Goes _ _ _ _ _ _ _ (T113.setTop (mkF m 143 #[.val (.int p0), .val (.long p1), .second, .val (.int p2), .val (.int (0 : Int32)), .val (.int (1 : Int32)), .val (.long u6), .second, .val (.ref r48_0_0), .val (.ref b54), .val (.int (1 : Int32)), .val (.int (1 : Int32)), .val (.int (0 : Int32))] [(.int (0 : Int32)), (.int (0 : Int32))]))
            refine Goes.step (fun _ k => XS.ifNo X113.here hx rfl (hb hby at_143) rfl ((if0 _ _).trans (teq (by decide : (0 : Int32) = (0 : Int32))).2) k) ?_
            show Goes _ _ _ _ _ _ _ (T113.setTop (mkF m 146 #[.val (.int p0), .val (.long p1), .second, .val (.int p2), .val (.int (0 : Int32)), .val (.int (1 : Int32)), .val (.long u6), .second, .val (.ref r48_0_0), .val (.ref b54), .val (.int (1 : Int32)), .val (.int (1 : Int32)), .val (.int (0 : Int32))] [(.int (0 : Int32))]))
            refine Goes.step (fun _ k => XS.lload X113.here hx rfl (hb hby at_146) rfl  k) ?_
            show Goes _ _ _ _ _ _ _ (T113.setTop (mkF m 148 #[.val (.int p0), .val (.long p1), .second, .val (.int p2), .val (.int (0 : Int32)), .val (.int (1 : Int32)), .val (.long u6), .second, .val (.ref r48_0_0), .val (.ref b54), .val (.int (1 : Int32)), .val (.int (1 : Int32)), .val (.int (0 : Int32))] [(.long u6), (.int (0 : Int32))]))
            refine Goes.step (fun _ k => XS.lconst X113.here hx rfl (hb hby at_148) k) ?_
            show Goes _ _ _ _ _ _ _ (T113.setTop (mkF m 149 #[.val (.int p0), .val (.long p1), .second, .val (.int p2), .val (.int (0 : Int32)), .val (.int (1 : Int32)), .val (.long u6), .second, .val (.ref r48_0_0), .val (.ref b54), .val (.int (1 : Int32)), .val (.int (1 : Int32)), .val (.int (0 : Int32))] [(.long (0 : Int64)), (.long u6), (.int (0 : Int32))]))
            refine Goes.step (fun _ k => XS.lcmp X113.here hx rfl (hb hby at_149) rfl k) ?_
            show Goes _ _ _ _ _ _ _ (T113.setTop (mkF m 150 #[.val (.int p0), .val (.long p1), .second, .val (.int p2), .val (.int (0 : Int32)), .val (.int (1 : Int32)), .val (.long u6), .second, .val (.ref r48_0_0), .val (.ref b54), .val (.int (1 : Int32)), .val (.int (1 : Int32)), .val (.int (0 : Int32))] [(.int (lcmpW u6 (0 : Int64))), (.int (0 : Int32))]))
            by_cases c150_114 : u6 = (0 : Int64)
            · refine Goes.step (fun _ k => XS.ifNo X113.here hx rfl (hb hby at_150) rfl ((if0 _ _).trans (teq ((lw_eq _ _).mpr c150_114)).2) k) ?_
              show Goes _ _ _ _ _ _ _ (T113.setTop (mkF m 153 #[.val (.int p0), .val (.long p1), .second, .val (.int p2), .val (.int (0 : Int32)), .val (.int (1 : Int32)), .val (.long u6), .second, .val (.ref r48_0_0), .val (.ref b54), .val (.int (1 : Int32)), .val (.int (1 : Int32)), .val (.int (0 : Int32))] [(.int (0 : Int32))]))
              refine Goes.step (fun _ k => XS.iload X113.here hx rfl (hb hby at_153) rfl  k) ?_
              show Goes _ _ _ _ _ _ _ (T113.setTop (mkF m 155 #[.val (.int p0), .val (.long p1), .second, .val (.int p2), .val (.int (0 : Int32)), .val (.int (1 : Int32)), .val (.long u6), .second, .val (.ref r48_0_0), .val (.ref b54), .val (.int (1 : Int32)), .val (.int (1 : Int32)), .val (.int (0 : Int32))] [(.int (1 : Int32)), (.int (0 : Int32))]))
              refine Goes.step (fun _ k => XS.ifYes X113.here hx rfl (pc0 := 155) (pc' := 162) rfl (hb hby at_155) rfl ((if0 _ _).trans (feq (by decide : ¬ ((1 : Int32) = (0 : Int32)))).2) (by decide) (by decide) k) ?_
              show Goes _ _ _ _ _ _ _ (T113.setTop (mkF m 162 #[.val (.int p0), .val (.long p1), .second, .val (.int p2), .val (.int (0 : Int32)), .val (.int (1 : Int32)), .val (.long u6), .second, .val (.ref r48_0_0), .val (.ref b54), .val (.int (1 : Int32)), .val (.int (1 : Int32)), .val (.int (0 : Int32))] [(.int (0 : Int32))]))
              refine Goes.step (fun _ k => XS.iconst X113.here hx rfl (hb hby at_162) k) ?_
              show Goes _ _ _ _ _ _ _ (T113.setTop (mkF m 163 #[.val (.int p0), .val (.long p1), .second, .val (.int p2), .val (.int (0 : Int32)), .val (.int (1 : Int32)), .val (.long u6), .second, .val (.ref r48_0_0), .val (.ref b54), .val (.int (1 : Int32)), .val (.int (1 : Int32)), .val (.int (0 : Int32))] [(.int (0 : Int32)), (.int (0 : Int32))]))
              refine Goes.step (fun _ k => XS.icmpNo X113.here hx rfl (hb hby at_163) rfl (teq (by decide : (0 : Int32) = (0 : Int32))).2 k) ?_
              show Goes _ _ _ _ _ _ _ (T113.setTop (mkF m 166 #[.val (.int p0), .val (.long p1), .second, .val (.int p2), .val (.int (0 : Int32)), .val (.int (1 : Int32)), .val (.long u6), .second, .val (.ref r48_0_0), .val (.ref b54), .val (.int (1 : Int32)), .val (.int (1 : Int32)), .val (.int (0 : Int32))] []))
              refine Goes.step (fun _ k => XS.iconst X113.here hx rfl (hb hby at_166) k) ?_
              show Goes _ _ _ _ _ _ _ (T113.setTop (mkF m 167 #[.val (.int p0), .val (.long p1), .second, .val (.int p2), .val (.int (0 : Int32)), .val (.int (1 : Int32)), .val (.long u6), .second, .val (.ref r48_0_0), .val (.ref b54), .val (.int (1 : Int32)), .val (.int (1 : Int32)), .val (.int (0 : Int32))] [(.int (1 : Int32))]))
              refine Goes.step (fun _ k => XS.goto X113.here hx rfl (pc0 := 167) (pc' := 171) rfl (hb hby at_167) (by decide) (by decide) k) ?_
              show Goes _ _ _ _ _ _ _ (T113.setTop (mkF m 171 #[.val (.int p0), .val (.long p1), .second, .val (.int p2), .val (.int (0 : Int32)), .val (.int (1 : Int32)), .val (.long u6), .second, .val (.ref r48_0_0), .val (.ref b54), .val (.int (1 : Int32)), .val (.int (1 : Int32)), .val (.int (0 : Int32))] [(.int (1 : Int32))]))
              exact Goes.ret X113 hx (BodyLoose.notSynchronized Bd) Bd.returns rfl (Or.inl ⟨rfl, by simp, _, rfl⟩) (hb hby at_171) (by show Q0 Z p0 p1 p2 zC de kde h0 n0 (some (.int (1 : Int32))) T113.heap _; rw [eh113]; exact ⟨rfl, NA113⟩) (by decide) (by decide)
            · refine Goes.step (fun _ k => XS.ifYes X113.here hx rfl (pc0 := 150) (pc' := 162) rfl (hb hby at_150) rfl ((if0 _ _).trans (feq (fun q => c150_114 ((lw_eq _ _).mp q))).2) (by decide) (by decide) k) ?_
              show Goes _ _ _ _ _ _ _ (T113.setTop (mkF m 162 #[.val (.int p0), .val (.long p1), .second, .val (.int p2), .val (.int (0 : Int32)), .val (.int (1 : Int32)), .val (.long u6), .second, .val (.ref r48_0_0), .val (.ref b54), .val (.int (1 : Int32)), .val (.int (1 : Int32)), .val (.int (0 : Int32))] [(.int (0 : Int32))]))
              refine Goes.step (fun _ k => XS.iconst X113.here hx rfl (hb hby at_162) k) ?_
              show Goes _ _ _ _ _ _ _ (T113.setTop (mkF m 163 #[.val (.int p0), .val (.long p1), .second, .val (.int p2), .val (.int (0 : Int32)), .val (.int (1 : Int32)), .val (.long u6), .second, .val (.ref r48_0_0), .val (.ref b54), .val (.int (1 : Int32)), .val (.int (1 : Int32)), .val (.int (0 : Int32))] [(.int (0 : Int32)), (.int (0 : Int32))]))
              refine Goes.step (fun _ k => XS.icmpNo X113.here hx rfl (hb hby at_163) rfl (teq (by decide : (0 : Int32) = (0 : Int32))).2 k) ?_
              show Goes _ _ _ _ _ _ _ (T113.setTop (mkF m 166 #[.val (.int p0), .val (.long p1), .second, .val (.int p2), .val (.int (0 : Int32)), .val (.int (1 : Int32)), .val (.long u6), .second, .val (.ref r48_0_0), .val (.ref b54), .val (.int (1 : Int32)), .val (.int (1 : Int32)), .val (.int (0 : Int32))] []))
              refine Goes.step (fun _ k => XS.iconst X113.here hx rfl (hb hby at_166) k) ?_
              show Goes _ _ _ _ _ _ _ (T113.setTop (mkF m 167 #[.val (.int p0), .val (.long p1), .second, .val (.int p2), .val (.int (0 : Int32)), .val (.int (1 : Int32)), .val (.long u6), .second, .val (.ref r48_0_0), .val (.ref b54), .val (.int (1 : Int32)), .val (.int (1 : Int32)), .val (.int (0 : Int32))] [(.int (1 : Int32))]))
              refine Goes.step (fun _ k => XS.goto X113.here hx rfl (pc0 := 167) (pc' := 171) rfl (hb hby at_167) (by decide) (by decide) k) ?_
              show Goes _ _ _ _ _ _ _ (T113.setTop (mkF m 171 #[.val (.int p0), .val (.long p1), .second, .val (.int p2), .val (.int (0 : Int32)), .val (.int (1 : Int32)), .val (.long u6), .second, .val (.ref r48_0_0), .val (.ref b54), .val (.int (1 : Int32)), .val (.int (1 : Int32)), .val (.int (0 : Int32))] [(.int (1 : Int32))]))
              exact Goes.ret X113 hx (BodyLoose.notSynchronized Bd) Bd.returns rfl (Or.inl ⟨rfl, by simp, _, rfl⟩) (hb hby at_171) (by show Q0 Z p0 p1 p2 zC de kde h0 n0 (some (.int (1 : Int32))) T113.heap _; rw [eh113]; exact ⟨rfl, NA113⟩) (by decide) (by decide)
        · exact absurd (by decide : (0 : Int64) = (0 : Int64)) u79_1_0
      · exact absurd (by decide : (0 : Int64) = (0 : Int64)) u78_1_0
  · show Goes _ _ _ _ _ _ _ (s₁.setTop (mkF m 5 #[.val (.int p0), .val (.long p1), .second, .val (.int p2), .val (.int (1 : Int32)), .unset, .unset, .unset, .unset, .unset, .unset, .unset, .unset] []))
    refine Goes.step (fun _ k => XS.iloadN X0.here hx rfl (hb hby at_5) rfl  k) ?_
    show Goes _ _ _ _ _ _ _ (s₁.setTop (mkF m 6 #[.val (.int p0), .val (.long p1), .second, .val (.int p2), .val (.int (1 : Int32)), .unset, .unset, .unset, .unset, .unset, .unset, .unset, .unset] [(.int p0)]))
    refine Goes.step (fun _ k => XS.iconst X0.here hx rfl (hb hby at_6) k) ?_
    show Goes _ _ _ _ _ _ _ (s₁.setTop (mkF m 7 #[.val (.int p0), .val (.long p1), .second, .val (.int p2), .val (.int (1 : Int32)), .unset, .unset, .unset, .unset, .unset, .unset, .unset, .unset] [(.int (2 : Int32)), (.int p0)]))
    refine Goes.step (fun _ k => XS.iushr X0.here hx rfl (hb hby at_7) rfl k) ?_
    show Goes _ _ _ _ _ _ _ (s₁.setTop (mkF m 8 #[.val (.int p0), .val (.long p1), .second, .val (.int p2), .val (.int (1 : Int32)), .unset, .unset, .unset, .unset, .unset, .unset, .unset, .unset] [(.int ((p0.toUInt32 >>> ((2 : Int32) &&& 31).toUInt32).toInt32))]))
    refine Goes.step (fun _ k => XS.iconst X0.here hx rfl (hb hby at_8) k) ?_
    show Goes _ _ _ _ _ _ _ (s₁.setTop (mkF m 9 #[.val (.int p0), .val (.long p1), .second, .val (.int p2), .val (.int (1 : Int32)), .unset, .unset, .unset, .unset, .unset, .unset, .unset, .unset] [(.int (1 : Int32)), (.int ((p0.toUInt32 >>> ((2 : Int32) &&& 31).toUInt32).toInt32))]))
    refine Goes.step (fun _ k => XS.iand X0.here hx rfl (hb hby at_9) rfl k) ?_
    show Goes _ _ _ _ _ _ _ (s₁.setTop (mkF m 10 #[.val (.int p0), .val (.long p1), .second, .val (.int p2), .val (.int (1 : Int32)), .unset, .unset, .unset, .unset, .unset, .unset, .unset, .unset] [(.int (((p0.toUInt32 >>> ((2 : Int32) &&& 31).toUInt32).toInt32) &&& (1 : Int32)))]))
    refine Goes.step (fun _ k => XS.istore X0.here hx rfl (hb hby at_10) rfl (l' := #[.val (.int p0), .val (.long p1), .second, .val (.int p2), .val (.int (1 : Int32)), .val (.int (((p0.toUInt32 >>> ((2 : Int32) &&& 31).toUInt32).toInt32) &&& (1 : Int32))), .unset, .unset, .unset, .unset, .unset, .unset, .unset]) rfl k) ?_
    show Goes _ _ _ _ _ _ _ (s₁.setTop (mkF m 12 #[.val (.int p0), .val (.long p1), .second, .val (.int p2), .val (.int (1 : Int32)), .val (.int (((p0.toUInt32 >>> ((2 : Int32) &&& 31).toUInt32).toInt32) &&& (1 : Int32))), .unset, .unset, .unset, .unset, .unset, .unset, .unset] []))
    generalize hg_b5 : (((p0.toUInt32 >>> ((2 : Int32) &&& 31).toUInt32).toInt32) &&& (1 : Int32)) = b5
    show Goes _ _ _ _ _ _ _ (s₁.setTop (mkF m 12 #[.val (.int p0), .val (.long p1), .second, .val (.int p2), .val (.int (1 : Int32)), .val (.int b5), .unset, .unset, .unset, .unset, .unset, .unset, .unset] []))
    rcases own_and1 hg_b5 with rfl | rfl
    · show Goes _ _ _ _ _ _ _ (s₁.setTop (mkF m 12 #[.val (.int p0), .val (.long p1), .second, .val (.int p2), .val (.int (1 : Int32)), .val (.int (0 : Int32)), .unset, .unset, .unset, .unset, .unset, .unset, .unset] []))
      refine Goes.step (fun _ k => XS.lloadN X0.here hx rfl (hb hby at_12) rfl  k) ?_
      show Goes _ _ _ _ _ _ _ (s₁.setTop (mkF m 13 #[.val (.int p0), .val (.long p1), .second, .val (.int p2), .val (.int (1 : Int32)), .val (.int (0 : Int32)), .unset, .unset, .unset, .unset, .unset, .unset, .unset] [(.long p1)]))
      refine Goes.step (fun _ k => X0.ldc2Long hx hown (mvT hZ (hw _ (List.mem_of_getElem? (i := 0) rfl))) (g := (mkF m 13 #[.val (.int p0), .val (.long p1), .second, .val (.int p2), .val (.int (1 : Int32)), .val (.int (0 : Int32)), .unset, .unset, .unset, .unset, .unset, .unset, .unset] [(.long p1)])) rfl (hb hby at_13) _ k) ?_
      show Goes _ _ _ _ _ _ _ (s₁.setTop (mkF m 16 #[.val (.int p0), .val (.long p1), .second, .val (.int p2), .val (.int (1 : Int32)), .val (.int (0 : Int32)), .unset, .unset, .unset, .unset, .unset, .unset, .unset] [(.long (9223372036854775807 : Int64)), (.long p1)]))
      refine Goes.step (fun _ k => XS.land X0.here hx rfl (hb hby at_16) rfl k) ?_
      show Goes _ _ _ _ _ _ _ (s₁.setTop (mkF m 17 #[.val (.int p0), .val (.long p1), .second, .val (.int p2), .val (.int (1 : Int32)), .val (.int (0 : Int32)), .unset, .unset, .unset, .unset, .unset, .unset, .unset] [(.long (p1 &&& (9223372036854775807 : Int64)))]))
      refine Goes.step (fun _ k => XS.lstore X0.here hx rfl (hb hby at_17) rfl (l' := #[.val (.int p0), .val (.long p1), .second, .val (.int p2), .val (.int (1 : Int32)), .val (.int (0 : Int32)), .val (.long (p1 &&& (9223372036854775807 : Int64))), .second, .unset, .unset, .unset, .unset, .unset]) rfl k) ?_
      show Goes _ _ _ _ _ _ _ (s₁.setTop (mkF m 19 #[.val (.int p0), .val (.long p1), .second, .val (.int p2), .val (.int (1 : Int32)), .val (.int (0 : Int32)), .val (.long (p1 &&& (9223372036854775807 : Int64))), .second, .unset, .unset, .unset, .unset, .unset] []))
      generalize hg_u6 : (p1 &&& (9223372036854775807 : Int64)) = u6
      show Goes _ _ _ _ _ _ _ (s₁.setTop (mkF m 19 #[.val (.int p0), .val (.long p1), .second, .val (.int p2), .val (.int (1 : Int32)), .val (.int (0 : Int32)), .val (.long u6), .second, .unset, .unset, .unset, .unset, .unset] []))
      refine Goes.step (fun _ k => XS.iloadN X0.here hx rfl (hb hby at_19) rfl  k) ?_
      show Goes _ _ _ _ _ _ _ (s₁.setTop (mkF m 20 #[.val (.int p0), .val (.long p1), .second, .val (.int p2), .val (.int (1 : Int32)), .val (.int (0 : Int32)), .val (.long u6), .second, .unset, .unset, .unset, .unset, .unset] [(.int p2)]))
      refine Goes.step (fun _ k => XS.sipush X0.here hx rfl (hb hby at_20) k) ?_
      show Goes _ _ _ _ _ _ _ (s₁.setTop (mkF m 23 #[.val (.int p0), .val (.long p1), .second, .val (.int p2), .val (.int (1 : Int32)), .val (.int (0 : Int32)), .val (.long u6), .second, .unset, .unset, .unset, .unset, .unset] [(.int (255 : Int32)), (.int p2)]))
      refine Goes.step (fun _ k => XS.iand X0.here hx rfl (hb hby at_23) rfl k) ?_
      show Goes _ _ _ _ _ _ _ (s₁.setTop (mkF m 24 #[.val (.int p0), .val (.long p1), .second, .val (.int p2), .val (.int (1 : Int32)), .val (.int (0 : Int32)), .val (.long u6), .second, .unset, .unset, .unset, .unset, .unset] [(.int (p2 &&& (255 : Int32)))]))
      refine Goes.step (fun _ k => XS.i2c X0.here hx rfl (hb hby at_24) rfl k) ?_
      show Goes _ _ _ _ _ _ _ (s₁.setTop (mkF m 25 #[.val (.int p0), .val (.long p1), .second, .val (.int p2), .val (.int (1 : Int32)), .val (.int (0 : Int32)), .val (.long u6), .second, .unset, .unset, .unset, .unset, .unset] [(.int ((p2 &&& (255 : Int32)).toUInt32.toUInt16.toUInt32.toInt32))]))
      obtain ⟨_, _, ⟨T115, L115, k115, n115⟩, -, X115, ⟨Lc115, hQ115, l115, y115, z115⟩, st115⟩ := Jvm.LawKit.callS X0 hx (y := (⟨"java/lang/String", "valueOf", "(C)Ljava/lang/String;"⟩ : MethodName)) hown (mvT hZ (hw _ (List.mem_of_getElem? (i := 1) rfl))) (mvT hZ (hw _ (List.mem_of_getElem? (i := 2) rfl))) (mvT hZ (hw _ (List.mem_of_getElem? (i := 3) rfl))) (mvT hZ (hw _ (List.mem_of_getElem? (i := 4) rfl))) (by decide) (backOf (W := 0) (rm1 l Z a0 hw [] ((p2 &&& (255 : Int32)).toUInt32.toUInt16.toUInt32.toInt32) zC h0 n0 Z0 S_CS X00 P5 (own_char _)) hZ (hw _ (List.mem_of_getElem? (i := 4) rfl)) (hw _ (List.mem_of_getElem? (i := 3) rfl)) (by decide) (by decide)) (g := (mkF m 25 #[.val (.int p0), .val (.long p1), .second, .val (.int p2), .val (.int (1 : Int32)), .val (.int (0 : Int32)), .val (.long u6), .second, .unset, .unset, .unset, .unset, .unset] [(.int ((p2 &&& (255 : Int32)).toUInt32.toUInt16.toUInt32.toInt32))])) rfl (by rw [hml]; rfl) (argsL := [(.int ((p2 &&& (255 : Int32)).toUInt32.toUInt16.toUInt32.toInt32))]) (rest := []) (lenOf pd_0 rfl) rfl (by show 2 * 0 + _ ≤ _; exact Nat.le_of_eq rfl) (hb hby at_25) (fun _ _ => ⟨rfl, e0, (by decide : 0 + 2 ≤ _), (by decide : 0 + 5 ≤ _)⟩)
      dsimp only [Pt.U, Pt.locs, Pt.cells, Pt.slots] at X115 l115 y115 z115 st115 hQ115
      subst l115 y115 z115
      obtain ⟨N115, KK115, hR115⟩ := hQ115
      have NA115 := Fr.app N0 N115
      have XO116 : Old Z n0 T115.heap := X00.keep KK115 all0
      have f117 := V_de.keep KK115 nin0
      have K118 : Keep h0 T115.heap [] := K0.trans KK115 all0
      have Z118 : n0 ≤ T115.heap.size := Nat.le_trans Z0 KK115.1
      obtain ⟨r115_0_0, r115_0_1, kk115_0_0, rfl, u115_0_0, g_r115_0_0, le_r115_0_0, g_r115_0_1, le_r115_0_1, nn115_0_0, v115_0_0, v115_0_1, v115_0_2⟩ := hR115
      have ne119 : de ≠ r115_0_0 := Nat.ne_of_lt (Nat.lt_of_lt_of_le V_de.lt le_r115_0_0)
      have sz_r115_0_0 : h0.size ≤ r115_0_0 := Nat.le_trans K0.1 le_r115_0_0
      have ne120 : de ≠ r115_0_1 := Nat.ne_of_lt (Nat.lt_of_lt_of_le V_de.lt le_r115_0_1)
      have sz_r115_0_1 : h0.size ≤ r115_0_1 := Nat.le_trans K0.1 le_r115_0_1
      refine Goes.step st115 ?_
      show Goes _ _ _ _ _ _ _ (T115.setTop (mkF m 28 #[.val (.int p0), .val (.long p1), .second, .val (.int p2), .val (.int (1 : Int32)), .val (.int (0 : Int32)), .val (.long u6), .second, .unset, .unset, .unset, .unset, .unset] [(.ref r115_0_0)]))
      refine Goes.step (fun _ k => XS.astore X115.here hx rfl (hb hby at_28) rfl rfl (l' := #[.val (.int p0), .val (.long p1), .second, .val (.int p2), .val (.int (1 : Int32)), .val (.int (0 : Int32)), .val (.long u6), .second, .val (.ref r115_0_0), .unset, .unset, .unset, .unset]) rfl k) ?_
      show Goes _ _ _ _ _ _ _ (T115.setTop (mkF m 30 #[.val (.int p0), .val (.long p1), .second, .val (.int p2), .val (.int (1 : Int32)), .val (.int (0 : Int32)), .val (.long u6), .second, .val (.ref r115_0_0), .unset, .unset, .unset, .unset] []))
      obtain ⟨T121, h121, X121, e121, E121, A121, D121, -, st121⟩ := newO X115 hx hZ hown (hw _ (List.mem_of_getElem? (i := 27) rfl)) (hw _ (List.mem_of_getElem? (i := 28) rfl)) (hw _ (List.mem_of_getElem? (i := 29) rfl)) rfl (g := (mkF m 30 #[.val (.int p0), .val (.long p1), .second, .val (.int p2), .val (.int (1 : Int32)), .val (.int (0 : Int32)), .val (.long u6), .second, .val (.ref r115_0_0), .unset, .unset, .unset, .unset] [])) rfl (hb hby at_30) (by decide) (by decide)
      obtain ⟨b121, g121⟩ : ∃ z, z = T115.heap.size := ⟨_, rfl⟩
      rw [← g121] at A121 D121 st121
      refine Goes.step st121 ?_
      have g_b121 : n0 ≤ b121 := Nat.le_trans Z118 (Nat.le_of_eq g121.symm)
      have sz_b121 : h0.size ≤ b121 := Nat.le_trans K118.1 (Nat.le_of_eq g121.symm)
      have ne122 : de ≠ b121 := Nat.ne_of_lt (Nat.lt_of_lt_of_le f117.lt (Nat.le_of_eq g121.symm))
      have ne123 : r115_0_0 ≠ b121 := Nat.ne_of_lt (Nat.lt_of_lt_of_le v115_0_0.lt (Nat.le_of_eq g121.symm))
      have ne124 : r115_0_1 ≠ b121 := Nat.ne_of_lt (Nat.lt_of_lt_of_le v115_0_1.lt (Nat.le_of_eq g121.symm))
      have XO125 : Old Z n0 h121 := XO116.ext E121
      have f126 := f117.ext E121
      have f127 := v115_0_0.ext E121
      have f128 := v115_0_1.ext E121
      have f129 := v115_0_2.ext E121
      have K130 : Keep h0 h121 [] := K118.ext E121
      have Z130 : n0 ≤ h121.size := Nat.le_trans Z118 E121.1
      have E_b121 := A121
      have F_named_b121 : Fld Z h121 b121 "com/example/roles_to_grants/rolestogrants/input/ProblemList" "named" "Ljava/util/List;" .null := D121 (Or.inr (hw _ (List.mem_of_getElem? (i := 59) rfl))) (ty := (.object "java/util/List")) (by decide)
      have F_count_b121 : Fld Z h121 b121 "com/example/roles_to_grants/rolestogrants/input/ProblemList" "count" "J" (.long (0 : Int64)) := D121 (Or.inl (hw _ (List.mem_of_getElem? (i := 66) rfl))) (ty := .long) (by decide)
      show Goes _ _ _ _ _ _ _ (T121.setTop (mkF m 33 #[.val (.int p0), .val (.long p1), .second, .val (.int p2), .val (.int (1 : Int32)), .val (.int (0 : Int32)), .val (.long u6), .second, .val (.ref r115_0_0), .unset, .unset, .unset, .unset] [(.ref b121)]))
      refine Goes.step (fun _ k => XS.dup X121.here hx rfl (hb hby at_33) rfl rfl k) ?_
      show Goes _ _ _ _ _ _ _ (T121.setTop (mkF m 34 #[.val (.int p0), .val (.long p1), .second, .val (.int p2), .val (.int (1 : Int32)), .val (.int (0 : Int32)), .val (.long u6), .second, .val (.ref r115_0_0), .unset, .unset, .unset, .unset] [(.ref b121), (.ref b121)]))
      obtain ⟨_, _, ⟨T131, L131, k131, n131⟩, -, X131, ⟨Lc131, hQ131, l131, y131, z131⟩, st131⟩ := X121.specialBack hx (y := (⟨"com/example/roles_to_grants/rolestogrants/input/ProblemList", "<init>", "()V"⟩ : MethodName)) rfl hown (mvT hZ (hw _ (List.mem_of_getElem? (i := 30) rfl))) (mvT hZ (hw _ (List.mem_of_getElem? (i := 31) rfl))) (mvT hZ (hw _ (List.mem_of_getElem? (i := 32) rfl))) (by decide) (backOf (W := 1) (rm6 l Z a0 hw [] b121 de h121 n0 Z130 S_DE XO125 F_named_b121 F_count_b121 E_b121 g_b121) hZ (hw _ (List.mem_of_getElem? (i := 32) rfl)) (hw _ (List.mem_of_getElem? (i := 29) rfl)) (by decide) (by decide)) (g := (mkF m 34 #[.val (.int p0), .val (.long p1), .second, .val (.int p2), .val (.int (1 : Int32)), .val (.int (0 : Int32)), .val (.long u6), .second, .val (.ref r115_0_0), .unset, .unset, .unset, .unset] [(.ref b121), (.ref b121)])) rfl (by rw [hml]; rfl) (Steps.refl _) (a := b121) (argsL := []) (rest := [(.ref b121)]) (lenOf pd_4 rfl) rfl (by show 2 * 0 + _ ≤ _; exact Nat.le_of_eq rfl) (hb hby at_34) (fun _ _ => ⟨rfl, e121, (by decide : 3 + 1 ≤ _), (by decide : 7 + 3 ≤ _)⟩)
      dsimp only [Pt.U, Pt.locs, Pt.cells, Pt.slots] at X131 l131 y131 z131 st131 hQ131
      subst l131 y131 z131
      obtain ⟨N131, KK131, hR131⟩ := hQ131
      have NA131 := Fr.app NA115 N131
      have XO132 : Old Z n0 T131.heap := XO125.keep KK131 (allS g_b121 all0)
      have f133 := f126.keep KK131 (ninS ne122 nin0)
      have f134 := f127.keep KK131
      have f135 := f128.keep KK131 (ninS ne124 nin0)
      have f136 := f129.keep KK131 (ninS ne123 nin0)
      have f137 := E_b121.keep KK131
      have K140 : Keep h0 T131.heap [] := K130.trans KK131 (allS (Or.inr sz_b121) all0)
      have Z140 : n0 ≤ T131.heap.size := Nat.le_trans Z130 KK131.1
      obtain ⟨r131_0_0, rfl, g_r131_0_0, le_r131_0_0, v131_0_0, v131_0_1, v131_0_2, v131_0_3, v131_0_4, v131_0_5, v131_0_6⟩ := hR131
      have ne141 : de ≠ r131_0_0 := Nat.ne_of_lt (Nat.lt_of_lt_of_le f126.lt le_r131_0_0)
      have ne142 : r115_0_0 ≠ r131_0_0 := Nat.ne_of_lt (Nat.lt_of_lt_of_le f127.lt le_r131_0_0)
      have ne143 : r115_0_1 ≠ r131_0_0 := Nat.ne_of_lt (Nat.lt_of_lt_of_le f128.lt le_r131_0_0)
      have ne144 : b121 ≠ r131_0_0 := Nat.ne_of_lt (Nat.lt_of_lt_of_le E_b121.lt le_r131_0_0)
      have sz_r131_0_0 : h0.size ≤ r131_0_0 := Nat.le_trans K130.1 le_r131_0_0
      refine Goes.back st131 ?_
      show Goes _ _ _ _ _ _ _ (T131.setTop (mkF m 37 #[.val (.int p0), .val (.long p1), .second, .val (.int p2), .val (.int (1 : Int32)), .val (.int (0 : Int32)), .val (.long u6), .second, .val (.ref r115_0_0), .unset, .unset, .unset, .unset] [(.ref b121)]))
      refine Goes.step (fun _ k => XS.astore X131.here hx rfl (hb hby at_37) rfl rfl (l' := #[.val (.int p0), .val (.long p1), .second, .val (.int p2), .val (.int (1 : Int32)), .val (.int (0 : Int32)), .val (.long u6), .second, .val (.ref r115_0_0), .val (.ref b121), .unset, .unset, .unset]) rfl k) ?_
      show Goes _ _ _ _ _ _ _ (T131.setTop (mkF m 39 #[.val (.int p0), .val (.long p1), .second, .val (.int p2), .val (.int (1 : Int32)), .val (.int (0 : Int32)), .val (.long u6), .second, .val (.ref r115_0_0), .val (.ref b121), .unset, .unset, .unset] []))
      refine Goes.step (fun _ k => XS.aload X131.here hx rfl (hb hby at_39) rfl rfl k) ?_
      show Goes _ _ _ _ _ _ _ (T131.setTop (mkF m 41 #[.val (.int p0), .val (.long p1), .second, .val (.int p2), .val (.int (1 : Int32)), .val (.int (0 : Int32)), .val (.long u6), .second, .val (.ref r115_0_0), .val (.ref b121), .unset, .unset, .unset] [(.ref b121)]))
      obtain ⟨cq145, kq145, q145a, q145b, q145c⟩ := isOf hZ rfl v131_0_2
      obtain ⟨_, _, ⟨T145, L145, k145, n145⟩, -, X145, ⟨Lc145, hQ145, l145, y145, z145⟩, st145⟩ := X131.virtualBack hx (y := (⟨"com/example/roles_to_grants/rolestogrants/input/ProblemList", "isEmpty", "()Z"⟩ : MethodName)) (z := (⟨"com/example/roles_to_grants/rolestogrants/input/ProblemList", "isEmpty", "()Z"⟩ : MethodName)) hown (mvT hZ (hw _ (List.mem_of_getElem? (i := 60) rfl))) (mvT hZ (hw _ (List.mem_of_getElem? (i := 61) rfl))) (notFace_of_selects (args := #[]) (mvT hZ (hw _ (List.mem_of_getElem? (i := 63) rfl)))) (mvT hZ (hw _ (List.mem_of_getElem? (i := 63) rfl))) (mvT hZ (hw _ (List.mem_of_getElem? (i := 62) rfl))) (by decide) (backOf (W := 0) (rm10 l Z a0 hw [] b121 (0 : Int64) T131.heap n0 Z140 v131_0_1) hZ (hw _ (List.mem_of_getElem? (i := 64) rfl)) (hw _ (List.mem_of_getElem? (i := 29) rfl)) (by decide) (by decide)) q145a q145c (g := (mkF m 41 #[.val (.int p0), .val (.long p1), .second, .val (.int p2), .val (.int (1 : Int32)), .val (.int (0 : Int32)), .val (.long u6), .second, .val (.ref r115_0_0), .val (.ref b121), .unset, .unset, .unset] [(.ref b121)])) rfl (by rw [hml]; rfl) (Steps.refl _) (argsL := []) (rest := []) (lenOf pd_5 rfl) rfl (by show 2 * 0 + _ ≤ _; exact Nat.le_of_eq rfl) (hb hby at_41) (fun _ _ => ⟨rfl, rfl, (by decide : 4 + 0 ≤ _), (by decide : 10 + 0 ≤ _)⟩)
      dsimp only [Pt.U, Pt.locs, Pt.cells, Pt.slots] at X145 l145 y145 z145 st145 hQ145
      subst l145 y145 z145
      obtain ⟨N145, eh145, hR145⟩ := hQ145
      have NA145 := Fr.app NA131 N145
      rcases hR145 with ⟨rfl, u145_0_0⟩ | ⟨rfl, u145_1_0⟩
      · refine Goes.back st145 ?_
        show Goes _ _ _ _ _ _ _ (T145.setTop (mkF m 44 #[.val (.int p0), .val (.long p1), .second, .val (.int p2), .val (.int (1 : Int32)), .val (.int (0 : Int32)), .val (.long u6), .second, .val (.ref r115_0_0), .val (.ref b121), .unset, .unset, .unset] [(.int (1 : Int32))]))
        refine Goes.step (fun _ k => XS.istore X145.here hx rfl (hb hby at_44) rfl (l' := #[.val (.int p0), .val (.long p1), .second, .val (.int p2), .val (.int (1 : Int32)), .val (.int (0 : Int32)), .val (.long u6), .second, .val (.ref r115_0_0), .val (.ref b121), .val (.int (1 : Int32)), .unset, .unset]) rfl k) ?_
        show Goes _ _ _ _ _ _ _ (T145.setTop (mkF m 46 #[.val (.int p0), .val (.long p1), .second, .val (.int p2), .val (.int (1 : Int32)), .val (.int (0 : Int32)), .val (.long u6), .second, .val (.ref r115_0_0), .val (.ref b121), .val (.int (1 : Int32)), .unset, .unset] []))
        refine Goes.step (fun _ k => XS.iload X145.here hx rfl (hb hby at_46) rfl  k) ?_
        show Goes _ _ _ _ _ _ _ (T145.setTop (mkF m 48 #[.val (.int p0), .val (.long p1), .second, .val (.int p2), .val (.int (1 : Int32)), .val (.int (0 : Int32)), .val (.long u6), .second, .val (.ref r115_0_0), .val (.ref b121), .val (.int (1 : Int32)), .unset, .unset] [(.int (1 : Int32))]))
        refine Goes.step (fun _ k => XS.iconst X145.here hx rfl (hb hby at_48) k) ?_
        show Goes _ _ _ _ _ _ _ (T145.setTop (mkF m 49 #[.val (.int p0), .val (.long p1), .second, .val (.int p2), .val (.int (1 : Int32)), .val (.int (0 : Int32)), .val (.long u6), .second, .val (.ref r115_0_0), .val (.ref b121), .val (.int (1 : Int32)), .unset, .unset] [(.int (1 : Int32)), (.int (1 : Int32))]))
        refine Goes.step (fun _ k => XS.icmpNo X145.here hx rfl (hb hby at_49) rfl (flt (by decide : ¬ ((1 : Int32) < (1 : Int32)))).1 k) ?_
        show Goes _ _ _ _ _ _ _ (T145.setTop (mkF m 52 #[.val (.int p0), .val (.long p1), .second, .val (.int p2), .val (.int (1 : Int32)), .val (.int (0 : Int32)), .val (.long u6), .second, .val (.ref r115_0_0), .val (.ref b121), .val (.int (1 : Int32)), .unset, .unset] []))
        refine Goes.step (fun _ k => XS.aload X145.here hx rfl (hb hby at_52) rfl rfl k) ?_
        show Goes _ _ _ _ _ _ _ (T145.setTop (mkF m 54 #[.val (.int p0), .val (.long p1), .second, .val (.int p2), .val (.int (1 : Int32)), .val (.int (0 : Int32)), .val (.long u6), .second, .val (.ref r115_0_0), .val (.ref b121), .val (.int (1 : Int32)), .unset, .unset] [(.ref b121)]))
        refine Goes.step (fun _ k => XS.aload X145.here hx rfl (hb hby at_54) rfl rfl k) ?_
        show Goes _ _ _ _ _ _ _ (T145.setTop (mkF m 56 #[.val (.int p0), .val (.long p1), .second, .val (.int p2), .val (.int (1 : Int32)), .val (.int (0 : Int32)), .val (.long u6), .second, .val (.ref r115_0_0), .val (.ref b121), .val (.int (1 : Int32)), .unset, .unset] [(.ref r115_0_0), (.ref b121)]))
        obtain ⟨cq146, kq146, q146a, q146b, q146c⟩ := isOf hZ eh145 v131_0_2
        obtain ⟨_, _, ⟨T146, L146, k146, n146⟩, -, X146, ⟨Lc146, hQ146, l146, y146, z146⟩, st146⟩ := X145.virtualBack hx (y := (⟨"com/example/roles_to_grants/rolestogrants/input/ProblemList", "add", "(Ljava/lang/String;)V"⟩ : MethodName)) (z := (⟨"com/example/roles_to_grants/rolestogrants/input/ProblemList", "add", "(Ljava/lang/String;)V"⟩ : MethodName)) hown (mvT hZ (hw _ (List.mem_of_getElem? (i := 72) rfl))) (mvT hZ (hw _ (List.mem_of_getElem? (i := 73) rfl))) (notFace_of_selects (args := #[]) (mvT hZ (hw _ (List.mem_of_getElem? (i := 75) rfl)))) (mvT hZ (hw _ (List.mem_of_getElem? (i := 75) rfl))) (mvT hZ (hw _ (List.mem_of_getElem? (i := 74) rfl))) (by decide) (backOf (W := 0) (rm12_0 l Z a0 hw [] b121 r115_0_0 de r131_0_0 (0 : Int64) (0 : Int32) kde T131.heap n0 Z140 S_DE XO132 v131_0_0 v131_0_1 v131_0_4 v131_0_5 v131_0_6 v131_0_2 v131_0_3 f134 f133 g_b121 g_r131_0_0 ne122 ne141 ne144) hZ (hw _ (List.mem_of_getElem? (i := 76) rfl)) (hw _ (List.mem_of_getElem? (i := 29) rfl)) (by decide) (by decide)) q146a q146c (g := (mkF m 56 #[.val (.int p0), .val (.long p1), .second, .val (.int p2), .val (.int (1 : Int32)), .val (.int (0 : Int32)), .val (.long u6), .second, .val (.ref r115_0_0), .val (.ref b121), .val (.int (1 : Int32)), .unset, .unset] [(.ref r115_0_0), (.ref b121)])) rfl (by rw [hml]; rfl) (Steps.refl _) (argsL := [(.ref r115_0_0)]) (rest := []) (lenOf pd_7 rfl) rfl (by show 2 * 0 + _ ≤ _; exact Nat.le_of_eq rfl) (hb hby at_56) (fun _ _ => ⟨rfl, eh145, (by decide : 4 + 1 ≤ _), (by decide : 10 + 10 ≤ _)⟩)
        dsimp only [Pt.U, Pt.locs, Pt.cells, Pt.slots] at X146 l146 y146 z146 st146 hQ146
        subst l146 y146 z146
        obtain ⟨N146, KK146, hR146⟩ := hQ146
        have NA146 := Fr.app NA145 N146
        have XO147 : Old Z n0 T146.heap := XO132.keep KK146 (allS g_b121 (allS g_r131_0_0 all0))
        have f148 := f133.keep KK146 (ninS ne122 (ninS ne141 nin0))
        have f149 := f134.keep KK146
        have f150 := f135.keep KK146 (ninS ne124 (ninS ne143 nin0))
        have f151 := f136.keep KK146 (ninS ne123 (ninS ne142 nin0))
        have f152 := v131_0_2.keep KK146
        have f155 := v131_0_3.keep KK146
        have K159 : Keep h0 T146.heap [] := K140.trans KK146 (allS (Or.inr sz_b121) (allS (Or.inr sz_r131_0_0) all0))
        have Z159 : n0 ≤ T146.heap.size := Nat.le_trans Z140 KK146.1
        obtain ⟨r146_0_0, kk146_0_0, rfl, g_r146_0_0, le_r146_0_0, v146_0_0, v146_0_1, v146_0_2, v146_0_3, v146_0_4, v146_0_5, v146_0_6, v146_0_7, oo146_0_0⟩ := hR146
        have ne160 : de ≠ r146_0_0 := Nat.ne_of_lt (Nat.lt_of_lt_of_le f133.lt le_r146_0_0)
        have ne161 : r115_0_0 ≠ r146_0_0 := Nat.ne_of_lt (Nat.lt_of_lt_of_le f134.lt le_r146_0_0)
        have ne162 : r115_0_1 ≠ r146_0_0 := Nat.ne_of_lt (Nat.lt_of_lt_of_le f135.lt le_r146_0_0)
        have ne163 : b121 ≠ r146_0_0 := Nat.ne_of_lt (Nat.lt_of_lt_of_le v131_0_2.lt le_r146_0_0)
        have ne164 : r131_0_0 ≠ r146_0_0 := Nat.ne_of_lt (Nat.lt_of_lt_of_le v131_0_3.lt le_r146_0_0)
        have sz_r146_0_0 : h0.size ≤ r146_0_0 := Nat.le_trans K140.1 le_r146_0_0
        refine Goes.back st146 ?_
        show Goes _ _ _ _ _ _ _ (T146.setTop (mkF m 59 #[.val (.int p0), .val (.long p1), .second, .val (.int p2), .val (.int (1 : Int32)), .val (.int (0 : Int32)), .val (.long u6), .second, .val (.ref r115_0_0), .val (.ref b121), .val (.int (1 : Int32)), .unset, .unset] []))
        refine Goes.step (fun _ k => XS.iload X146.here hx rfl (hb hby at_59) rfl  k) ?_
        show Goes _ _ _ _ _ _ _ (T146.setTop (mkF m 61 #[.val (.int p0), .val (.long p1), .second, .val (.int p2), .val (.int (1 : Int32)), .val (.int (0 : Int32)), .val (.long u6), .second, .val (.ref r115_0_0), .val (.ref b121), .val (.int (1 : Int32)), .unset, .unset] [(.int (1 : Int32))]))
        refine Goes.step (fun _ k => XS.iconst X146.here hx rfl (hb hby at_61) k) ?_
        show Goes _ _ _ _ _ _ _ (T146.setTop (mkF m 62 #[.val (.int p0), .val (.long p1), .second, .val (.int p2), .val (.int (1 : Int32)), .val (.int (0 : Int32)), .val (.long u6), .second, .val (.ref r115_0_0), .val (.ref b121), .val (.int (1 : Int32)), .unset, .unset] [(.int (2 : Int32)), (.int (1 : Int32))]))
        refine Goes.step (fun _ k => XS.icmpYes X146.here hx rfl (pc0 := 62) (pc' := 72) rfl (hb hby at_62) rfl (tlt (by decide : (1 : Int32) < (2 : Int32))).1 (by decide) (by decide) k) ?_
        show Goes _ _ _ _ _ _ _ (T146.setTop (mkF m 72 #[.val (.int p0), .val (.long p1), .second, .val (.int p2), .val (.int (1 : Int32)), .val (.int (0 : Int32)), .val (.long u6), .second, .val (.ref r115_0_0), .val (.ref b121), .val (.int (1 : Int32)), .unset, .unset] []))
        refine Goes.step (fun _ k => XS.iload X146.here hx rfl (hb hby at_72) rfl  k) ?_
        show Goes _ _ _ _ _ _ _ (T146.setTop (mkF m 74 #[.val (.int p0), .val (.long p1), .second, .val (.int p2), .val (.int (1 : Int32)), .val (.int (0 : Int32)), .val (.long u6), .second, .val (.ref r115_0_0), .val (.ref b121), .val (.int (1 : Int32)), .unset, .unset] [(.int (1 : Int32))]))
        refine Goes.step (fun _ k => XS.iconst X146.here hx rfl (hb hby at_74) k) ?_
        show Goes _ _ _ _ _ _ _ (T146.setTop (mkF m 75 #[.val (.int p0), .val (.long p1), .second, .val (.int p2), .val (.int (1 : Int32)), .val (.int (0 : Int32)), .val (.long u6), .second, .val (.ref r115_0_0), .val (.ref b121), .val (.int (1 : Int32)), .unset, .unset] [(.int (3 : Int32)), (.int (1 : Int32))]))
        refine Goes.step (fun _ k => XS.icmpYes X146.here hx rfl (pc0 := 75) (pc' := 85) rfl (hb hby at_75) rfl (tlt (by decide : (1 : Int32) < (3 : Int32))).1 (by decide) (by decide) k) ?_
        show Goes _ _ _ _ _ _ _ (T146.setTop (mkF m 85 #[.val (.int p0), .val (.long p1), .second, .val (.int p2), .val (.int (1 : Int32)), .val (.int (0 : Int32)), .val (.long u6), .second, .val (.ref r115_0_0), .val (.ref b121), .val (.int (1 : Int32)), .unset, .unset] []))
        refine Goes.step (fun _ k => XS.aload X146.here hx rfl (hb hby at_85) rfl rfl k) ?_
        show Goes _ _ _ _ _ _ _ (T146.setTop (mkF m 87 #[.val (.int p0), .val (.long p1), .second, .val (.int p2), .val (.int (1 : Int32)), .val (.int (0 : Int32)), .val (.long u6), .second, .val (.ref r115_0_0), .val (.ref b121), .val (.int (1 : Int32)), .unset, .unset] [(.ref b121)]))
        obtain ⟨cq165, kq165, q165a, q165b, q165c⟩ := isOf hZ rfl v146_0_2
        obtain ⟨_, _, ⟨T165, L165, k165, n165⟩, -, X165, ⟨Lc165, hQ165, l165, y165, z165⟩, st165⟩ := X146.virtualBack hx (y := (⟨"com/example/roles_to_grants/rolestogrants/input/ProblemList", "isEmpty", "()Z"⟩ : MethodName)) (z := (⟨"com/example/roles_to_grants/rolestogrants/input/ProblemList", "isEmpty", "()Z"⟩ : MethodName)) hown (mvT hZ (hw _ (List.mem_of_getElem? (i := 60) rfl))) (mvT hZ (hw _ (List.mem_of_getElem? (i := 61) rfl))) (notFace_of_selects (args := #[]) (mvT hZ (hw _ (List.mem_of_getElem? (i := 63) rfl)))) (mvT hZ (hw _ (List.mem_of_getElem? (i := 63) rfl))) (mvT hZ (hw _ (List.mem_of_getElem? (i := 62) rfl))) (by decide) (backOf (W := 0) (rm10 l Z a0 hw [] b121 (1 : Int64) T146.heap n0 Z159 v146_0_1) hZ (hw _ (List.mem_of_getElem? (i := 64) rfl)) (hw _ (List.mem_of_getElem? (i := 29) rfl)) (by decide) (by decide)) q165a q165c (g := (mkF m 87 #[.val (.int p0), .val (.long p1), .second, .val (.int p2), .val (.int (1 : Int32)), .val (.int (0 : Int32)), .val (.long u6), .second, .val (.ref r115_0_0), .val (.ref b121), .val (.int (1 : Int32)), .unset, .unset] [(.ref b121)])) rfl (by rw [hml]; rfl) (Steps.refl _) (argsL := []) (rest := []) (lenOf pd_5 rfl) rfl (by show 2 * 0 + _ ≤ _; exact Nat.le_of_eq rfl) (hb hby at_87) (fun _ _ => ⟨rfl, rfl, (by decide : 5 + 0 ≤ _), (by decide : 20 + 0 ≤ _)⟩)
        dsimp only [Pt.U, Pt.locs, Pt.cells, Pt.slots] at X165 l165 y165 z165 st165 hQ165
        subst l165 y165 z165
        obtain ⟨N165, eh165, hR165⟩ := hQ165
        have NA165 := Fr.app NA146 N165
        rcases hR165 with ⟨rfl, u165_0_0⟩ | ⟨rfl, u165_1_0⟩
        · exact absurd u165_0_0 (by decide : ¬ ((1 : Int64) = (0 : Int64)))
        · refine Goes.back st165 ?_
          show Goes _ _ _ _ _ _ _ (T165.setTop (mkF m 90 #[.val (.int p0), .val (.long p1), .second, .val (.int p2), .val (.int (1 : Int32)), .val (.int (0 : Int32)), .val (.long u6), .second, .val (.ref r115_0_0), .val (.ref b121), .val (.int (1 : Int32)), .unset, .unset] [(.int (0 : Int32))]))
          refine Goes.step (fun _ k => XS.istore X165.here hx rfl (hb hby at_90) rfl (l' := #[.val (.int p0), .val (.long p1), .second, .val (.int p2), .val (.int (1 : Int32)), .val (.int (0 : Int32)), .val (.long u6), .second, .val (.ref r115_0_0), .val (.ref b121), .val (.int (1 : Int32)), .val (.int (0 : Int32)), .unset]) rfl k) ?_
          show Goes _ _ _ _ _ _ _ (T165.setTop (mkF m 92 #[.val (.int p0), .val (.long p1), .second, .val (.int p2), .val (.int (1 : Int32)), .val (.int (0 : Int32)), .val (.long u6), .second, .val (.ref r115_0_0), .val (.ref b121), .val (.int (1 : Int32)), .val (.int (0 : Int32)), .unset] []))
          refine Goes.step (fun _ k => XS.aload X165.here hx rfl (hb hby at_92) rfl rfl k) ?_
          show Goes _ _ _ _ _ _ _ (T165.setTop (mkF m 94 #[.val (.int p0), .val (.long p1), .second, .val (.int p2), .val (.int (1 : Int32)), .val (.int (0 : Int32)), .val (.long u6), .second, .val (.ref r115_0_0), .val (.ref b121), .val (.int (1 : Int32)), .val (.int (0 : Int32)), .unset] [(.ref b121)]))
          refine Goes.step (fun _ k => XS.lload X165.here hx rfl (hb hby at_94) rfl  k) ?_
          show Goes _ _ _ _ _ _ _ (T165.setTop (mkF m 96 #[.val (.int p0), .val (.long p1), .second, .val (.int p2), .val (.int (1 : Int32)), .val (.int (0 : Int32)), .val (.long u6), .second, .val (.ref r115_0_0), .val (.ref b121), .val (.int (1 : Int32)), .val (.int (0 : Int32)), .unset] [(.long u6), (.ref b121)]))
          obtain ⟨cq166, kq166, q166a, q166b, q166c⟩ := isOf hZ eh165 v146_0_2
          obtain ⟨_, _, ⟨T166, L166, k166, n166⟩, -, X166, ⟨Lc166, hQ166, l166, y166, z166⟩, st166⟩ := X165.virtualBack hx (y := (⟨"com/example/roles_to_grants/rolestogrants/input/ProblemList", "addUnnamed", "(J)V"⟩ : MethodName)) (z := (⟨"com/example/roles_to_grants/rolestogrants/input/ProblemList", "addUnnamed", "(J)V"⟩ : MethodName)) hown (mvT hZ (hw _ (List.mem_of_getElem? (i := 67) rfl))) (mvT hZ (hw _ (List.mem_of_getElem? (i := 68) rfl))) (notFace_of_selects (args := #[]) (mvT hZ (hw _ (List.mem_of_getElem? (i := 70) rfl)))) (mvT hZ (hw _ (List.mem_of_getElem? (i := 70) rfl))) (mvT hZ (hw _ (List.mem_of_getElem? (i := 69) rfl))) (by decide) (backOf (W := 0) (rm11 l Z a0 hw [] b121 u6 r131_0_0 (1 : Int64) T146.heap n0 Z159 v146_0_0 v146_0_1 v146_0_2 g_b121) hZ (hw _ (List.mem_of_getElem? (i := 71) rfl)) (hw _ (List.mem_of_getElem? (i := 29) rfl)) (by decide) (by decide)) q166a q166c (g := (mkF m 96 #[.val (.int p0), .val (.long p1), .second, .val (.int p2), .val (.int (1 : Int32)), .val (.int (0 : Int32)), .val (.long u6), .second, .val (.ref r115_0_0), .val (.ref b121), .val (.int (1 : Int32)), .val (.int (0 : Int32)), .unset] [(.long u6), (.ref b121)])) rfl (by rw [hml]; rfl) (Steps.refl _) (argsL := [(.long u6)]) (rest := []) (lenOf pd_6 rfl) rfl (by show 2 * 0 + _ ≤ _; exact Nat.le_of_eq rfl) (hb hby at_96) (fun _ _ => ⟨rfl, eh165, (by decide : 5 + 0 ≤ _), (by decide : 20 + 0 ≤ _)⟩)
          dsimp only [Pt.U, Pt.locs, Pt.cells, Pt.slots] at X166 l166 y166 z166 st166 hQ166
          subst l166 y166 z166
          obtain ⟨N166, KK166, hR166⟩ := hQ166
          have NA166 := Fr.app NA165 N166
          have XO167 : Old Z n0 T166.heap := XO147.keep KK166 (allS g_b121 all0)
          have f168 := f148.keep KK166 (ninS ne122 nin0)
          have f169 := f149.keep KK166
          have f170 := f150.keep KK166 (ninS ne124 nin0)
          have f171 := f151.keep KK166 (ninS ne123 nin0)
          have f172 := v146_0_2.keep KK166
          have f173 := v146_0_3.keep KK166
          have f176 := v146_0_4.keep KK166 (ninS (Ne.symm ne144) nin0)
          have f177 := v146_0_5.keep KK166 (ninS (Ne.symm ne144) nin0)
          have f178 := v146_0_6.keep KK166 (ninS (Ne.symm ne144) nin0)
          have f179 := v146_0_7.keep KK166 (ninS (Ne.symm ne163) nin0)
          have K180 : Keep h0 T166.heap [] := K159.trans KK166 (allS (Or.inr sz_b121) all0)
          have Z180 : n0 ≤ T166.heap.size := Nat.le_trans Z159 KK166.1
          obtain ⟨rfl, v166_0_0, v166_0_1, v166_0_2⟩ := hR166
          refine Goes.back st166 ?_
          show Goes _ _ _ _ _ _ _ (T166.setTop (mkF m 99 #[.val (.int p0), .val (.long p1), .second, .val (.int p2), .val (.int (1 : Int32)), .val (.int (0 : Int32)), .val (.long u6), .second, .val (.ref r115_0_0), .val (.ref b121), .val (.int (1 : Int32)), .val (.int (0 : Int32)), .unset] []))
          refine Goes.step (fun _ k => XS.iload X166.here hx rfl (hb hby at_99) rfl  k) ?_
          show Goes _ _ _ _ _ _ _ (T166.setTop (mkF m 101 #[.val (.int p0), .val (.long p1), .second, .val (.int p2), .val (.int (1 : Int32)), .val (.int (0 : Int32)), .val (.long u6), .second, .val (.ref r115_0_0), .val (.ref b121), .val (.int (1 : Int32)), .val (.int (0 : Int32)), .unset] [(.int (0 : Int32))]))
          refine Goes.step (fun _ k => XS.iconst X166.here hx rfl (hb hby at_101) k) ?_
          show Goes _ _ _ _ _ _ _ (T166.setTop (mkF m 102 #[.val (.int p0), .val (.long p1), .second, .val (.int p2), .val (.int (1 : Int32)), .val (.int (0 : Int32)), .val (.long u6), .second, .val (.ref r115_0_0), .val (.ref b121), .val (.int (1 : Int32)), .val (.int (0 : Int32)), .unset] [(.int (1 : Int32)), (.int (0 : Int32))]))
          refine Goes.step (fun _ k => XS.icmpYes X166.here hx rfl (pc0 := 102) (pc' := 112) rfl (hb hby at_102) rfl (feq (by decide : ¬ ((0 : Int32) = (1 : Int32)))).2 (by decide) (by decide) k) ?_
          show Goes _ _ _ _ _ _ _ (T166.setTop (mkF m 112 #[.val (.int p0), .val (.long p1), .second, .val (.int p2), .val (.int (1 : Int32)), .val (.int (0 : Int32)), .val (.long u6), .second, .val (.ref r115_0_0), .val (.ref b121), .val (.int (1 : Int32)), .val (.int (0 : Int32)), .unset] []))
          refine Goes.step (fun _ k => XS.aload X166.here hx rfl (hb hby at_112) rfl rfl k) ?_
          show Goes _ _ _ _ _ _ _ (T166.setTop (mkF m 114 #[.val (.int p0), .val (.long p1), .second, .val (.int p2), .val (.int (1 : Int32)), .val (.int (0 : Int32)), .val (.long u6), .second, .val (.ref r115_0_0), .val (.ref b121), .val (.int (1 : Int32)), .val (.int (0 : Int32)), .unset] [(.ref b121)]))
          obtain ⟨cq181, kq181, q181a, q181b, q181c⟩ := isOf hZ rfl v166_0_2
          obtain ⟨_, _, ⟨T181, L181, k181, n181⟩, -, X181, ⟨Lc181, hQ181, l181, y181, z181⟩, st181⟩ := X166.virtualBack hx (y := (⟨"com/example/roles_to_grants/rolestogrants/input/ProblemList", "isEmpty", "()Z"⟩ : MethodName)) (z := (⟨"com/example/roles_to_grants/rolestogrants/input/ProblemList", "isEmpty", "()Z"⟩ : MethodName)) hown (mvT hZ (hw _ (List.mem_of_getElem? (i := 60) rfl))) (mvT hZ (hw _ (List.mem_of_getElem? (i := 61) rfl))) (notFace_of_selects (args := #[]) (mvT hZ (hw _ (List.mem_of_getElem? (i := 63) rfl)))) (mvT hZ (hw _ (List.mem_of_getElem? (i := 63) rfl))) (mvT hZ (hw _ (List.mem_of_getElem? (i := 62) rfl))) (by decide) (backOf (W := 0) (rm10 l Z a0 hw [] b121 ((1 : Int64) + u6) T166.heap n0 Z180 v166_0_1) hZ (hw _ (List.mem_of_getElem? (i := 64) rfl)) (hw _ (List.mem_of_getElem? (i := 29) rfl)) (by decide) (by decide)) q181a q181c (g := (mkF m 114 #[.val (.int p0), .val (.long p1), .second, .val (.int p2), .val (.int (1 : Int32)), .val (.int (0 : Int32)), .val (.long u6), .second, .val (.ref r115_0_0), .val (.ref b121), .val (.int (1 : Int32)), .val (.int (0 : Int32)), .unset] [(.ref b121)])) rfl (by rw [hml]; rfl) (Steps.refl _) (argsL := []) (rest := []) (lenOf pd_5 rfl) rfl (by show 2 * 0 + _ ≤ _; exact Nat.le_of_eq rfl) (hb hby at_114) (fun _ _ => ⟨rfl, rfl, (by decide : 5 + 0 ≤ _), (by decide : 20 + 0 ≤ _)⟩)
          dsimp only [Pt.U, Pt.locs, Pt.cells, Pt.slots] at X181 l181 y181 z181 st181 hQ181
          subst l181 y181 z181
          obtain ⟨N181, eh181, hR181⟩ := hQ181
          have NA181 := Fr.app NA166 N181
          rcases hR181 with ⟨rfl, u181_0_0⟩ | ⟨rfl, u181_1_0⟩
          · exact absurd u181_0_0 (own_nz hg_u6 (1 : Int64) (by decide) (by decide))
          · refine Goes.back st181 ?_
            show Goes _ _ _ _ _ _ _ (T181.setTop (mkF m 117 #[.val (.int p0), .val (.long p1), .second, .val (.int p2), .val (.int (1 : Int32)), .val (.int (0 : Int32)), .val (.long u6), .second, .val (.ref r115_0_0), .val (.ref b121), .val (.int (1 : Int32)), .val (.int (0 : Int32)), .unset] [(.int (0 : Int32))]))
            refine Goes.step (fun _ k => XS.istore X181.here hx rfl (hb hby at_117) rfl (l' := #[.val (.int p0), .val (.long p1), .second, .val (.int p2), .val (.int (1 : Int32)), .val (.int (0 : Int32)), .val (.long u6), .second, .val (.ref r115_0_0), .val (.ref b121), .val (.int (1 : Int32)), .val (.int (0 : Int32)), .val (.int (0 : Int32))]) rfl k) ?_
            show Goes _ _ _ _ _ _ _ (T181.setTop (mkF m 119 #[.val (.int p0), .val (.long p1), .second, .val (.int p2), .val (.int (1 : Int32)), .val (.int (0 : Int32)), .val (.long u6), .second, .val (.ref r115_0_0), .val (.ref b121), .val (.int (1 : Int32)), .val (.int (0 : Int32)), .val (.int (0 : Int32))] []))
            refine Goes.step (fun _ k => XS.iload X181.here hx rfl (hb hby at_119) rfl  k) ?_
            show Goes _ _ _ _ _ _ _ (T181.setTop (mkF m 121 #[.val (.int p0), .val (.long p1), .second, .val (.int p2), .val (.int (1 : Int32)), .val (.int (0 : Int32)), .val (.long u6), .second, .val (.ref r115_0_0), .val (.ref b121), .val (.int (1 : Int32)), .val (.int (0 : Int32)), .val (.int (0 : Int32))] [(.int (1 : Int32))]))
            refine Goes.step (fun _ k => XS.ifNo X181.here hx rfl (hb hby at_121) rfl ((if0 _ _).trans (feq (by decide : ¬ ((1 : Int32) = (0 : Int32)))).1) k) ?_
            show Goes _ _ _ _ _ _ _ (T181.setTop (mkF m 124 #[.val (.int p0), .val (.long p1), .second, .val (.int p2), .val (.int (1 : Int32)), .val (.int (0 : Int32)), .val (.long u6), .second, .val (.ref r115_0_0), .val (.ref b121), .val (.int (1 : Int32)), .val (.int (0 : Int32)), .val (.int (0 : Int32))] []))
            refine Goes.step (fun _ k => XS.iload X181.here hx rfl (hb hby at_124) rfl  k) ?_
            show Goes _ _ _ _ _ _ _ (T181.setTop (mkF m 126 #[.val (.int p0), .val (.long p1), .second, .val (.int p2), .val (.int (1 : Int32)), .val (.int (0 : Int32)), .val (.long u6), .second, .val (.ref r115_0_0), .val (.ref b121), .val (.int (1 : Int32)), .val (.int (0 : Int32)), .val (.int (0 : Int32))] [(.int (0 : Int32))]))
            refine Goes.step (fun _ k => XS.iload X181.here hx rfl (hb hby at_126) rfl  k) ?_
            show Goes _ _ _ _ _ _ _ (T181.setTop (mkF m 128 #[.val (.int p0), .val (.long p1), .second, .val (.int p2), .val (.int (1 : Int32)), .val (.int (0 : Int32)), .val (.long u6), .second, .val (.ref r115_0_0), .val (.ref b121), .val (.int (1 : Int32)), .val (.int (0 : Int32)), .val (.int (0 : Int32))] [(.int (1 : Int32)), (.int (0 : Int32))]))
            refine Goes.step (fun _ k => XS.ifYes X181.here hx rfl (pc0 := 128) (pc' := 135) rfl (hb hby at_128) rfl ((if0 _ _).trans (feq (by decide : ¬ ((1 : Int32) = (0 : Int32)))).2) (by decide) (by decide) k) ?_
            show Goes _ _ _ _ _ _ _ (T181.setTop (mkF m 135 #[.val (.int p0), .val (.long p1), .second, .val (.int p2), .val (.int (1 : Int32)), .val (.int (0 : Int32)), .val (.long u6), .second, .val (.ref r115_0_0), .val (.ref b121), .val (.int (1 : Int32)), .val (.int (0 : Int32)), .val (.int (0 : Int32))] [(.int (0 : Int32))]))
            refine Goes.step (fun _ k => XS.iconst X181.here hx rfl (hb hby at_135) k) ?_
            show Goes _ _ _ _ _ _ _ (T181.setTop (mkF m 136 #[.val (.int p0), .val (.long p1), .second, .val (.int p2), .val (.int (1 : Int32)), .val (.int (0 : Int32)), .val (.long u6), .second, .val (.ref r115_0_0), .val (.ref b121), .val (.int (1 : Int32)), .val (.int (0 : Int32)), .val (.int (0 : Int32))] [(.int (0 : Int32)), (.int (0 : Int32))]))
            refine Goes.step (fun _ k => XS.icmpNo X181.here hx rfl (hb hby at_136) rfl (teq (by decide : (0 : Int32) = (0 : Int32))).2 k) ?_
            show Goes _ _ _ _ _ _ _ (T181.setTop (mkF m 139 #[.val (.int p0), .val (.long p1), .second, .val (.int p2), .val (.int (1 : Int32)), .val (.int (0 : Int32)), .val (.long u6), .second, .val (.ref r115_0_0), .val (.ref b121), .val (.int (1 : Int32)), .val (.int (0 : Int32)), .val (.int (0 : Int32))] []))
            refine Goes.step (fun _ k => XS.iload X181.here hx rfl (hb hby at_139) rfl  k) ?_
            show Goes _ _ _ _ _ _ _ (T181.setTop (mkF m 141 #[.val (.int p0), .val (.long p1), .second, .val (.int p2), .val (.int (1 : Int32)), .val (.int (0 : Int32)), .val (.long u6), .second, .val (.ref r115_0_0), .val (.ref b121), .val (.int (1 : Int32)), .val (.int (0 : Int32)), .val (.int (0 : Int32))] [(.int (0 : Int32))]))
            refine Goes.step (fun _ k => XS.iload X181.here hx rfl (hb hby at_141) rfl  k) ?_
            show Goes _ _ _ _ _ _ _ (T181.setTop (mkF m 143 #[.val (.int p0), .val (.long p1), .second, .val (.int p2), .val (.int (1 : Int32)), .val (.int (0 : Int32)), .val (.long u6), .second, .val (.ref r115_0_0), .val (.ref b121), .val (.int (1 : Int32)), .val (.int (0 : Int32)), .val (.int (0 : Int32))] [(.int (1 : Int32)), (.int (0 : Int32))]))
            refine Goes.step (fun _ k => XS.ifYes X181.here hx rfl (pc0 := 143) (pc' := 162) rfl (hb hby at_143) rfl ((if0 _ _).trans (feq (by decide : ¬ ((1 : Int32) = (0 : Int32)))).2) (by decide) (by decide) k) ?_
            show Goes _ _ _ _ _ _ _ (T181.setTop (mkF m 162 #[.val (.int p0), .val (.long p1), .second, .val (.int p2), .val (.int (1 : Int32)), .val (.int (0 : Int32)), .val (.long u6), .second, .val (.ref r115_0_0), .val (.ref b121), .val (.int (1 : Int32)), .val (.int (0 : Int32)), .val (.int (0 : Int32))] [(.int (0 : Int32))]))
            refine Goes.step (fun _ k => XS.iconst X181.here hx rfl (hb hby at_162) k) ?_
            show Goes _ _ _ _ _ _ _ (T181.setTop (mkF m 163 #[.val (.int p0), .val (.long p1), .second, .val (.int p2), .val (.int (1 : Int32)), .val (.int (0 : Int32)), .val (.long u6), .second, .val (.ref r115_0_0), .val (.ref b121), .val (.int (1 : Int32)), .val (.int (0 : Int32)), .val (.int (0 : Int32))] [(.int (0 : Int32)), (.int (0 : Int32))]))
            refine Goes.step (fun _ k => XS.icmpNo X181.here hx rfl (hb hby at_163) rfl (teq (by decide : (0 : Int32) = (0 : Int32))).2 k) ?_
            show Goes _ _ _ _ _ _ _ (T181.setTop (mkF m 166 #[.val (.int p0), .val (.long p1), .second, .val (.int p2), .val (.int (1 : Int32)), .val (.int (0 : Int32)), .val (.long u6), .second, .val (.ref r115_0_0), .val (.ref b121), .val (.int (1 : Int32)), .val (.int (0 : Int32)), .val (.int (0 : Int32))] []))
            refine Goes.step (fun _ k => XS.iconst X181.here hx rfl (hb hby at_166) k) ?_
            show Goes _ _ _ _ _ _ _ (T181.setTop (mkF m 167 #[.val (.int p0), .val (.long p1), .second, .val (.int p2), .val (.int (1 : Int32)), .val (.int (0 : Int32)), .val (.long u6), .second, .val (.ref r115_0_0), .val (.ref b121), .val (.int (1 : Int32)), .val (.int (0 : Int32)), .val (.int (0 : Int32))] [(.int (1 : Int32))]))
            refine Goes.step (fun _ k => XS.goto X181.here hx rfl (pc0 := 167) (pc' := 171) rfl (hb hby at_167) (by decide) (by decide) k) ?_
            show Goes _ _ _ _ _ _ _ (T181.setTop (mkF m 171 #[.val (.int p0), .val (.long p1), .second, .val (.int p2), .val (.int (1 : Int32)), .val (.int (0 : Int32)), .val (.long u6), .second, .val (.ref r115_0_0), .val (.ref b121), .val (.int (1 : Int32)), .val (.int (0 : Int32)), .val (.int (0 : Int32))] [(.int (1 : Int32))]))
            exact Goes.ret X181 hx (BodyLoose.notSynchronized Bd) Bd.returns rfl (Or.inl ⟨rfl, by simp, _, rfl⟩) (hb hby at_171) (by show Q0 Z p0 p1 p2 zC de kde h0 n0 (some (.int (1 : Int32))) T181.heap _; rw [eh181]; exact ⟨rfl, NA181⟩) (by decide) (by decide)
      · exact absurd (by decide : (0 : Int64) = (0 : Int64)) u145_1_0
    · show Goes _ _ _ _ _ _ _ (s₁.setTop (mkF m 12 #[.val (.int p0), .val (.long p1), .second, .val (.int p2), .val (.int (1 : Int32)), .val (.int (1 : Int32)), .unset, .unset, .unset, .unset, .unset, .unset, .unset] []))
      refine Goes.step (fun _ k => XS.lloadN X0.here hx rfl (hb hby at_12) rfl  k) ?_
      show Goes _ _ _ _ _ _ _ (s₁.setTop (mkF m 13 #[.val (.int p0), .val (.long p1), .second, .val (.int p2), .val (.int (1 : Int32)), .val (.int (1 : Int32)), .unset, .unset, .unset, .unset, .unset, .unset, .unset] [(.long p1)]))
      refine Goes.step (fun _ k => X0.ldc2Long hx hown (mvT hZ (hw _ (List.mem_of_getElem? (i := 0) rfl))) (g := (mkF m 13 #[.val (.int p0), .val (.long p1), .second, .val (.int p2), .val (.int (1 : Int32)), .val (.int (1 : Int32)), .unset, .unset, .unset, .unset, .unset, .unset, .unset] [(.long p1)])) rfl (hb hby at_13) _ k) ?_
      show Goes _ _ _ _ _ _ _ (s₁.setTop (mkF m 16 #[.val (.int p0), .val (.long p1), .second, .val (.int p2), .val (.int (1 : Int32)), .val (.int (1 : Int32)), .unset, .unset, .unset, .unset, .unset, .unset, .unset] [(.long (9223372036854775807 : Int64)), (.long p1)]))
      refine Goes.step (fun _ k => XS.land X0.here hx rfl (hb hby at_16) rfl k) ?_
      show Goes _ _ _ _ _ _ _ (s₁.setTop (mkF m 17 #[.val (.int p0), .val (.long p1), .second, .val (.int p2), .val (.int (1 : Int32)), .val (.int (1 : Int32)), .unset, .unset, .unset, .unset, .unset, .unset, .unset] [(.long (p1 &&& (9223372036854775807 : Int64)))]))
      refine Goes.step (fun _ k => XS.lstore X0.here hx rfl (hb hby at_17) rfl (l' := #[.val (.int p0), .val (.long p1), .second, .val (.int p2), .val (.int (1 : Int32)), .val (.int (1 : Int32)), .val (.long (p1 &&& (9223372036854775807 : Int64))), .second, .unset, .unset, .unset, .unset, .unset]) rfl k) ?_
      show Goes _ _ _ _ _ _ _ (s₁.setTop (mkF m 19 #[.val (.int p0), .val (.long p1), .second, .val (.int p2), .val (.int (1 : Int32)), .val (.int (1 : Int32)), .val (.long (p1 &&& (9223372036854775807 : Int64))), .second, .unset, .unset, .unset, .unset, .unset] []))
      generalize hg_u6 : (p1 &&& (9223372036854775807 : Int64)) = u6
      show Goes _ _ _ _ _ _ _ (s₁.setTop (mkF m 19 #[.val (.int p0), .val (.long p1), .second, .val (.int p2), .val (.int (1 : Int32)), .val (.int (1 : Int32)), .val (.long u6), .second, .unset, .unset, .unset, .unset, .unset] []))
      refine Goes.step (fun _ k => XS.iloadN X0.here hx rfl (hb hby at_19) rfl  k) ?_
      show Goes _ _ _ _ _ _ _ (s₁.setTop (mkF m 20 #[.val (.int p0), .val (.long p1), .second, .val (.int p2), .val (.int (1 : Int32)), .val (.int (1 : Int32)), .val (.long u6), .second, .unset, .unset, .unset, .unset, .unset] [(.int p2)]))
      refine Goes.step (fun _ k => XS.sipush X0.here hx rfl (hb hby at_20) k) ?_
      show Goes _ _ _ _ _ _ _ (s₁.setTop (mkF m 23 #[.val (.int p0), .val (.long p1), .second, .val (.int p2), .val (.int (1 : Int32)), .val (.int (1 : Int32)), .val (.long u6), .second, .unset, .unset, .unset, .unset, .unset] [(.int (255 : Int32)), (.int p2)]))
      refine Goes.step (fun _ k => XS.iand X0.here hx rfl (hb hby at_23) rfl k) ?_
      show Goes _ _ _ _ _ _ _ (s₁.setTop (mkF m 24 #[.val (.int p0), .val (.long p1), .second, .val (.int p2), .val (.int (1 : Int32)), .val (.int (1 : Int32)), .val (.long u6), .second, .unset, .unset, .unset, .unset, .unset] [(.int (p2 &&& (255 : Int32)))]))
      refine Goes.step (fun _ k => XS.i2c X0.here hx rfl (hb hby at_24) rfl k) ?_
      show Goes _ _ _ _ _ _ _ (s₁.setTop (mkF m 25 #[.val (.int p0), .val (.long p1), .second, .val (.int p2), .val (.int (1 : Int32)), .val (.int (1 : Int32)), .val (.long u6), .second, .unset, .unset, .unset, .unset, .unset] [(.int ((p2 &&& (255 : Int32)).toUInt32.toUInt16.toUInt32.toInt32))]))
      obtain ⟨_, _, ⟨T182, L182, k182, n182⟩, -, X182, ⟨Lc182, hQ182, l182, y182, z182⟩, st182⟩ := Jvm.LawKit.callS X0 hx (y := (⟨"java/lang/String", "valueOf", "(C)Ljava/lang/String;"⟩ : MethodName)) hown (mvT hZ (hw _ (List.mem_of_getElem? (i := 1) rfl))) (mvT hZ (hw _ (List.mem_of_getElem? (i := 2) rfl))) (mvT hZ (hw _ (List.mem_of_getElem? (i := 3) rfl))) (mvT hZ (hw _ (List.mem_of_getElem? (i := 4) rfl))) (by decide) (backOf (W := 0) (rm1 l Z a0 hw [] ((p2 &&& (255 : Int32)).toUInt32.toUInt16.toUInt32.toInt32) zC h0 n0 Z0 S_CS X00 P5 (own_char _)) hZ (hw _ (List.mem_of_getElem? (i := 4) rfl)) (hw _ (List.mem_of_getElem? (i := 3) rfl)) (by decide) (by decide)) (g := (mkF m 25 #[.val (.int p0), .val (.long p1), .second, .val (.int p2), .val (.int (1 : Int32)), .val (.int (1 : Int32)), .val (.long u6), .second, .unset, .unset, .unset, .unset, .unset] [(.int ((p2 &&& (255 : Int32)).toUInt32.toUInt16.toUInt32.toInt32))])) rfl (by rw [hml]; rfl) (argsL := [(.int ((p2 &&& (255 : Int32)).toUInt32.toUInt16.toUInt32.toInt32))]) (rest := []) (lenOf pd_0 rfl) rfl (by show 2 * 0 + _ ≤ _; exact Nat.le_of_eq rfl) (hb hby at_25) (fun _ _ => ⟨rfl, e0, (by decide : 0 + 2 ≤ _), (by decide : 0 + 5 ≤ _)⟩)
      dsimp only [Pt.U, Pt.locs, Pt.cells, Pt.slots] at X182 l182 y182 z182 st182 hQ182
      subst l182 y182 z182
      obtain ⟨N182, KK182, hR182⟩ := hQ182
      have NA182 := Fr.app N0 N182
      have XO183 : Old Z n0 T182.heap := X00.keep KK182 all0
      have f184 := V_de.keep KK182 nin0
      have K185 : Keep h0 T182.heap [] := K0.trans KK182 all0
      have Z185 : n0 ≤ T182.heap.size := Nat.le_trans Z0 KK182.1
      obtain ⟨r182_0_0, r182_0_1, kk182_0_0, rfl, u182_0_0, g_r182_0_0, le_r182_0_0, g_r182_0_1, le_r182_0_1, nn182_0_0, v182_0_0, v182_0_1, v182_0_2⟩ := hR182
      have ne186 : de ≠ r182_0_0 := Nat.ne_of_lt (Nat.lt_of_lt_of_le V_de.lt le_r182_0_0)
      have sz_r182_0_0 : h0.size ≤ r182_0_0 := Nat.le_trans K0.1 le_r182_0_0
      have ne187 : de ≠ r182_0_1 := Nat.ne_of_lt (Nat.lt_of_lt_of_le V_de.lt le_r182_0_1)
      have sz_r182_0_1 : h0.size ≤ r182_0_1 := Nat.le_trans K0.1 le_r182_0_1
      refine Goes.step st182 ?_
      show Goes _ _ _ _ _ _ _ (T182.setTop (mkF m 28 #[.val (.int p0), .val (.long p1), .second, .val (.int p2), .val (.int (1 : Int32)), .val (.int (1 : Int32)), .val (.long u6), .second, .unset, .unset, .unset, .unset, .unset] [(.ref r182_0_0)]))
      refine Goes.step (fun _ k => XS.astore X182.here hx rfl (hb hby at_28) rfl rfl (l' := #[.val (.int p0), .val (.long p1), .second, .val (.int p2), .val (.int (1 : Int32)), .val (.int (1 : Int32)), .val (.long u6), .second, .val (.ref r182_0_0), .unset, .unset, .unset, .unset]) rfl k) ?_
      show Goes _ _ _ _ _ _ _ (T182.setTop (mkF m 30 #[.val (.int p0), .val (.long p1), .second, .val (.int p2), .val (.int (1 : Int32)), .val (.int (1 : Int32)), .val (.long u6), .second, .val (.ref r182_0_0), .unset, .unset, .unset, .unset] []))
      obtain ⟨T188, h188, X188, e188, E188, A188, D188, -, st188⟩ := newO X182 hx hZ hown (hw _ (List.mem_of_getElem? (i := 27) rfl)) (hw _ (List.mem_of_getElem? (i := 28) rfl)) (hw _ (List.mem_of_getElem? (i := 29) rfl)) rfl (g := (mkF m 30 #[.val (.int p0), .val (.long p1), .second, .val (.int p2), .val (.int (1 : Int32)), .val (.int (1 : Int32)), .val (.long u6), .second, .val (.ref r182_0_0), .unset, .unset, .unset, .unset] [])) rfl (hb hby at_30) (by decide) (by decide)
      obtain ⟨b188, g188⟩ : ∃ z, z = T182.heap.size := ⟨_, rfl⟩
      rw [← g188] at A188 D188 st188
      refine Goes.step st188 ?_
      have g_b188 : n0 ≤ b188 := Nat.le_trans Z185 (Nat.le_of_eq g188.symm)
      have sz_b188 : h0.size ≤ b188 := Nat.le_trans K185.1 (Nat.le_of_eq g188.symm)
      have ne189 : de ≠ b188 := Nat.ne_of_lt (Nat.lt_of_lt_of_le f184.lt (Nat.le_of_eq g188.symm))
      have ne190 : r182_0_0 ≠ b188 := Nat.ne_of_lt (Nat.lt_of_lt_of_le v182_0_0.lt (Nat.le_of_eq g188.symm))
      have ne191 : r182_0_1 ≠ b188 := Nat.ne_of_lt (Nat.lt_of_lt_of_le v182_0_1.lt (Nat.le_of_eq g188.symm))
      have XO192 : Old Z n0 h188 := XO183.ext E188
      have f193 := f184.ext E188
      have f194 := v182_0_0.ext E188
      have f195 := v182_0_1.ext E188
      have f196 := v182_0_2.ext E188
      have K197 : Keep h0 h188 [] := K185.ext E188
      have Z197 : n0 ≤ h188.size := Nat.le_trans Z185 E188.1
      have E_b188 := A188
      have F_named_b188 : Fld Z h188 b188 "com/example/roles_to_grants/rolestogrants/input/ProblemList" "named" "Ljava/util/List;" .null := D188 (Or.inr (hw _ (List.mem_of_getElem? (i := 59) rfl))) (ty := (.object "java/util/List")) (by decide)
      have F_count_b188 : Fld Z h188 b188 "com/example/roles_to_grants/rolestogrants/input/ProblemList" "count" "J" (.long (0 : Int64)) := D188 (Or.inl (hw _ (List.mem_of_getElem? (i := 66) rfl))) (ty := .long) (by decide)
      show Goes _ _ _ _ _ _ _ (T188.setTop (mkF m 33 #[.val (.int p0), .val (.long p1), .second, .val (.int p2), .val (.int (1 : Int32)), .val (.int (1 : Int32)), .val (.long u6), .second, .val (.ref r182_0_0), .unset, .unset, .unset, .unset] [(.ref b188)]))
      refine Goes.step (fun _ k => XS.dup X188.here hx rfl (hb hby at_33) rfl rfl k) ?_
      show Goes _ _ _ _ _ _ _ (T188.setTop (mkF m 34 #[.val (.int p0), .val (.long p1), .second, .val (.int p2), .val (.int (1 : Int32)), .val (.int (1 : Int32)), .val (.long u6), .second, .val (.ref r182_0_0), .unset, .unset, .unset, .unset] [(.ref b188), (.ref b188)]))
      obtain ⟨_, _, ⟨T198, L198, k198, n198⟩, -, X198, ⟨Lc198, hQ198, l198, y198, z198⟩, st198⟩ := X188.specialBack hx (y := (⟨"com/example/roles_to_grants/rolestogrants/input/ProblemList", "<init>", "()V"⟩ : MethodName)) rfl hown (mvT hZ (hw _ (List.mem_of_getElem? (i := 30) rfl))) (mvT hZ (hw _ (List.mem_of_getElem? (i := 31) rfl))) (mvT hZ (hw _ (List.mem_of_getElem? (i := 32) rfl))) (by decide) (backOf (W := 1) (rm6 l Z a0 hw [] b188 de h188 n0 Z197 S_DE XO192 F_named_b188 F_count_b188 E_b188 g_b188) hZ (hw _ (List.mem_of_getElem? (i := 32) rfl)) (hw _ (List.mem_of_getElem? (i := 29) rfl)) (by decide) (by decide)) (g := (mkF m 34 #[.val (.int p0), .val (.long p1), .second, .val (.int p2), .val (.int (1 : Int32)), .val (.int (1 : Int32)), .val (.long u6), .second, .val (.ref r182_0_0), .unset, .unset, .unset, .unset] [(.ref b188), (.ref b188)])) rfl (by rw [hml]; rfl) (Steps.refl _) (a := b188) (argsL := []) (rest := [(.ref b188)]) (lenOf pd_4 rfl) rfl (by show 2 * 0 + _ ≤ _; exact Nat.le_of_eq rfl) (hb hby at_34) (fun _ _ => ⟨rfl, e188, (by decide : 3 + 1 ≤ _), (by decide : 7 + 3 ≤ _)⟩)
      dsimp only [Pt.U, Pt.locs, Pt.cells, Pt.slots] at X198 l198 y198 z198 st198 hQ198
      subst l198 y198 z198
      obtain ⟨N198, KK198, hR198⟩ := hQ198
      have NA198 := Fr.app NA182 N198
      have XO199 : Old Z n0 T198.heap := XO192.keep KK198 (allS g_b188 all0)
      have f200 := f193.keep KK198 (ninS ne189 nin0)
      have f201 := f194.keep KK198
      have f202 := f195.keep KK198 (ninS ne191 nin0)
      have f203 := f196.keep KK198 (ninS ne190 nin0)
      have f204 := E_b188.keep KK198
      have K207 : Keep h0 T198.heap [] := K197.trans KK198 (allS (Or.inr sz_b188) all0)
      have Z207 : n0 ≤ T198.heap.size := Nat.le_trans Z197 KK198.1
      obtain ⟨r198_0_0, rfl, g_r198_0_0, le_r198_0_0, v198_0_0, v198_0_1, v198_0_2, v198_0_3, v198_0_4, v198_0_5, v198_0_6⟩ := hR198
      have ne208 : de ≠ r198_0_0 := Nat.ne_of_lt (Nat.lt_of_lt_of_le f193.lt le_r198_0_0)
      have ne209 : r182_0_0 ≠ r198_0_0 := Nat.ne_of_lt (Nat.lt_of_lt_of_le f194.lt le_r198_0_0)
      have ne210 : r182_0_1 ≠ r198_0_0 := Nat.ne_of_lt (Nat.lt_of_lt_of_le f195.lt le_r198_0_0)
      have ne211 : b188 ≠ r198_0_0 := Nat.ne_of_lt (Nat.lt_of_lt_of_le E_b188.lt le_r198_0_0)
      have sz_r198_0_0 : h0.size ≤ r198_0_0 := Nat.le_trans K197.1 le_r198_0_0
      refine Goes.back st198 ?_
      show Goes _ _ _ _ _ _ _ (T198.setTop (mkF m 37 #[.val (.int p0), .val (.long p1), .second, .val (.int p2), .val (.int (1 : Int32)), .val (.int (1 : Int32)), .val (.long u6), .second, .val (.ref r182_0_0), .unset, .unset, .unset, .unset] [(.ref b188)]))
      refine Goes.step (fun _ k => XS.astore X198.here hx rfl (hb hby at_37) rfl rfl (l' := #[.val (.int p0), .val (.long p1), .second, .val (.int p2), .val (.int (1 : Int32)), .val (.int (1 : Int32)), .val (.long u6), .second, .val (.ref r182_0_0), .val (.ref b188), .unset, .unset, .unset]) rfl k) ?_
      show Goes _ _ _ _ _ _ _ (T198.setTop (mkF m 39 #[.val (.int p0), .val (.long p1), .second, .val (.int p2), .val (.int (1 : Int32)), .val (.int (1 : Int32)), .val (.long u6), .second, .val (.ref r182_0_0), .val (.ref b188), .unset, .unset, .unset] []))
      refine Goes.step (fun _ k => XS.aload X198.here hx rfl (hb hby at_39) rfl rfl k) ?_
      show Goes _ _ _ _ _ _ _ (T198.setTop (mkF m 41 #[.val (.int p0), .val (.long p1), .second, .val (.int p2), .val (.int (1 : Int32)), .val (.int (1 : Int32)), .val (.long u6), .second, .val (.ref r182_0_0), .val (.ref b188), .unset, .unset, .unset] [(.ref b188)]))
      obtain ⟨cq212, kq212, q212a, q212b, q212c⟩ := isOf hZ rfl v198_0_2
      obtain ⟨_, _, ⟨T212, L212, k212, n212⟩, -, X212, ⟨Lc212, hQ212, l212, y212, z212⟩, st212⟩ := X198.virtualBack hx (y := (⟨"com/example/roles_to_grants/rolestogrants/input/ProblemList", "isEmpty", "()Z"⟩ : MethodName)) (z := (⟨"com/example/roles_to_grants/rolestogrants/input/ProblemList", "isEmpty", "()Z"⟩ : MethodName)) hown (mvT hZ (hw _ (List.mem_of_getElem? (i := 60) rfl))) (mvT hZ (hw _ (List.mem_of_getElem? (i := 61) rfl))) (notFace_of_selects (args := #[]) (mvT hZ (hw _ (List.mem_of_getElem? (i := 63) rfl)))) (mvT hZ (hw _ (List.mem_of_getElem? (i := 63) rfl))) (mvT hZ (hw _ (List.mem_of_getElem? (i := 62) rfl))) (by decide) (backOf (W := 0) (rm10 l Z a0 hw [] b188 (0 : Int64) T198.heap n0 Z207 v198_0_1) hZ (hw _ (List.mem_of_getElem? (i := 64) rfl)) (hw _ (List.mem_of_getElem? (i := 29) rfl)) (by decide) (by decide)) q212a q212c (g := (mkF m 41 #[.val (.int p0), .val (.long p1), .second, .val (.int p2), .val (.int (1 : Int32)), .val (.int (1 : Int32)), .val (.long u6), .second, .val (.ref r182_0_0), .val (.ref b188), .unset, .unset, .unset] [(.ref b188)])) rfl (by rw [hml]; rfl) (Steps.refl _) (argsL := []) (rest := []) (lenOf pd_5 rfl) rfl (by show 2 * 0 + _ ≤ _; exact Nat.le_of_eq rfl) (hb hby at_41) (fun _ _ => ⟨rfl, rfl, (by decide : 4 + 0 ≤ _), (by decide : 10 + 0 ≤ _)⟩)
      dsimp only [Pt.U, Pt.locs, Pt.cells, Pt.slots] at X212 l212 y212 z212 st212 hQ212
      subst l212 y212 z212
      obtain ⟨N212, eh212, hR212⟩ := hQ212
      have NA212 := Fr.app NA198 N212
      rcases hR212 with ⟨rfl, u212_0_0⟩ | ⟨rfl, u212_1_0⟩
      · refine Goes.back st212 ?_
        show Goes _ _ _ _ _ _ _ (T212.setTop (mkF m 44 #[.val (.int p0), .val (.long p1), .second, .val (.int p2), .val (.int (1 : Int32)), .val (.int (1 : Int32)), .val (.long u6), .second, .val (.ref r182_0_0), .val (.ref b188), .unset, .unset, .unset] [(.int (1 : Int32))]))
        refine Goes.step (fun _ k => XS.istore X212.here hx rfl (hb hby at_44) rfl (l' := #[.val (.int p0), .val (.long p1), .second, .val (.int p2), .val (.int (1 : Int32)), .val (.int (1 : Int32)), .val (.long u6), .second, .val (.ref r182_0_0), .val (.ref b188), .val (.int (1 : Int32)), .unset, .unset]) rfl k) ?_
        show Goes _ _ _ _ _ _ _ (T212.setTop (mkF m 46 #[.val (.int p0), .val (.long p1), .second, .val (.int p2), .val (.int (1 : Int32)), .val (.int (1 : Int32)), .val (.long u6), .second, .val (.ref r182_0_0), .val (.ref b188), .val (.int (1 : Int32)), .unset, .unset] []))
        refine Goes.step (fun _ k => XS.iload X212.here hx rfl (hb hby at_46) rfl  k) ?_
        show Goes _ _ _ _ _ _ _ (T212.setTop (mkF m 48 #[.val (.int p0), .val (.long p1), .second, .val (.int p2), .val (.int (1 : Int32)), .val (.int (1 : Int32)), .val (.long u6), .second, .val (.ref r182_0_0), .val (.ref b188), .val (.int (1 : Int32)), .unset, .unset] [(.int (1 : Int32))]))
        refine Goes.step (fun _ k => XS.iconst X212.here hx rfl (hb hby at_48) k) ?_
        show Goes _ _ _ _ _ _ _ (T212.setTop (mkF m 49 #[.val (.int p0), .val (.long p1), .second, .val (.int p2), .val (.int (1 : Int32)), .val (.int (1 : Int32)), .val (.long u6), .second, .val (.ref r182_0_0), .val (.ref b188), .val (.int (1 : Int32)), .unset, .unset] [(.int (1 : Int32)), (.int (1 : Int32))]))
        refine Goes.step (fun _ k => XS.icmpNo X212.here hx rfl (hb hby at_49) rfl (flt (by decide : ¬ ((1 : Int32) < (1 : Int32)))).1 k) ?_
        show Goes _ _ _ _ _ _ _ (T212.setTop (mkF m 52 #[.val (.int p0), .val (.long p1), .second, .val (.int p2), .val (.int (1 : Int32)), .val (.int (1 : Int32)), .val (.long u6), .second, .val (.ref r182_0_0), .val (.ref b188), .val (.int (1 : Int32)), .unset, .unset] []))
        refine Goes.step (fun _ k => XS.aload X212.here hx rfl (hb hby at_52) rfl rfl k) ?_
        show Goes _ _ _ _ _ _ _ (T212.setTop (mkF m 54 #[.val (.int p0), .val (.long p1), .second, .val (.int p2), .val (.int (1 : Int32)), .val (.int (1 : Int32)), .val (.long u6), .second, .val (.ref r182_0_0), .val (.ref b188), .val (.int (1 : Int32)), .unset, .unset] [(.ref b188)]))
        refine Goes.step (fun _ k => XS.aload X212.here hx rfl (hb hby at_54) rfl rfl k) ?_
        show Goes _ _ _ _ _ _ _ (T212.setTop (mkF m 56 #[.val (.int p0), .val (.long p1), .second, .val (.int p2), .val (.int (1 : Int32)), .val (.int (1 : Int32)), .val (.long u6), .second, .val (.ref r182_0_0), .val (.ref b188), .val (.int (1 : Int32)), .unset, .unset] [(.ref r182_0_0), (.ref b188)]))
        obtain ⟨cq213, kq213, q213a, q213b, q213c⟩ := isOf hZ eh212 v198_0_2
        obtain ⟨_, _, ⟨T213, L213, k213, n213⟩, -, X213, ⟨Lc213, hQ213, l213, y213, z213⟩, st213⟩ := X212.virtualBack hx (y := (⟨"com/example/roles_to_grants/rolestogrants/input/ProblemList", "add", "(Ljava/lang/String;)V"⟩ : MethodName)) (z := (⟨"com/example/roles_to_grants/rolestogrants/input/ProblemList", "add", "(Ljava/lang/String;)V"⟩ : MethodName)) hown (mvT hZ (hw _ (List.mem_of_getElem? (i := 72) rfl))) (mvT hZ (hw _ (List.mem_of_getElem? (i := 73) rfl))) (notFace_of_selects (args := #[]) (mvT hZ (hw _ (List.mem_of_getElem? (i := 75) rfl)))) (mvT hZ (hw _ (List.mem_of_getElem? (i := 75) rfl))) (mvT hZ (hw _ (List.mem_of_getElem? (i := 74) rfl))) (by decide) (backOf (W := 0) (rm12_0 l Z a0 hw [] b188 r182_0_0 de r198_0_0 (0 : Int64) (0 : Int32) kde T198.heap n0 Z207 S_DE XO199 v198_0_0 v198_0_1 v198_0_4 v198_0_5 v198_0_6 v198_0_2 v198_0_3 f201 f200 g_b188 g_r198_0_0 ne189 ne208 ne211) hZ (hw _ (List.mem_of_getElem? (i := 76) rfl)) (hw _ (List.mem_of_getElem? (i := 29) rfl)) (by decide) (by decide)) q213a q213c (g := (mkF m 56 #[.val (.int p0), .val (.long p1), .second, .val (.int p2), .val (.int (1 : Int32)), .val (.int (1 : Int32)), .val (.long u6), .second, .val (.ref r182_0_0), .val (.ref b188), .val (.int (1 : Int32)), .unset, .unset] [(.ref r182_0_0), (.ref b188)])) rfl (by rw [hml]; rfl) (Steps.refl _) (argsL := [(.ref r182_0_0)]) (rest := []) (lenOf pd_7 rfl) rfl (by show 2 * 0 + _ ≤ _; exact Nat.le_of_eq rfl) (hb hby at_56) (fun _ _ => ⟨rfl, eh212, (by decide : 4 + 1 ≤ _), (by decide : 10 + 10 ≤ _)⟩)
        dsimp only [Pt.U, Pt.locs, Pt.cells, Pt.slots] at X213 l213 y213 z213 st213 hQ213
        subst l213 y213 z213
        obtain ⟨N213, KK213, hR213⟩ := hQ213
        have NA213 := Fr.app NA212 N213
        have XO214 : Old Z n0 T213.heap := XO199.keep KK213 (allS g_b188 (allS g_r198_0_0 all0))
        have f215 := f200.keep KK213 (ninS ne189 (ninS ne208 nin0))
        have f216 := f201.keep KK213
        have f217 := f202.keep KK213 (ninS ne191 (ninS ne210 nin0))
        have f218 := f203.keep KK213 (ninS ne190 (ninS ne209 nin0))
        have f219 := v198_0_2.keep KK213
        have f222 := v198_0_3.keep KK213
        have K226 : Keep h0 T213.heap [] := K207.trans KK213 (allS (Or.inr sz_b188) (allS (Or.inr sz_r198_0_0) all0))
        have Z226 : n0 ≤ T213.heap.size := Nat.le_trans Z207 KK213.1
        obtain ⟨r213_0_0, kk213_0_0, rfl, g_r213_0_0, le_r213_0_0, v213_0_0, v213_0_1, v213_0_2, v213_0_3, v213_0_4, v213_0_5, v213_0_6, v213_0_7, oo213_0_0⟩ := hR213
        have ne227 : de ≠ r213_0_0 := Nat.ne_of_lt (Nat.lt_of_lt_of_le f200.lt le_r213_0_0)
        have ne228 : r182_0_0 ≠ r213_0_0 := Nat.ne_of_lt (Nat.lt_of_lt_of_le f201.lt le_r213_0_0)
        have ne229 : r182_0_1 ≠ r213_0_0 := Nat.ne_of_lt (Nat.lt_of_lt_of_le f202.lt le_r213_0_0)
        have ne230 : b188 ≠ r213_0_0 := Nat.ne_of_lt (Nat.lt_of_lt_of_le v198_0_2.lt le_r213_0_0)
        have ne231 : r198_0_0 ≠ r213_0_0 := Nat.ne_of_lt (Nat.lt_of_lt_of_le v198_0_3.lt le_r213_0_0)
        have sz_r213_0_0 : h0.size ≤ r213_0_0 := Nat.le_trans K207.1 le_r213_0_0
        refine Goes.back st213 ?_
        show Goes _ _ _ _ _ _ _ (T213.setTop (mkF m 59 #[.val (.int p0), .val (.long p1), .second, .val (.int p2), .val (.int (1 : Int32)), .val (.int (1 : Int32)), .val (.long u6), .second, .val (.ref r182_0_0), .val (.ref b188), .val (.int (1 : Int32)), .unset, .unset] []))
        refine Goes.step (fun _ k => XS.iload X213.here hx rfl (hb hby at_59) rfl  k) ?_
        show Goes _ _ _ _ _ _ _ (T213.setTop (mkF m 61 #[.val (.int p0), .val (.long p1), .second, .val (.int p2), .val (.int (1 : Int32)), .val (.int (1 : Int32)), .val (.long u6), .second, .val (.ref r182_0_0), .val (.ref b188), .val (.int (1 : Int32)), .unset, .unset] [(.int (1 : Int32))]))
        refine Goes.step (fun _ k => XS.iconst X213.here hx rfl (hb hby at_61) k) ?_
        show Goes _ _ _ _ _ _ _ (T213.setTop (mkF m 62 #[.val (.int p0), .val (.long p1), .second, .val (.int p2), .val (.int (1 : Int32)), .val (.int (1 : Int32)), .val (.long u6), .second, .val (.ref r182_0_0), .val (.ref b188), .val (.int (1 : Int32)), .unset, .unset] [(.int (2 : Int32)), (.int (1 : Int32))]))
        refine Goes.step (fun _ k => XS.icmpYes X213.here hx rfl (pc0 := 62) (pc' := 72) rfl (hb hby at_62) rfl (tlt (by decide : (1 : Int32) < (2 : Int32))).1 (by decide) (by decide) k) ?_
        show Goes _ _ _ _ _ _ _ (T213.setTop (mkF m 72 #[.val (.int p0), .val (.long p1), .second, .val (.int p2), .val (.int (1 : Int32)), .val (.int (1 : Int32)), .val (.long u6), .second, .val (.ref r182_0_0), .val (.ref b188), .val (.int (1 : Int32)), .unset, .unset] []))
        refine Goes.step (fun _ k => XS.iload X213.here hx rfl (hb hby at_72) rfl  k) ?_
        show Goes _ _ _ _ _ _ _ (T213.setTop (mkF m 74 #[.val (.int p0), .val (.long p1), .second, .val (.int p2), .val (.int (1 : Int32)), .val (.int (1 : Int32)), .val (.long u6), .second, .val (.ref r182_0_0), .val (.ref b188), .val (.int (1 : Int32)), .unset, .unset] [(.int (1 : Int32))]))
        refine Goes.step (fun _ k => XS.iconst X213.here hx rfl (hb hby at_74) k) ?_
        show Goes _ _ _ _ _ _ _ (T213.setTop (mkF m 75 #[.val (.int p0), .val (.long p1), .second, .val (.int p2), .val (.int (1 : Int32)), .val (.int (1 : Int32)), .val (.long u6), .second, .val (.ref r182_0_0), .val (.ref b188), .val (.int (1 : Int32)), .unset, .unset] [(.int (3 : Int32)), (.int (1 : Int32))]))
        refine Goes.step (fun _ k => XS.icmpYes X213.here hx rfl (pc0 := 75) (pc' := 85) rfl (hb hby at_75) rfl (tlt (by decide : (1 : Int32) < (3 : Int32))).1 (by decide) (by decide) k) ?_
        show Goes _ _ _ _ _ _ _ (T213.setTop (mkF m 85 #[.val (.int p0), .val (.long p1), .second, .val (.int p2), .val (.int (1 : Int32)), .val (.int (1 : Int32)), .val (.long u6), .second, .val (.ref r182_0_0), .val (.ref b188), .val (.int (1 : Int32)), .unset, .unset] []))
        refine Goes.step (fun _ k => XS.aload X213.here hx rfl (hb hby at_85) rfl rfl k) ?_
        show Goes _ _ _ _ _ _ _ (T213.setTop (mkF m 87 #[.val (.int p0), .val (.long p1), .second, .val (.int p2), .val (.int (1 : Int32)), .val (.int (1 : Int32)), .val (.long u6), .second, .val (.ref r182_0_0), .val (.ref b188), .val (.int (1 : Int32)), .unset, .unset] [(.ref b188)]))
        obtain ⟨cq232, kq232, q232a, q232b, q232c⟩ := isOf hZ rfl v213_0_2
        obtain ⟨_, _, ⟨T232, L232, k232, n232⟩, -, X232, ⟨Lc232, hQ232, l232, y232, z232⟩, st232⟩ := X213.virtualBack hx (y := (⟨"com/example/roles_to_grants/rolestogrants/input/ProblemList", "isEmpty", "()Z"⟩ : MethodName)) (z := (⟨"com/example/roles_to_grants/rolestogrants/input/ProblemList", "isEmpty", "()Z"⟩ : MethodName)) hown (mvT hZ (hw _ (List.mem_of_getElem? (i := 60) rfl))) (mvT hZ (hw _ (List.mem_of_getElem? (i := 61) rfl))) (notFace_of_selects (args := #[]) (mvT hZ (hw _ (List.mem_of_getElem? (i := 63) rfl)))) (mvT hZ (hw _ (List.mem_of_getElem? (i := 63) rfl))) (mvT hZ (hw _ (List.mem_of_getElem? (i := 62) rfl))) (by decide) (backOf (W := 0) (rm10 l Z a0 hw [] b188 (1 : Int64) T213.heap n0 Z226 v213_0_1) hZ (hw _ (List.mem_of_getElem? (i := 64) rfl)) (hw _ (List.mem_of_getElem? (i := 29) rfl)) (by decide) (by decide)) q232a q232c (g := (mkF m 87 #[.val (.int p0), .val (.long p1), .second, .val (.int p2), .val (.int (1 : Int32)), .val (.int (1 : Int32)), .val (.long u6), .second, .val (.ref r182_0_0), .val (.ref b188), .val (.int (1 : Int32)), .unset, .unset] [(.ref b188)])) rfl (by rw [hml]; rfl) (Steps.refl _) (argsL := []) (rest := []) (lenOf pd_5 rfl) rfl (by show 2 * 0 + _ ≤ _; exact Nat.le_of_eq rfl) (hb hby at_87) (fun _ _ => ⟨rfl, rfl, (by decide : 5 + 0 ≤ _), (by decide : 20 + 0 ≤ _)⟩)
        dsimp only [Pt.U, Pt.locs, Pt.cells, Pt.slots] at X232 l232 y232 z232 st232 hQ232
        subst l232 y232 z232
        obtain ⟨N232, eh232, hR232⟩ := hQ232
        have NA232 := Fr.app NA213 N232
        rcases hR232 with ⟨rfl, u232_0_0⟩ | ⟨rfl, u232_1_0⟩
        · exact absurd u232_0_0 (by decide : ¬ ((1 : Int64) = (0 : Int64)))
        · refine Goes.back st232 ?_
          show Goes _ _ _ _ _ _ _ (T232.setTop (mkF m 90 #[.val (.int p0), .val (.long p1), .second, .val (.int p2), .val (.int (1 : Int32)), .val (.int (1 : Int32)), .val (.long u6), .second, .val (.ref r182_0_0), .val (.ref b188), .val (.int (1 : Int32)), .unset, .unset] [(.int (0 : Int32))]))
          refine Goes.step (fun _ k => XS.istore X232.here hx rfl (hb hby at_90) rfl (l' := #[.val (.int p0), .val (.long p1), .second, .val (.int p2), .val (.int (1 : Int32)), .val (.int (1 : Int32)), .val (.long u6), .second, .val (.ref r182_0_0), .val (.ref b188), .val (.int (1 : Int32)), .val (.int (0 : Int32)), .unset]) rfl k) ?_
          show Goes _ _ _ _ _ _ _ (T232.setTop (mkF m 92 #[.val (.int p0), .val (.long p1), .second, .val (.int p2), .val (.int (1 : Int32)), .val (.int (1 : Int32)), .val (.long u6), .second, .val (.ref r182_0_0), .val (.ref b188), .val (.int (1 : Int32)), .val (.int (0 : Int32)), .unset] []))
          refine Goes.step (fun _ k => XS.aload X232.here hx rfl (hb hby at_92) rfl rfl k) ?_
          show Goes _ _ _ _ _ _ _ (T232.setTop (mkF m 94 #[.val (.int p0), .val (.long p1), .second, .val (.int p2), .val (.int (1 : Int32)), .val (.int (1 : Int32)), .val (.long u6), .second, .val (.ref r182_0_0), .val (.ref b188), .val (.int (1 : Int32)), .val (.int (0 : Int32)), .unset] [(.ref b188)]))
          refine Goes.step (fun _ k => XS.lload X232.here hx rfl (hb hby at_94) rfl  k) ?_
          show Goes _ _ _ _ _ _ _ (T232.setTop (mkF m 96 #[.val (.int p0), .val (.long p1), .second, .val (.int p2), .val (.int (1 : Int32)), .val (.int (1 : Int32)), .val (.long u6), .second, .val (.ref r182_0_0), .val (.ref b188), .val (.int (1 : Int32)), .val (.int (0 : Int32)), .unset] [(.long u6), (.ref b188)]))
          obtain ⟨cq233, kq233, q233a, q233b, q233c⟩ := isOf hZ eh232 v213_0_2
          obtain ⟨_, _, ⟨T233, L233, k233, n233⟩, -, X233, ⟨Lc233, hQ233, l233, y233, z233⟩, st233⟩ := X232.virtualBack hx (y := (⟨"com/example/roles_to_grants/rolestogrants/input/ProblemList", "addUnnamed", "(J)V"⟩ : MethodName)) (z := (⟨"com/example/roles_to_grants/rolestogrants/input/ProblemList", "addUnnamed", "(J)V"⟩ : MethodName)) hown (mvT hZ (hw _ (List.mem_of_getElem? (i := 67) rfl))) (mvT hZ (hw _ (List.mem_of_getElem? (i := 68) rfl))) (notFace_of_selects (args := #[]) (mvT hZ (hw _ (List.mem_of_getElem? (i := 70) rfl)))) (mvT hZ (hw _ (List.mem_of_getElem? (i := 70) rfl))) (mvT hZ (hw _ (List.mem_of_getElem? (i := 69) rfl))) (by decide) (backOf (W := 0) (rm11 l Z a0 hw [] b188 u6 r198_0_0 (1 : Int64) T213.heap n0 Z226 v213_0_0 v213_0_1 v213_0_2 g_b188) hZ (hw _ (List.mem_of_getElem? (i := 71) rfl)) (hw _ (List.mem_of_getElem? (i := 29) rfl)) (by decide) (by decide)) q233a q233c (g := (mkF m 96 #[.val (.int p0), .val (.long p1), .second, .val (.int p2), .val (.int (1 : Int32)), .val (.int (1 : Int32)), .val (.long u6), .second, .val (.ref r182_0_0), .val (.ref b188), .val (.int (1 : Int32)), .val (.int (0 : Int32)), .unset] [(.long u6), (.ref b188)])) rfl (by rw [hml]; rfl) (Steps.refl _) (argsL := [(.long u6)]) (rest := []) (lenOf pd_6 rfl) rfl (by show 2 * 0 + _ ≤ _; exact Nat.le_of_eq rfl) (hb hby at_96) (fun _ _ => ⟨rfl, eh232, (by decide : 5 + 0 ≤ _), (by decide : 20 + 0 ≤ _)⟩)
          dsimp only [Pt.U, Pt.locs, Pt.cells, Pt.slots] at X233 l233 y233 z233 st233 hQ233
          subst l233 y233 z233
          obtain ⟨N233, KK233, hR233⟩ := hQ233
          have NA233 := Fr.app NA232 N233
          have XO234 : Old Z n0 T233.heap := XO214.keep KK233 (allS g_b188 all0)
          have f235 := f215.keep KK233 (ninS ne189 nin0)
          have f236 := f216.keep KK233
          have f237 := f217.keep KK233 (ninS ne191 nin0)
          have f238 := f218.keep KK233 (ninS ne190 nin0)
          have f239 := v213_0_2.keep KK233
          have f240 := v213_0_3.keep KK233
          have f243 := v213_0_4.keep KK233 (ninS (Ne.symm ne211) nin0)
          have f244 := v213_0_5.keep KK233 (ninS (Ne.symm ne211) nin0)
          have f245 := v213_0_6.keep KK233 (ninS (Ne.symm ne211) nin0)
          have f246 := v213_0_7.keep KK233 (ninS (Ne.symm ne230) nin0)
          have K247 : Keep h0 T233.heap [] := K226.trans KK233 (allS (Or.inr sz_b188) all0)
          have Z247 : n0 ≤ T233.heap.size := Nat.le_trans Z226 KK233.1
          obtain ⟨rfl, v233_0_0, v233_0_1, v233_0_2⟩ := hR233
          refine Goes.back st233 ?_
          show Goes _ _ _ _ _ _ _ (T233.setTop (mkF m 99 #[.val (.int p0), .val (.long p1), .second, .val (.int p2), .val (.int (1 : Int32)), .val (.int (1 : Int32)), .val (.long u6), .second, .val (.ref r182_0_0), .val (.ref b188), .val (.int (1 : Int32)), .val (.int (0 : Int32)), .unset] []))
          refine Goes.step (fun _ k => XS.iload X233.here hx rfl (hb hby at_99) rfl  k) ?_
          show Goes _ _ _ _ _ _ _ (T233.setTop (mkF m 101 #[.val (.int p0), .val (.long p1), .second, .val (.int p2), .val (.int (1 : Int32)), .val (.int (1 : Int32)), .val (.long u6), .second, .val (.ref r182_0_0), .val (.ref b188), .val (.int (1 : Int32)), .val (.int (0 : Int32)), .unset] [(.int (1 : Int32))]))
          refine Goes.step (fun _ k => XS.iconst X233.here hx rfl (hb hby at_101) k) ?_
          show Goes _ _ _ _ _ _ _ (T233.setTop (mkF m 102 #[.val (.int p0), .val (.long p1), .second, .val (.int p2), .val (.int (1 : Int32)), .val (.int (1 : Int32)), .val (.long u6), .second, .val (.ref r182_0_0), .val (.ref b188), .val (.int (1 : Int32)), .val (.int (0 : Int32)), .unset] [(.int (1 : Int32)), (.int (1 : Int32))]))
          refine Goes.step (fun _ k => XS.icmpNo X233.here hx rfl (hb hby at_102) rfl (teq (by decide : (1 : Int32) = (1 : Int32))).2 k) ?_
          show Goes _ _ _ _ _ _ _ (T233.setTop (mkF m 105 #[.val (.int p0), .val (.long p1), .second, .val (.int p2), .val (.int (1 : Int32)), .val (.int (1 : Int32)), .val (.long u6), .second, .val (.ref r182_0_0), .val (.ref b188), .val (.int (1 : Int32)), .val (.int (0 : Int32)), .unset] []))
          refine Goes.step (fun _ k => XS.aload X233.here hx rfl (hb hby at_105) rfl rfl k) ?_
          show Goes _ _ _ _ _ _ _ (T233.setTop (mkF m 107 #[.val (.int p0), .val (.long p1), .second, .val (.int p2), .val (.int (1 : Int32)), .val (.int (1 : Int32)), .val (.long u6), .second, .val (.ref r182_0_0), .val (.ref b188), .val (.int (1 : Int32)), .val (.int (0 : Int32)), .unset] [(.ref b188)]))
          refine Goes.step (fun _ k => XS.aload X233.here hx rfl (hb hby at_107) rfl rfl k) ?_
          show Goes _ _ _ _ _ _ _ (T233.setTop (mkF m 109 #[.val (.int p0), .val (.long p1), .second, .val (.int p2), .val (.int (1 : Int32)), .val (.int (1 : Int32)), .val (.long u6), .second, .val (.ref r182_0_0), .val (.ref b188), .val (.int (1 : Int32)), .val (.int (0 : Int32)), .unset] [(.ref r182_0_0), (.ref b188)]))
          obtain ⟨cq248, kq248, q248a, q248b, q248c⟩ := isOf hZ rfl v233_0_2
          obtain ⟨_, _, ⟨T248, L248, k248, n248⟩, -, X248, ⟨Lc248, hQ248, l248, y248, z248⟩, st248⟩ := X233.virtualBack hx (y := (⟨"com/example/roles_to_grants/rolestogrants/input/ProblemList", "add", "(Ljava/lang/String;)V"⟩ : MethodName)) (z := (⟨"com/example/roles_to_grants/rolestogrants/input/ProblemList", "add", "(Ljava/lang/String;)V"⟩ : MethodName)) hown (mvT hZ (hw _ (List.mem_of_getElem? (i := 72) rfl))) (mvT hZ (hw _ (List.mem_of_getElem? (i := 73) rfl))) (notFace_of_selects (args := #[]) (mvT hZ (hw _ (List.mem_of_getElem? (i := 75) rfl)))) (mvT hZ (hw _ (List.mem_of_getElem? (i := 75) rfl))) (mvT hZ (hw _ (List.mem_of_getElem? (i := 74) rfl))) (by decide) (backOf (W := 0) (rm12_1 l Z a0 hw [] b188 r182_0_0 r198_0_0 ((1 : Int64) + u6) (1 : Int32) r213_0_0 kk213_0_0 T233.heap n0 Z247 v233_0_0 v233_0_1 f243 f244 f245 v233_0_2 f240 f236 (own_arx f246) oo213_0_0 g_b188 g_r198_0_0 g_r213_0_0 (Ne.symm ne230) (Ne.symm ne231) ne211) hZ (hw _ (List.mem_of_getElem? (i := 76) rfl)) (hw _ (List.mem_of_getElem? (i := 29) rfl)) (by decide) (by decide)) q248a q248c (g := (mkF m 109 #[.val (.int p0), .val (.long p1), .second, .val (.int p2), .val (.int (1 : Int32)), .val (.int (1 : Int32)), .val (.long u6), .second, .val (.ref r182_0_0), .val (.ref b188), .val (.int (1 : Int32)), .val (.int (0 : Int32)), .unset] [(.ref r182_0_0), (.ref b188)])) rfl (by rw [hml]; rfl) (Steps.refl _) (argsL := [(.ref r182_0_0)]) (rest := []) (lenOf pd_7 rfl) rfl (by show 2 * 0 + _ ≤ _; exact Nat.le_of_eq rfl) (hb hby at_109) (fun _ _ => ⟨rfl, rfl, (by decide : 5 + 0 ≤ _), (by decide : 20 + 0 ≤ _)⟩)
          dsimp only [Pt.U, Pt.locs, Pt.cells, Pt.slots] at X248 l248 y248 z248 st248 hQ248
          subst l248 y248 z248
          obtain ⟨N248, KK248, hR248⟩ := hQ248
          have NA248 := Fr.app NA233 N248
          have XO249 : Old Z n0 T248.heap := XO234.keep KK248 (allS g_b188 (allS g_r198_0_0 (allS g_r213_0_0 all0)))
          have f250 := f235.keep KK248 (ninS ne189 (ninS ne208 (ninS ne227 nin0)))
          have f251 := f236.keep KK248
          have f252 := f237.keep KK248 (ninS ne191 (ninS ne210 (ninS ne229 nin0)))
          have f253 := f238.keep KK248 (ninS ne190 (ninS ne209 (ninS ne228 nin0)))
          have f254 := v233_0_2.keep KK248
          have f255 := f240.keep KK248
          have K262 : Keep h0 T248.heap [] := K247.trans KK248 (allS (Or.inr sz_b188) (allS (Or.inr sz_r198_0_0) (allS (Or.inr sz_r213_0_0) all0)))
          have Z262 : n0 ≤ T248.heap.size := Nat.le_trans Z247 KK248.1
          obtain ⟨rfl, v248_0_0, v248_0_1, v248_0_2, v248_0_3, v248_0_4, v248_0_5, v248_0_6, v248_0_7⟩ := hR248
          refine Goes.back st248 ?_
          show Goes _ _ _ _ _ _ _ (T248.setTop (mkF m 112 #[.val (.int p0), .val (.long p1), .second, .val (.int p2), .val (.int (1 : Int32)), .val (.int (1 : Int32)), .val (.long u6), .second, .val (.ref r182_0_0), .val (.ref b188), .val (.int (1 : Int32)), .val (.int (0 : Int32)), .unset] []))
          refine Goes.step (fun _ k => XS.aload X248.here hx rfl (hb hby at_112) rfl rfl k) ?_
          show Goes _ _ _ _ _ _ _ (T248.setTop (mkF m 114 #[.val (.int p0), .val (.long p1), .second, .val (.int p2), .val (.int (1 : Int32)), .val (.int (1 : Int32)), .val (.long u6), .second, .val (.ref r182_0_0), .val (.ref b188), .val (.int (1 : Int32)), .val (.int (0 : Int32)), .unset] [(.ref b188)]))
          obtain ⟨cq263, kq263, q263a, q263b, q263c⟩ := isOf hZ rfl v248_0_2
          obtain ⟨_, _, ⟨T263, L263, k263, n263⟩, -, X263, ⟨Lc263, hQ263, l263, y263, z263⟩, st263⟩ := X248.virtualBack hx (y := (⟨"com/example/roles_to_grants/rolestogrants/input/ProblemList", "isEmpty", "()Z"⟩ : MethodName)) (z := (⟨"com/example/roles_to_grants/rolestogrants/input/ProblemList", "isEmpty", "()Z"⟩ : MethodName)) hown (mvT hZ (hw _ (List.mem_of_getElem? (i := 60) rfl))) (mvT hZ (hw _ (List.mem_of_getElem? (i := 61) rfl))) (notFace_of_selects (args := #[]) (mvT hZ (hw _ (List.mem_of_getElem? (i := 63) rfl)))) (mvT hZ (hw _ (List.mem_of_getElem? (i := 63) rfl))) (mvT hZ (hw _ (List.mem_of_getElem? (i := 62) rfl))) (by decide) (backOf (W := 0) (rm10 l Z a0 hw [] b188 (((1 : Int64) + u6) + (1 : Int64)) T248.heap n0 Z262 v248_0_1) hZ (hw _ (List.mem_of_getElem? (i := 64) rfl)) (hw _ (List.mem_of_getElem? (i := 29) rfl)) (by decide) (by decide)) q263a q263c (g := (mkF m 114 #[.val (.int p0), .val (.long p1), .second, .val (.int p2), .val (.int (1 : Int32)), .val (.int (1 : Int32)), .val (.long u6), .second, .val (.ref r182_0_0), .val (.ref b188), .val (.int (1 : Int32)), .val (.int (0 : Int32)), .unset] [(.ref b188)])) rfl (by rw [hml]; rfl) (Steps.refl _) (argsL := []) (rest := []) (lenOf pd_5 rfl) rfl (by show 2 * 0 + _ ≤ _; exact Nat.le_of_eq rfl) (hb hby at_114) (fun _ _ => ⟨rfl, rfl, (by decide : 5 + 0 ≤ _), (by decide : 20 + 0 ≤ _)⟩)
          dsimp only [Pt.U, Pt.locs, Pt.cells, Pt.slots] at X263 l263 y263 z263 st263 hQ263
          subst l263 y263 z263
          obtain ⟨N263, eh263, hR263⟩ := hQ263
          have NA263 := Fr.app NA248 N263
          rcases hR263 with ⟨rfl, u263_0_0⟩ | ⟨rfl, u263_1_0⟩
          · exact absurd u263_0_0 (own_nz1 hg_u6 (1 : Int64) (by decide) (by decide))
          · refine Goes.back st263 ?_
            show Goes _ _ _ _ _ _ _ (T263.setTop (mkF m 117 #[.val (.int p0), .val (.long p1), .second, .val (.int p2), .val (.int (1 : Int32)), .val (.int (1 : Int32)), .val (.long u6), .second, .val (.ref r182_0_0), .val (.ref b188), .val (.int (1 : Int32)), .val (.int (0 : Int32)), .unset] [(.int (0 : Int32))]))
            refine Goes.step (fun _ k => XS.istore X263.here hx rfl (hb hby at_117) rfl (l' := #[.val (.int p0), .val (.long p1), .second, .val (.int p2), .val (.int (1 : Int32)), .val (.int (1 : Int32)), .val (.long u6), .second, .val (.ref r182_0_0), .val (.ref b188), .val (.int (1 : Int32)), .val (.int (0 : Int32)), .val (.int (0 : Int32))]) rfl k) ?_
            show Goes _ _ _ _ _ _ _ (T263.setTop (mkF m 119 #[.val (.int p0), .val (.long p1), .second, .val (.int p2), .val (.int (1 : Int32)), .val (.int (1 : Int32)), .val (.long u6), .second, .val (.ref r182_0_0), .val (.ref b188), .val (.int (1 : Int32)), .val (.int (0 : Int32)), .val (.int (0 : Int32))] []))
            refine Goes.step (fun _ k => XS.iload X263.here hx rfl (hb hby at_119) rfl  k) ?_
            show Goes _ _ _ _ _ _ _ (T263.setTop (mkF m 121 #[.val (.int p0), .val (.long p1), .second, .val (.int p2), .val (.int (1 : Int32)), .val (.int (1 : Int32)), .val (.long u6), .second, .val (.ref r182_0_0), .val (.ref b188), .val (.int (1 : Int32)), .val (.int (0 : Int32)), .val (.int (0 : Int32))] [(.int (1 : Int32))]))
            refine Goes.step (fun _ k => XS.ifNo X263.here hx rfl (hb hby at_121) rfl ((if0 _ _).trans (feq (by decide : ¬ ((1 : Int32) = (0 : Int32)))).1) k) ?_
            show Goes _ _ _ _ _ _ _ (T263.setTop (mkF m 124 #[.val (.int p0), .val (.long p1), .second, .val (.int p2), .val (.int (1 : Int32)), .val (.int (1 : Int32)), .val (.long u6), .second, .val (.ref r182_0_0), .val (.ref b188), .val (.int (1 : Int32)), .val (.int (0 : Int32)), .val (.int (0 : Int32))] []))
            refine Goes.step (fun _ k => XS.iload X263.here hx rfl (hb hby at_124) rfl  k) ?_
            show Goes _ _ _ _ _ _ _ (T263.setTop (mkF m 126 #[.val (.int p0), .val (.long p1), .second, .val (.int p2), .val (.int (1 : Int32)), .val (.int (1 : Int32)), .val (.long u6), .second, .val (.ref r182_0_0), .val (.ref b188), .val (.int (1 : Int32)), .val (.int (0 : Int32)), .val (.int (0 : Int32))] [(.int (0 : Int32))]))
            refine Goes.step (fun _ k => XS.iload X263.here hx rfl (hb hby at_126) rfl  k) ?_
            show Goes _ _ _ _ _ _ _ (T263.setTop (mkF m 128 #[.val (.int p0), .val (.long p1), .second, .val (.int p2), .val (.int (1 : Int32)), .val (.int (1 : Int32)), .val (.long u6), .second, .val (.ref r182_0_0), .val (.ref b188), .val (.int (1 : Int32)), .val (.int (0 : Int32)), .val (.int (0 : Int32))] [(.int (1 : Int32)), (.int (0 : Int32))]))
            refine Goes.step (fun _ k => XS.ifYes X263.here hx rfl (pc0 := 128) (pc' := 135) rfl (hb hby at_128) rfl ((if0 _ _).trans (feq (by decide : ¬ ((1 : Int32) = (0 : Int32)))).2) (by decide) (by decide) k) ?_
            show Goes _ _ _ _ _ _ _ (T263.setTop (mkF m 135 #[.val (.int p0), .val (.long p1), .second, .val (.int p2), .val (.int (1 : Int32)), .val (.int (1 : Int32)), .val (.long u6), .second, .val (.ref r182_0_0), .val (.ref b188), .val (.int (1 : Int32)), .val (.int (0 : Int32)), .val (.int (0 : Int32))] [(.int (0 : Int32))]))
            refine Goes.step (fun _ k => XS.iconst X263.here hx rfl (hb hby at_135) k) ?_
            show Goes _ _ _ _ _ _ _ (T263.setTop (mkF m 136 #[.val (.int p0), .val (.long p1), .second, .val (.int p2), .val (.int (1 : Int32)), .val (.int (1 : Int32)), .val (.long u6), .second, .val (.ref r182_0_0), .val (.ref b188), .val (.int (1 : Int32)), .val (.int (0 : Int32)), .val (.int (0 : Int32))] [(.int (0 : Int32)), (.int (0 : Int32))]))
            refine Goes.step (fun _ k => XS.icmpNo X263.here hx rfl (hb hby at_136) rfl (teq (by decide : (0 : Int32) = (0 : Int32))).2 k) ?_
            show Goes _ _ _ _ _ _ _ (T263.setTop (mkF m 139 #[.val (.int p0), .val (.long p1), .second, .val (.int p2), .val (.int (1 : Int32)), .val (.int (1 : Int32)), .val (.long u6), .second, .val (.ref r182_0_0), .val (.ref b188), .val (.int (1 : Int32)), .val (.int (0 : Int32)), .val (.int (0 : Int32))] []))
            refine Goes.step (fun _ k => XS.iload X263.here hx rfl (hb hby at_139) rfl  k) ?_
            show Goes _ _ _ _ _ _ _ (T263.setTop (mkF m 141 #[.val (.int p0), .val (.long p1), .second, .val (.int p2), .val (.int (1 : Int32)), .val (.int (1 : Int32)), .val (.long u6), .second, .val (.ref r182_0_0), .val (.ref b188), .val (.int (1 : Int32)), .val (.int (0 : Int32)), .val (.int (0 : Int32))] [(.int (0 : Int32))]))
            refine Goes.step (fun _ k => XS.iload X263.here hx rfl (hb hby at_141) rfl  k) ?_
            show Goes _ _ _ _ _ _ _ (T263.setTop (mkF m 143 #[.val (.int p0), .val (.long p1), .second, .val (.int p2), .val (.int (1 : Int32)), .val (.int (1 : Int32)), .val (.long u6), .second, .val (.ref r182_0_0), .val (.ref b188), .val (.int (1 : Int32)), .val (.int (0 : Int32)), .val (.int (0 : Int32))] [(.int (1 : Int32)), (.int (0 : Int32))]))
            refine Goes.step (fun _ k => XS.ifYes X263.here hx rfl (pc0 := 143) (pc' := 162) rfl (hb hby at_143) rfl ((if0 _ _).trans (feq (by decide : ¬ ((1 : Int32) = (0 : Int32)))).2) (by decide) (by decide) k) ?_
            show Goes _ _ _ _ _ _ _ (T263.setTop (mkF m 162 #[.val (.int p0), .val (.long p1), .second, .val (.int p2), .val (.int (1 : Int32)), .val (.int (1 : Int32)), .val (.long u6), .second, .val (.ref r182_0_0), .val (.ref b188), .val (.int (1 : Int32)), .val (.int (0 : Int32)), .val (.int (0 : Int32))] [(.int (0 : Int32))]))
            refine Goes.step (fun _ k => XS.iconst X263.here hx rfl (hb hby at_162) k) ?_
            show Goes _ _ _ _ _ _ _ (T263.setTop (mkF m 163 #[.val (.int p0), .val (.long p1), .second, .val (.int p2), .val (.int (1 : Int32)), .val (.int (1 : Int32)), .val (.long u6), .second, .val (.ref r182_0_0), .val (.ref b188), .val (.int (1 : Int32)), .val (.int (0 : Int32)), .val (.int (0 : Int32))] [(.int (0 : Int32)), (.int (0 : Int32))]))
            refine Goes.step (fun _ k => XS.icmpNo X263.here hx rfl (hb hby at_163) rfl (teq (by decide : (0 : Int32) = (0 : Int32))).2 k) ?_
            show Goes _ _ _ _ _ _ _ (T263.setTop (mkF m 166 #[.val (.int p0), .val (.long p1), .second, .val (.int p2), .val (.int (1 : Int32)), .val (.int (1 : Int32)), .val (.long u6), .second, .val (.ref r182_0_0), .val (.ref b188), .val (.int (1 : Int32)), .val (.int (0 : Int32)), .val (.int (0 : Int32))] []))
            refine Goes.step (fun _ k => XS.iconst X263.here hx rfl (hb hby at_166) k) ?_
            show Goes _ _ _ _ _ _ _ (T263.setTop (mkF m 167 #[.val (.int p0), .val (.long p1), .second, .val (.int p2), .val (.int (1 : Int32)), .val (.int (1 : Int32)), .val (.long u6), .second, .val (.ref r182_0_0), .val (.ref b188), .val (.int (1 : Int32)), .val (.int (0 : Int32)), .val (.int (0 : Int32))] [(.int (1 : Int32))]))
            refine Goes.step (fun _ k => XS.goto X263.here hx rfl (pc0 := 167) (pc' := 171) rfl (hb hby at_167) (by decide) (by decide) k) ?_
            show Goes _ _ _ _ _ _ _ (T263.setTop (mkF m 171 #[.val (.int p0), .val (.long p1), .second, .val (.int p2), .val (.int (1 : Int32)), .val (.int (1 : Int32)), .val (.long u6), .second, .val (.ref r182_0_0), .val (.ref b188), .val (.int (1 : Int32)), .val (.int (0 : Int32)), .val (.int (0 : Int32))] [(.int (1 : Int32))]))
            exact Goes.ret X263 hx (BodyLoose.notSynchronized Bd) Bd.returns rfl (Or.inl ⟨rfl, by simp, _, rfl⟩) (hb hby at_171) (by show Q0 Z p0 p1 p2 zC de kde h0 n0 (some (.int (1 : Int32))) T263.heap _; rw [eh263]; exact ⟨rfl, NA263⟩) (by decide) (by decide)
      · exact absurd (by decide : (0 : Int64) = (0 : Int64)) u212_1_0
  · show Goes _ _ _ _ _ _ _ (s₁.setTop (mkF m 5 #[.val (.int p0), .val (.long p1), .second, .val (.int p2), .val (.int (2 : Int32)), .unset, .unset, .unset, .unset, .unset, .unset, .unset, .unset] []))
    refine Goes.step (fun _ k => XS.iloadN X0.here hx rfl (hb hby at_5) rfl  k) ?_
    show Goes _ _ _ _ _ _ _ (s₁.setTop (mkF m 6 #[.val (.int p0), .val (.long p1), .second, .val (.int p2), .val (.int (2 : Int32)), .unset, .unset, .unset, .unset, .unset, .unset, .unset, .unset] [(.int p0)]))
    refine Goes.step (fun _ k => XS.iconst X0.here hx rfl (hb hby at_6) k) ?_
    show Goes _ _ _ _ _ _ _ (s₁.setTop (mkF m 7 #[.val (.int p0), .val (.long p1), .second, .val (.int p2), .val (.int (2 : Int32)), .unset, .unset, .unset, .unset, .unset, .unset, .unset, .unset] [(.int (2 : Int32)), (.int p0)]))
    refine Goes.step (fun _ k => XS.iushr X0.here hx rfl (hb hby at_7) rfl k) ?_
    show Goes _ _ _ _ _ _ _ (s₁.setTop (mkF m 8 #[.val (.int p0), .val (.long p1), .second, .val (.int p2), .val (.int (2 : Int32)), .unset, .unset, .unset, .unset, .unset, .unset, .unset, .unset] [(.int ((p0.toUInt32 >>> ((2 : Int32) &&& 31).toUInt32).toInt32))]))
    refine Goes.step (fun _ k => XS.iconst X0.here hx rfl (hb hby at_8) k) ?_
    show Goes _ _ _ _ _ _ _ (s₁.setTop (mkF m 9 #[.val (.int p0), .val (.long p1), .second, .val (.int p2), .val (.int (2 : Int32)), .unset, .unset, .unset, .unset, .unset, .unset, .unset, .unset] [(.int (1 : Int32)), (.int ((p0.toUInt32 >>> ((2 : Int32) &&& 31).toUInt32).toInt32))]))
    refine Goes.step (fun _ k => XS.iand X0.here hx rfl (hb hby at_9) rfl k) ?_
    show Goes _ _ _ _ _ _ _ (s₁.setTop (mkF m 10 #[.val (.int p0), .val (.long p1), .second, .val (.int p2), .val (.int (2 : Int32)), .unset, .unset, .unset, .unset, .unset, .unset, .unset, .unset] [(.int (((p0.toUInt32 >>> ((2 : Int32) &&& 31).toUInt32).toInt32) &&& (1 : Int32)))]))
    refine Goes.step (fun _ k => XS.istore X0.here hx rfl (hb hby at_10) rfl (l' := #[.val (.int p0), .val (.long p1), .second, .val (.int p2), .val (.int (2 : Int32)), .val (.int (((p0.toUInt32 >>> ((2 : Int32) &&& 31).toUInt32).toInt32) &&& (1 : Int32))), .unset, .unset, .unset, .unset, .unset, .unset, .unset]) rfl k) ?_
    show Goes _ _ _ _ _ _ _ (s₁.setTop (mkF m 12 #[.val (.int p0), .val (.long p1), .second, .val (.int p2), .val (.int (2 : Int32)), .val (.int (((p0.toUInt32 >>> ((2 : Int32) &&& 31).toUInt32).toInt32) &&& (1 : Int32))), .unset, .unset, .unset, .unset, .unset, .unset, .unset] []))
    generalize hg_b5 : (((p0.toUInt32 >>> ((2 : Int32) &&& 31).toUInt32).toInt32) &&& (1 : Int32)) = b5
    show Goes _ _ _ _ _ _ _ (s₁.setTop (mkF m 12 #[.val (.int p0), .val (.long p1), .second, .val (.int p2), .val (.int (2 : Int32)), .val (.int b5), .unset, .unset, .unset, .unset, .unset, .unset, .unset] []))
    rcases own_and1 hg_b5 with rfl | rfl
    · show Goes _ _ _ _ _ _ _ (s₁.setTop (mkF m 12 #[.val (.int p0), .val (.long p1), .second, .val (.int p2), .val (.int (2 : Int32)), .val (.int (0 : Int32)), .unset, .unset, .unset, .unset, .unset, .unset, .unset] []))
      refine Goes.step (fun _ k => XS.lloadN X0.here hx rfl (hb hby at_12) rfl  k) ?_
      show Goes _ _ _ _ _ _ _ (s₁.setTop (mkF m 13 #[.val (.int p0), .val (.long p1), .second, .val (.int p2), .val (.int (2 : Int32)), .val (.int (0 : Int32)), .unset, .unset, .unset, .unset, .unset, .unset, .unset] [(.long p1)]))
      refine Goes.step (fun _ k => X0.ldc2Long hx hown (mvT hZ (hw _ (List.mem_of_getElem? (i := 0) rfl))) (g := (mkF m 13 #[.val (.int p0), .val (.long p1), .second, .val (.int p2), .val (.int (2 : Int32)), .val (.int (0 : Int32)), .unset, .unset, .unset, .unset, .unset, .unset, .unset] [(.long p1)])) rfl (hb hby at_13) _ k) ?_
      show Goes _ _ _ _ _ _ _ (s₁.setTop (mkF m 16 #[.val (.int p0), .val (.long p1), .second, .val (.int p2), .val (.int (2 : Int32)), .val (.int (0 : Int32)), .unset, .unset, .unset, .unset, .unset, .unset, .unset] [(.long (9223372036854775807 : Int64)), (.long p1)]))
      refine Goes.step (fun _ k => XS.land X0.here hx rfl (hb hby at_16) rfl k) ?_
      show Goes _ _ _ _ _ _ _ (s₁.setTop (mkF m 17 #[.val (.int p0), .val (.long p1), .second, .val (.int p2), .val (.int (2 : Int32)), .val (.int (0 : Int32)), .unset, .unset, .unset, .unset, .unset, .unset, .unset] [(.long (p1 &&& (9223372036854775807 : Int64)))]))
      refine Goes.step (fun _ k => XS.lstore X0.here hx rfl (hb hby at_17) rfl (l' := #[.val (.int p0), .val (.long p1), .second, .val (.int p2), .val (.int (2 : Int32)), .val (.int (0 : Int32)), .val (.long (p1 &&& (9223372036854775807 : Int64))), .second, .unset, .unset, .unset, .unset, .unset]) rfl k) ?_
      show Goes _ _ _ _ _ _ _ (s₁.setTop (mkF m 19 #[.val (.int p0), .val (.long p1), .second, .val (.int p2), .val (.int (2 : Int32)), .val (.int (0 : Int32)), .val (.long (p1 &&& (9223372036854775807 : Int64))), .second, .unset, .unset, .unset, .unset, .unset] []))
      generalize hg_u6 : (p1 &&& (9223372036854775807 : Int64)) = u6
      show Goes _ _ _ _ _ _ _ (s₁.setTop (mkF m 19 #[.val (.int p0), .val (.long p1), .second, .val (.int p2), .val (.int (2 : Int32)), .val (.int (0 : Int32)), .val (.long u6), .second, .unset, .unset, .unset, .unset, .unset] []))
      refine Goes.step (fun _ k => XS.iloadN X0.here hx rfl (hb hby at_19) rfl  k) ?_
      show Goes _ _ _ _ _ _ _ (s₁.setTop (mkF m 20 #[.val (.int p0), .val (.long p1), .second, .val (.int p2), .val (.int (2 : Int32)), .val (.int (0 : Int32)), .val (.long u6), .second, .unset, .unset, .unset, .unset, .unset] [(.int p2)]))
      refine Goes.step (fun _ k => XS.sipush X0.here hx rfl (hb hby at_20) k) ?_
      show Goes _ _ _ _ _ _ _ (s₁.setTop (mkF m 23 #[.val (.int p0), .val (.long p1), .second, .val (.int p2), .val (.int (2 : Int32)), .val (.int (0 : Int32)), .val (.long u6), .second, .unset, .unset, .unset, .unset, .unset] [(.int (255 : Int32)), (.int p2)]))
      refine Goes.step (fun _ k => XS.iand X0.here hx rfl (hb hby at_23) rfl k) ?_
      show Goes _ _ _ _ _ _ _ (s₁.setTop (mkF m 24 #[.val (.int p0), .val (.long p1), .second, .val (.int p2), .val (.int (2 : Int32)), .val (.int (0 : Int32)), .val (.long u6), .second, .unset, .unset, .unset, .unset, .unset] [(.int (p2 &&& (255 : Int32)))]))
      refine Goes.step (fun _ k => XS.i2c X0.here hx rfl (hb hby at_24) rfl k) ?_
      show Goes _ _ _ _ _ _ _ (s₁.setTop (mkF m 25 #[.val (.int p0), .val (.long p1), .second, .val (.int p2), .val (.int (2 : Int32)), .val (.int (0 : Int32)), .val (.long u6), .second, .unset, .unset, .unset, .unset, .unset] [(.int ((p2 &&& (255 : Int32)).toUInt32.toUInt16.toUInt32.toInt32))]))
      obtain ⟨_, _, ⟨T264, L264, k264, n264⟩, -, X264, ⟨Lc264, hQ264, l264, y264, z264⟩, st264⟩ := Jvm.LawKit.callS X0 hx (y := (⟨"java/lang/String", "valueOf", "(C)Ljava/lang/String;"⟩ : MethodName)) hown (mvT hZ (hw _ (List.mem_of_getElem? (i := 1) rfl))) (mvT hZ (hw _ (List.mem_of_getElem? (i := 2) rfl))) (mvT hZ (hw _ (List.mem_of_getElem? (i := 3) rfl))) (mvT hZ (hw _ (List.mem_of_getElem? (i := 4) rfl))) (by decide) (backOf (W := 0) (rm1 l Z a0 hw [] ((p2 &&& (255 : Int32)).toUInt32.toUInt16.toUInt32.toInt32) zC h0 n0 Z0 S_CS X00 P5 (own_char _)) hZ (hw _ (List.mem_of_getElem? (i := 4) rfl)) (hw _ (List.mem_of_getElem? (i := 3) rfl)) (by decide) (by decide)) (g := (mkF m 25 #[.val (.int p0), .val (.long p1), .second, .val (.int p2), .val (.int (2 : Int32)), .val (.int (0 : Int32)), .val (.long u6), .second, .unset, .unset, .unset, .unset, .unset] [(.int ((p2 &&& (255 : Int32)).toUInt32.toUInt16.toUInt32.toInt32))])) rfl (by rw [hml]; rfl) (argsL := [(.int ((p2 &&& (255 : Int32)).toUInt32.toUInt16.toUInt32.toInt32))]) (rest := []) (lenOf pd_0 rfl) rfl (by show 2 * 0 + _ ≤ _; exact Nat.le_of_eq rfl) (hb hby at_25) (fun _ _ => ⟨rfl, e0, (by decide : 0 + 2 ≤ _), (by decide : 0 + 5 ≤ _)⟩)
      dsimp only [Pt.U, Pt.locs, Pt.cells, Pt.slots] at X264 l264 y264 z264 st264 hQ264
      subst l264 y264 z264
      obtain ⟨N264, KK264, hR264⟩ := hQ264
      have NA264 := Fr.app N0 N264
      have XO265 : Old Z n0 T264.heap := X00.keep KK264 all0
      have f266 := V_de.keep KK264 nin0
      have K267 : Keep h0 T264.heap [] := K0.trans KK264 all0
      have Z267 : n0 ≤ T264.heap.size := Nat.le_trans Z0 KK264.1
      obtain ⟨r264_0_0, r264_0_1, kk264_0_0, rfl, u264_0_0, g_r264_0_0, le_r264_0_0, g_r264_0_1, le_r264_0_1, nn264_0_0, v264_0_0, v264_0_1, v264_0_2⟩ := hR264
      have ne268 : de ≠ r264_0_0 := Nat.ne_of_lt (Nat.lt_of_lt_of_le V_de.lt le_r264_0_0)
      have sz_r264_0_0 : h0.size ≤ r264_0_0 := Nat.le_trans K0.1 le_r264_0_0
      have ne269 : de ≠ r264_0_1 := Nat.ne_of_lt (Nat.lt_of_lt_of_le V_de.lt le_r264_0_1)
      have sz_r264_0_1 : h0.size ≤ r264_0_1 := Nat.le_trans K0.1 le_r264_0_1
      refine Goes.step st264 ?_
      show Goes _ _ _ _ _ _ _ (T264.setTop (mkF m 28 #[.val (.int p0), .val (.long p1), .second, .val (.int p2), .val (.int (2 : Int32)), .val (.int (0 : Int32)), .val (.long u6), .second, .unset, .unset, .unset, .unset, .unset] [(.ref r264_0_0)]))
      refine Goes.step (fun _ k => XS.astore X264.here hx rfl (hb hby at_28) rfl rfl (l' := #[.val (.int p0), .val (.long p1), .second, .val (.int p2), .val (.int (2 : Int32)), .val (.int (0 : Int32)), .val (.long u6), .second, .val (.ref r264_0_0), .unset, .unset, .unset, .unset]) rfl k) ?_
      show Goes _ _ _ _ _ _ _ (T264.setTop (mkF m 30 #[.val (.int p0), .val (.long p1), .second, .val (.int p2), .val (.int (2 : Int32)), .val (.int (0 : Int32)), .val (.long u6), .second, .val (.ref r264_0_0), .unset, .unset, .unset, .unset] []))
      obtain ⟨T270, h270, X270, e270, E270, A270, D270, -, st270⟩ := newO X264 hx hZ hown (hw _ (List.mem_of_getElem? (i := 27) rfl)) (hw _ (List.mem_of_getElem? (i := 28) rfl)) (hw _ (List.mem_of_getElem? (i := 29) rfl)) rfl (g := (mkF m 30 #[.val (.int p0), .val (.long p1), .second, .val (.int p2), .val (.int (2 : Int32)), .val (.int (0 : Int32)), .val (.long u6), .second, .val (.ref r264_0_0), .unset, .unset, .unset, .unset] [])) rfl (hb hby at_30) (by decide) (by decide)
      obtain ⟨b270, g270⟩ : ∃ z, z = T264.heap.size := ⟨_, rfl⟩
      rw [← g270] at A270 D270 st270
      refine Goes.step st270 ?_
      have g_b270 : n0 ≤ b270 := Nat.le_trans Z267 (Nat.le_of_eq g270.symm)
      have sz_b270 : h0.size ≤ b270 := Nat.le_trans K267.1 (Nat.le_of_eq g270.symm)
      have ne271 : de ≠ b270 := Nat.ne_of_lt (Nat.lt_of_lt_of_le f266.lt (Nat.le_of_eq g270.symm))
      have ne272 : r264_0_0 ≠ b270 := Nat.ne_of_lt (Nat.lt_of_lt_of_le v264_0_0.lt (Nat.le_of_eq g270.symm))
      have ne273 : r264_0_1 ≠ b270 := Nat.ne_of_lt (Nat.lt_of_lt_of_le v264_0_1.lt (Nat.le_of_eq g270.symm))
      have XO274 : Old Z n0 h270 := XO265.ext E270
      have f275 := f266.ext E270
      have f276 := v264_0_0.ext E270
      have f277 := v264_0_1.ext E270
      have f278 := v264_0_2.ext E270
      have K279 : Keep h0 h270 [] := K267.ext E270
      have Z279 : n0 ≤ h270.size := Nat.le_trans Z267 E270.1
      have E_b270 := A270
      have F_named_b270 : Fld Z h270 b270 "com/example/roles_to_grants/rolestogrants/input/ProblemList" "named" "Ljava/util/List;" .null := D270 (Or.inr (hw _ (List.mem_of_getElem? (i := 59) rfl))) (ty := (.object "java/util/List")) (by decide)
      have F_count_b270 : Fld Z h270 b270 "com/example/roles_to_grants/rolestogrants/input/ProblemList" "count" "J" (.long (0 : Int64)) := D270 (Or.inl (hw _ (List.mem_of_getElem? (i := 66) rfl))) (ty := .long) (by decide)
      show Goes _ _ _ _ _ _ _ (T270.setTop (mkF m 33 #[.val (.int p0), .val (.long p1), .second, .val (.int p2), .val (.int (2 : Int32)), .val (.int (0 : Int32)), .val (.long u6), .second, .val (.ref r264_0_0), .unset, .unset, .unset, .unset] [(.ref b270)]))
      refine Goes.step (fun _ k => XS.dup X270.here hx rfl (hb hby at_33) rfl rfl k) ?_
      show Goes _ _ _ _ _ _ _ (T270.setTop (mkF m 34 #[.val (.int p0), .val (.long p1), .second, .val (.int p2), .val (.int (2 : Int32)), .val (.int (0 : Int32)), .val (.long u6), .second, .val (.ref r264_0_0), .unset, .unset, .unset, .unset] [(.ref b270), (.ref b270)]))
      obtain ⟨_, _, ⟨T280, L280, k280, n280⟩, -, X280, ⟨Lc280, hQ280, l280, y280, z280⟩, st280⟩ := X270.specialBack hx (y := (⟨"com/example/roles_to_grants/rolestogrants/input/ProblemList", "<init>", "()V"⟩ : MethodName)) rfl hown (mvT hZ (hw _ (List.mem_of_getElem? (i := 30) rfl))) (mvT hZ (hw _ (List.mem_of_getElem? (i := 31) rfl))) (mvT hZ (hw _ (List.mem_of_getElem? (i := 32) rfl))) (by decide) (backOf (W := 1) (rm6 l Z a0 hw [] b270 de h270 n0 Z279 S_DE XO274 F_named_b270 F_count_b270 E_b270 g_b270) hZ (hw _ (List.mem_of_getElem? (i := 32) rfl)) (hw _ (List.mem_of_getElem? (i := 29) rfl)) (by decide) (by decide)) (g := (mkF m 34 #[.val (.int p0), .val (.long p1), .second, .val (.int p2), .val (.int (2 : Int32)), .val (.int (0 : Int32)), .val (.long u6), .second, .val (.ref r264_0_0), .unset, .unset, .unset, .unset] [(.ref b270), (.ref b270)])) rfl (by rw [hml]; rfl) (Steps.refl _) (a := b270) (argsL := []) (rest := [(.ref b270)]) (lenOf pd_4 rfl) rfl (by show 2 * 0 + _ ≤ _; exact Nat.le_of_eq rfl) (hb hby at_34) (fun _ _ => ⟨rfl, e270, (by decide : 3 + 1 ≤ _), (by decide : 7 + 3 ≤ _)⟩)
      dsimp only [Pt.U, Pt.locs, Pt.cells, Pt.slots] at X280 l280 y280 z280 st280 hQ280
      subst l280 y280 z280
      obtain ⟨N280, KK280, hR280⟩ := hQ280
      have NA280 := Fr.app NA264 N280
      have XO281 : Old Z n0 T280.heap := XO274.keep KK280 (allS g_b270 all0)
      have f282 := f275.keep KK280 (ninS ne271 nin0)
      have f283 := f276.keep KK280
      have f284 := f277.keep KK280 (ninS ne273 nin0)
      have f285 := f278.keep KK280 (ninS ne272 nin0)
      have f286 := E_b270.keep KK280
      have K289 : Keep h0 T280.heap [] := K279.trans KK280 (allS (Or.inr sz_b270) all0)
      have Z289 : n0 ≤ T280.heap.size := Nat.le_trans Z279 KK280.1
      obtain ⟨r280_0_0, rfl, g_r280_0_0, le_r280_0_0, v280_0_0, v280_0_1, v280_0_2, v280_0_3, v280_0_4, v280_0_5, v280_0_6⟩ := hR280
      have ne290 : de ≠ r280_0_0 := Nat.ne_of_lt (Nat.lt_of_lt_of_le f275.lt le_r280_0_0)
      have ne291 : r264_0_0 ≠ r280_0_0 := Nat.ne_of_lt (Nat.lt_of_lt_of_le f276.lt le_r280_0_0)
      have ne292 : r264_0_1 ≠ r280_0_0 := Nat.ne_of_lt (Nat.lt_of_lt_of_le f277.lt le_r280_0_0)
      have ne293 : b270 ≠ r280_0_0 := Nat.ne_of_lt (Nat.lt_of_lt_of_le E_b270.lt le_r280_0_0)
      have sz_r280_0_0 : h0.size ≤ r280_0_0 := Nat.le_trans K279.1 le_r280_0_0
      refine Goes.back st280 ?_
      show Goes _ _ _ _ _ _ _ (T280.setTop (mkF m 37 #[.val (.int p0), .val (.long p1), .second, .val (.int p2), .val (.int (2 : Int32)), .val (.int (0 : Int32)), .val (.long u6), .second, .val (.ref r264_0_0), .unset, .unset, .unset, .unset] [(.ref b270)]))
      refine Goes.step (fun _ k => XS.astore X280.here hx rfl (hb hby at_37) rfl rfl (l' := #[.val (.int p0), .val (.long p1), .second, .val (.int p2), .val (.int (2 : Int32)), .val (.int (0 : Int32)), .val (.long u6), .second, .val (.ref r264_0_0), .val (.ref b270), .unset, .unset, .unset]) rfl k) ?_
      show Goes _ _ _ _ _ _ _ (T280.setTop (mkF m 39 #[.val (.int p0), .val (.long p1), .second, .val (.int p2), .val (.int (2 : Int32)), .val (.int (0 : Int32)), .val (.long u6), .second, .val (.ref r264_0_0), .val (.ref b270), .unset, .unset, .unset] []))
      refine Goes.step (fun _ k => XS.aload X280.here hx rfl (hb hby at_39) rfl rfl k) ?_
      show Goes _ _ _ _ _ _ _ (T280.setTop (mkF m 41 #[.val (.int p0), .val (.long p1), .second, .val (.int p2), .val (.int (2 : Int32)), .val (.int (0 : Int32)), .val (.long u6), .second, .val (.ref r264_0_0), .val (.ref b270), .unset, .unset, .unset] [(.ref b270)]))
      obtain ⟨cq294, kq294, q294a, q294b, q294c⟩ := isOf hZ rfl v280_0_2
      obtain ⟨_, _, ⟨T294, L294, k294, n294⟩, -, X294, ⟨Lc294, hQ294, l294, y294, z294⟩, st294⟩ := X280.virtualBack hx (y := (⟨"com/example/roles_to_grants/rolestogrants/input/ProblemList", "isEmpty", "()Z"⟩ : MethodName)) (z := (⟨"com/example/roles_to_grants/rolestogrants/input/ProblemList", "isEmpty", "()Z"⟩ : MethodName)) hown (mvT hZ (hw _ (List.mem_of_getElem? (i := 60) rfl))) (mvT hZ (hw _ (List.mem_of_getElem? (i := 61) rfl))) (notFace_of_selects (args := #[]) (mvT hZ (hw _ (List.mem_of_getElem? (i := 63) rfl)))) (mvT hZ (hw _ (List.mem_of_getElem? (i := 63) rfl))) (mvT hZ (hw _ (List.mem_of_getElem? (i := 62) rfl))) (by decide) (backOf (W := 0) (rm10 l Z a0 hw [] b270 (0 : Int64) T280.heap n0 Z289 v280_0_1) hZ (hw _ (List.mem_of_getElem? (i := 64) rfl)) (hw _ (List.mem_of_getElem? (i := 29) rfl)) (by decide) (by decide)) q294a q294c (g := (mkF m 41 #[.val (.int p0), .val (.long p1), .second, .val (.int p2), .val (.int (2 : Int32)), .val (.int (0 : Int32)), .val (.long u6), .second, .val (.ref r264_0_0), .val (.ref b270), .unset, .unset, .unset] [(.ref b270)])) rfl (by rw [hml]; rfl) (Steps.refl _) (argsL := []) (rest := []) (lenOf pd_5 rfl) rfl (by show 2 * 0 + _ ≤ _; exact Nat.le_of_eq rfl) (hb hby at_41) (fun _ _ => ⟨rfl, rfl, (by decide : 4 + 0 ≤ _), (by decide : 10 + 0 ≤ _)⟩)
      dsimp only [Pt.U, Pt.locs, Pt.cells, Pt.slots] at X294 l294 y294 z294 st294 hQ294
      subst l294 y294 z294
      obtain ⟨N294, eh294, hR294⟩ := hQ294
      have NA294 := Fr.app NA280 N294
      rcases hR294 with ⟨rfl, u294_0_0⟩ | ⟨rfl, u294_1_0⟩
      · refine Goes.back st294 ?_
        show Goes _ _ _ _ _ _ _ (T294.setTop (mkF m 44 #[.val (.int p0), .val (.long p1), .second, .val (.int p2), .val (.int (2 : Int32)), .val (.int (0 : Int32)), .val (.long u6), .second, .val (.ref r264_0_0), .val (.ref b270), .unset, .unset, .unset] [(.int (1 : Int32))]))
        refine Goes.step (fun _ k => XS.istore X294.here hx rfl (hb hby at_44) rfl (l' := #[.val (.int p0), .val (.long p1), .second, .val (.int p2), .val (.int (2 : Int32)), .val (.int (0 : Int32)), .val (.long u6), .second, .val (.ref r264_0_0), .val (.ref b270), .val (.int (1 : Int32)), .unset, .unset]) rfl k) ?_
        show Goes _ _ _ _ _ _ _ (T294.setTop (mkF m 46 #[.val (.int p0), .val (.long p1), .second, .val (.int p2), .val (.int (2 : Int32)), .val (.int (0 : Int32)), .val (.long u6), .second, .val (.ref r264_0_0), .val (.ref b270), .val (.int (1 : Int32)), .unset, .unset] []))
        refine Goes.step (fun _ k => XS.iload X294.here hx rfl (hb hby at_46) rfl  k) ?_
        show Goes _ _ _ _ _ _ _ (T294.setTop (mkF m 48 #[.val (.int p0), .val (.long p1), .second, .val (.int p2), .val (.int (2 : Int32)), .val (.int (0 : Int32)), .val (.long u6), .second, .val (.ref r264_0_0), .val (.ref b270), .val (.int (1 : Int32)), .unset, .unset] [(.int (2 : Int32))]))
        refine Goes.step (fun _ k => XS.iconst X294.here hx rfl (hb hby at_48) k) ?_
        show Goes _ _ _ _ _ _ _ (T294.setTop (mkF m 49 #[.val (.int p0), .val (.long p1), .second, .val (.int p2), .val (.int (2 : Int32)), .val (.int (0 : Int32)), .val (.long u6), .second, .val (.ref r264_0_0), .val (.ref b270), .val (.int (1 : Int32)), .unset, .unset] [(.int (1 : Int32)), (.int (2 : Int32))]))
        refine Goes.step (fun _ k => XS.icmpNo X294.here hx rfl (hb hby at_49) rfl (flt (by decide : ¬ ((2 : Int32) < (1 : Int32)))).1 k) ?_
        show Goes _ _ _ _ _ _ _ (T294.setTop (mkF m 52 #[.val (.int p0), .val (.long p1), .second, .val (.int p2), .val (.int (2 : Int32)), .val (.int (0 : Int32)), .val (.long u6), .second, .val (.ref r264_0_0), .val (.ref b270), .val (.int (1 : Int32)), .unset, .unset] []))
        refine Goes.step (fun _ k => XS.aload X294.here hx rfl (hb hby at_52) rfl rfl k) ?_
        show Goes _ _ _ _ _ _ _ (T294.setTop (mkF m 54 #[.val (.int p0), .val (.long p1), .second, .val (.int p2), .val (.int (2 : Int32)), .val (.int (0 : Int32)), .val (.long u6), .second, .val (.ref r264_0_0), .val (.ref b270), .val (.int (1 : Int32)), .unset, .unset] [(.ref b270)]))
        refine Goes.step (fun _ k => XS.aload X294.here hx rfl (hb hby at_54) rfl rfl k) ?_
        show Goes _ _ _ _ _ _ _ (T294.setTop (mkF m 56 #[.val (.int p0), .val (.long p1), .second, .val (.int p2), .val (.int (2 : Int32)), .val (.int (0 : Int32)), .val (.long u6), .second, .val (.ref r264_0_0), .val (.ref b270), .val (.int (1 : Int32)), .unset, .unset] [(.ref r264_0_0), (.ref b270)]))
        obtain ⟨cq295, kq295, q295a, q295b, q295c⟩ := isOf hZ eh294 v280_0_2
        obtain ⟨_, _, ⟨T295, L295, k295, n295⟩, -, X295, ⟨Lc295, hQ295, l295, y295, z295⟩, st295⟩ := X294.virtualBack hx (y := (⟨"com/example/roles_to_grants/rolestogrants/input/ProblemList", "add", "(Ljava/lang/String;)V"⟩ : MethodName)) (z := (⟨"com/example/roles_to_grants/rolestogrants/input/ProblemList", "add", "(Ljava/lang/String;)V"⟩ : MethodName)) hown (mvT hZ (hw _ (List.mem_of_getElem? (i := 72) rfl))) (mvT hZ (hw _ (List.mem_of_getElem? (i := 73) rfl))) (notFace_of_selects (args := #[]) (mvT hZ (hw _ (List.mem_of_getElem? (i := 75) rfl)))) (mvT hZ (hw _ (List.mem_of_getElem? (i := 75) rfl))) (mvT hZ (hw _ (List.mem_of_getElem? (i := 74) rfl))) (by decide) (backOf (W := 0) (rm12_0 l Z a0 hw [] b270 r264_0_0 de r280_0_0 (0 : Int64) (0 : Int32) kde T280.heap n0 Z289 S_DE XO281 v280_0_0 v280_0_1 v280_0_4 v280_0_5 v280_0_6 v280_0_2 v280_0_3 f283 f282 g_b270 g_r280_0_0 ne271 ne290 ne293) hZ (hw _ (List.mem_of_getElem? (i := 76) rfl)) (hw _ (List.mem_of_getElem? (i := 29) rfl)) (by decide) (by decide)) q295a q295c (g := (mkF m 56 #[.val (.int p0), .val (.long p1), .second, .val (.int p2), .val (.int (2 : Int32)), .val (.int (0 : Int32)), .val (.long u6), .second, .val (.ref r264_0_0), .val (.ref b270), .val (.int (1 : Int32)), .unset, .unset] [(.ref r264_0_0), (.ref b270)])) rfl (by rw [hml]; rfl) (Steps.refl _) (argsL := [(.ref r264_0_0)]) (rest := []) (lenOf pd_7 rfl) rfl (by show 2 * 0 + _ ≤ _; exact Nat.le_of_eq rfl) (hb hby at_56) (fun _ _ => ⟨rfl, eh294, (by decide : 4 + 1 ≤ _), (by decide : 10 + 10 ≤ _)⟩)
        dsimp only [Pt.U, Pt.locs, Pt.cells, Pt.slots] at X295 l295 y295 z295 st295 hQ295
        subst l295 y295 z295
        obtain ⟨N295, KK295, hR295⟩ := hQ295
        have NA295 := Fr.app NA294 N295
        have XO296 : Old Z n0 T295.heap := XO281.keep KK295 (allS g_b270 (allS g_r280_0_0 all0))
        have f297 := f282.keep KK295 (ninS ne271 (ninS ne290 nin0))
        have f298 := f283.keep KK295
        have f299 := f284.keep KK295 (ninS ne273 (ninS ne292 nin0))
        have f300 := f285.keep KK295 (ninS ne272 (ninS ne291 nin0))
        have f301 := v280_0_2.keep KK295
        have f304 := v280_0_3.keep KK295
        have K308 : Keep h0 T295.heap [] := K289.trans KK295 (allS (Or.inr sz_b270) (allS (Or.inr sz_r280_0_0) all0))
        have Z308 : n0 ≤ T295.heap.size := Nat.le_trans Z289 KK295.1
        obtain ⟨r295_0_0, kk295_0_0, rfl, g_r295_0_0, le_r295_0_0, v295_0_0, v295_0_1, v295_0_2, v295_0_3, v295_0_4, v295_0_5, v295_0_6, v295_0_7, oo295_0_0⟩ := hR295
        have ne309 : de ≠ r295_0_0 := Nat.ne_of_lt (Nat.lt_of_lt_of_le f282.lt le_r295_0_0)
        have ne310 : r264_0_0 ≠ r295_0_0 := Nat.ne_of_lt (Nat.lt_of_lt_of_le f283.lt le_r295_0_0)
        have ne311 : r264_0_1 ≠ r295_0_0 := Nat.ne_of_lt (Nat.lt_of_lt_of_le f284.lt le_r295_0_0)
        have ne312 : b270 ≠ r295_0_0 := Nat.ne_of_lt (Nat.lt_of_lt_of_le v280_0_2.lt le_r295_0_0)
        have ne313 : r280_0_0 ≠ r295_0_0 := Nat.ne_of_lt (Nat.lt_of_lt_of_le v280_0_3.lt le_r295_0_0)
        have sz_r295_0_0 : h0.size ≤ r295_0_0 := Nat.le_trans K289.1 le_r295_0_0
        refine Goes.back st295 ?_
        show Goes _ _ _ _ _ _ _ (T295.setTop (mkF m 59 #[.val (.int p0), .val (.long p1), .second, .val (.int p2), .val (.int (2 : Int32)), .val (.int (0 : Int32)), .val (.long u6), .second, .val (.ref r264_0_0), .val (.ref b270), .val (.int (1 : Int32)), .unset, .unset] []))
        refine Goes.step (fun _ k => XS.iload X295.here hx rfl (hb hby at_59) rfl  k) ?_
        show Goes _ _ _ _ _ _ _ (T295.setTop (mkF m 61 #[.val (.int p0), .val (.long p1), .second, .val (.int p2), .val (.int (2 : Int32)), .val (.int (0 : Int32)), .val (.long u6), .second, .val (.ref r264_0_0), .val (.ref b270), .val (.int (1 : Int32)), .unset, .unset] [(.int (2 : Int32))]))
        refine Goes.step (fun _ k => XS.iconst X295.here hx rfl (hb hby at_61) k) ?_
        show Goes _ _ _ _ _ _ _ (T295.setTop (mkF m 62 #[.val (.int p0), .val (.long p1), .second, .val (.int p2), .val (.int (2 : Int32)), .val (.int (0 : Int32)), .val (.long u6), .second, .val (.ref r264_0_0), .val (.ref b270), .val (.int (1 : Int32)), .unset, .unset] [(.int (2 : Int32)), (.int (2 : Int32))]))
        refine Goes.step (fun _ k => XS.icmpNo X295.here hx rfl (hb hby at_62) rfl (flt (by decide : ¬ ((2 : Int32) < (2 : Int32)))).1 k) ?_
        show Goes _ _ _ _ _ _ _ (T295.setTop (mkF m 65 #[.val (.int p0), .val (.long p1), .second, .val (.int p2), .val (.int (2 : Int32)), .val (.int (0 : Int32)), .val (.long u6), .second, .val (.ref r264_0_0), .val (.ref b270), .val (.int (1 : Int32)), .unset, .unset] []))
        refine Goes.step (fun _ k => XS.aload X295.here hx rfl (hb hby at_65) rfl rfl k) ?_
        show Goes _ _ _ _ _ _ _ (T295.setTop (mkF m 67 #[.val (.int p0), .val (.long p1), .second, .val (.int p2), .val (.int (2 : Int32)), .val (.int (0 : Int32)), .val (.long u6), .second, .val (.ref r264_0_0), .val (.ref b270), .val (.int (1 : Int32)), .unset, .unset] [(.ref b270)]))
        refine Goes.step (fun _ k => XS.aload X295.here hx rfl (hb hby at_67) rfl rfl k) ?_
        show Goes _ _ _ _ _ _ _ (T295.setTop (mkF m 69 #[.val (.int p0), .val (.long p1), .second, .val (.int p2), .val (.int (2 : Int32)), .val (.int (0 : Int32)), .val (.long u6), .second, .val (.ref r264_0_0), .val (.ref b270), .val (.int (1 : Int32)), .unset, .unset] [(.ref r264_0_0), (.ref b270)]))
        obtain ⟨cq314, kq314, q314a, q314b, q314c⟩ := isOf hZ rfl v295_0_2
        obtain ⟨_, _, ⟨T314, L314, k314, n314⟩, -, X314, ⟨Lc314, hQ314, l314, y314, z314⟩, st314⟩ := X295.virtualBack hx (y := (⟨"com/example/roles_to_grants/rolestogrants/input/ProblemList", "add", "(Ljava/lang/String;)V"⟩ : MethodName)) (z := (⟨"com/example/roles_to_grants/rolestogrants/input/ProblemList", "add", "(Ljava/lang/String;)V"⟩ : MethodName)) hown (mvT hZ (hw _ (List.mem_of_getElem? (i := 72) rfl))) (mvT hZ (hw _ (List.mem_of_getElem? (i := 73) rfl))) (notFace_of_selects (args := #[]) (mvT hZ (hw _ (List.mem_of_getElem? (i := 75) rfl)))) (mvT hZ (hw _ (List.mem_of_getElem? (i := 75) rfl))) (mvT hZ (hw _ (List.mem_of_getElem? (i := 74) rfl))) (by decide) (backOf (W := 0) (rm12_1 l Z a0 hw [] b270 r264_0_0 r280_0_0 (1 : Int64) (1 : Int32) r295_0_0 kk295_0_0 T295.heap n0 Z308 v295_0_0 v295_0_1 v295_0_4 v295_0_5 v295_0_6 v295_0_2 v295_0_3 f298 (own_arx v295_0_7) oo295_0_0 g_b270 g_r280_0_0 g_r295_0_0 (Ne.symm ne312) (Ne.symm ne313) ne293) hZ (hw _ (List.mem_of_getElem? (i := 76) rfl)) (hw _ (List.mem_of_getElem? (i := 29) rfl)) (by decide) (by decide)) q314a q314c (g := (mkF m 69 #[.val (.int p0), .val (.long p1), .second, .val (.int p2), .val (.int (2 : Int32)), .val (.int (0 : Int32)), .val (.long u6), .second, .val (.ref r264_0_0), .val (.ref b270), .val (.int (1 : Int32)), .unset, .unset] [(.ref r264_0_0), (.ref b270)])) rfl (by rw [hml]; rfl) (Steps.refl _) (argsL := [(.ref r264_0_0)]) (rest := []) (lenOf pd_7 rfl) rfl (by show 2 * 0 + _ ≤ _; exact Nat.le_of_eq rfl) (hb hby at_69) (fun _ _ => ⟨rfl, rfl, (by decide : 5 + 0 ≤ _), (by decide : 20 + 0 ≤ _)⟩)
        dsimp only [Pt.U, Pt.locs, Pt.cells, Pt.slots] at X314 l314 y314 z314 st314 hQ314
        subst l314 y314 z314
        obtain ⟨N314, KK314, hR314⟩ := hQ314
        have NA314 := Fr.app NA295 N314
        have XO315 : Old Z n0 T314.heap := XO296.keep KK314 (allS g_b270 (allS g_r280_0_0 (allS g_r295_0_0 all0)))
        have f316 := f297.keep KK314 (ninS ne271 (ninS ne290 (ninS ne309 nin0)))
        have f317 := f298.keep KK314
        have f318 := f299.keep KK314 (ninS ne273 (ninS ne292 (ninS ne311 nin0)))
        have f319 := f300.keep KK314 (ninS ne272 (ninS ne291 (ninS ne310 nin0)))
        have f320 := v295_0_2.keep KK314
        have f321 := v295_0_3.keep KK314
        have K328 : Keep h0 T314.heap [] := K308.trans KK314 (allS (Or.inr sz_b270) (allS (Or.inr sz_r280_0_0) (allS (Or.inr sz_r295_0_0) all0)))
        have Z328 : n0 ≤ T314.heap.size := Nat.le_trans Z308 KK314.1
        obtain ⟨rfl, v314_0_0, v314_0_1, v314_0_2, v314_0_3, v314_0_4, v314_0_5, v314_0_6, v314_0_7⟩ := hR314
        refine Goes.back st314 ?_
        show Goes _ _ _ _ _ _ _ (T314.setTop (mkF m 72 #[.val (.int p0), .val (.long p1), .second, .val (.int p2), .val (.int (2 : Int32)), .val (.int (0 : Int32)), .val (.long u6), .second, .val (.ref r264_0_0), .val (.ref b270), .val (.int (1 : Int32)), .unset, .unset] []))
        refine Goes.step (fun _ k => XS.iload X314.here hx rfl (hb hby at_72) rfl  k) ?_
        show Goes _ _ _ _ _ _ _ (T314.setTop (mkF m 74 #[.val (.int p0), .val (.long p1), .second, .val (.int p2), .val (.int (2 : Int32)), .val (.int (0 : Int32)), .val (.long u6), .second, .val (.ref r264_0_0), .val (.ref b270), .val (.int (1 : Int32)), .unset, .unset] [(.int (2 : Int32))]))
        refine Goes.step (fun _ k => XS.iconst X314.here hx rfl (hb hby at_74) k) ?_
        show Goes _ _ _ _ _ _ _ (T314.setTop (mkF m 75 #[.val (.int p0), .val (.long p1), .second, .val (.int p2), .val (.int (2 : Int32)), .val (.int (0 : Int32)), .val (.long u6), .second, .val (.ref r264_0_0), .val (.ref b270), .val (.int (1 : Int32)), .unset, .unset] [(.int (3 : Int32)), (.int (2 : Int32))]))
        refine Goes.step (fun _ k => XS.icmpYes X314.here hx rfl (pc0 := 75) (pc' := 85) rfl (hb hby at_75) rfl (tlt (by decide : (2 : Int32) < (3 : Int32))).1 (by decide) (by decide) k) ?_
        show Goes _ _ _ _ _ _ _ (T314.setTop (mkF m 85 #[.val (.int p0), .val (.long p1), .second, .val (.int p2), .val (.int (2 : Int32)), .val (.int (0 : Int32)), .val (.long u6), .second, .val (.ref r264_0_0), .val (.ref b270), .val (.int (1 : Int32)), .unset, .unset] []))
        refine Goes.step (fun _ k => XS.aload X314.here hx rfl (hb hby at_85) rfl rfl k) ?_
        show Goes _ _ _ _ _ _ _ (T314.setTop (mkF m 87 #[.val (.int p0), .val (.long p1), .second, .val (.int p2), .val (.int (2 : Int32)), .val (.int (0 : Int32)), .val (.long u6), .second, .val (.ref r264_0_0), .val (.ref b270), .val (.int (1 : Int32)), .unset, .unset] [(.ref b270)]))
        obtain ⟨cq329, kq329, q329a, q329b, q329c⟩ := isOf hZ rfl v314_0_2
        obtain ⟨_, _, ⟨T329, L329, k329, n329⟩, -, X329, ⟨Lc329, hQ329, l329, y329, z329⟩, st329⟩ := X314.virtualBack hx (y := (⟨"com/example/roles_to_grants/rolestogrants/input/ProblemList", "isEmpty", "()Z"⟩ : MethodName)) (z := (⟨"com/example/roles_to_grants/rolestogrants/input/ProblemList", "isEmpty", "()Z"⟩ : MethodName)) hown (mvT hZ (hw _ (List.mem_of_getElem? (i := 60) rfl))) (mvT hZ (hw _ (List.mem_of_getElem? (i := 61) rfl))) (notFace_of_selects (args := #[]) (mvT hZ (hw _ (List.mem_of_getElem? (i := 63) rfl)))) (mvT hZ (hw _ (List.mem_of_getElem? (i := 63) rfl))) (mvT hZ (hw _ (List.mem_of_getElem? (i := 62) rfl))) (by decide) (backOf (W := 0) (rm10 l Z a0 hw [] b270 (2 : Int64) T314.heap n0 Z328 v314_0_1) hZ (hw _ (List.mem_of_getElem? (i := 64) rfl)) (hw _ (List.mem_of_getElem? (i := 29) rfl)) (by decide) (by decide)) q329a q329c (g := (mkF m 87 #[.val (.int p0), .val (.long p1), .second, .val (.int p2), .val (.int (2 : Int32)), .val (.int (0 : Int32)), .val (.long u6), .second, .val (.ref r264_0_0), .val (.ref b270), .val (.int (1 : Int32)), .unset, .unset] [(.ref b270)])) rfl (by rw [hml]; rfl) (Steps.refl _) (argsL := []) (rest := []) (lenOf pd_5 rfl) rfl (by show 2 * 0 + _ ≤ _; exact Nat.le_of_eq rfl) (hb hby at_87) (fun _ _ => ⟨rfl, rfl, (by decide : 5 + 0 ≤ _), (by decide : 20 + 0 ≤ _)⟩)
        dsimp only [Pt.U, Pt.locs, Pt.cells, Pt.slots] at X329 l329 y329 z329 st329 hQ329
        subst l329 y329 z329
        obtain ⟨N329, eh329, hR329⟩ := hQ329
        have NA329 := Fr.app NA314 N329
        rcases hR329 with ⟨rfl, u329_0_0⟩ | ⟨rfl, u329_1_0⟩
        · exact absurd u329_0_0 (by decide : ¬ ((2 : Int64) = (0 : Int64)))
        · refine Goes.back st329 ?_
          show Goes _ _ _ _ _ _ _ (T329.setTop (mkF m 90 #[.val (.int p0), .val (.long p1), .second, .val (.int p2), .val (.int (2 : Int32)), .val (.int (0 : Int32)), .val (.long u6), .second, .val (.ref r264_0_0), .val (.ref b270), .val (.int (1 : Int32)), .unset, .unset] [(.int (0 : Int32))]))
          refine Goes.step (fun _ k => XS.istore X329.here hx rfl (hb hby at_90) rfl (l' := #[.val (.int p0), .val (.long p1), .second, .val (.int p2), .val (.int (2 : Int32)), .val (.int (0 : Int32)), .val (.long u6), .second, .val (.ref r264_0_0), .val (.ref b270), .val (.int (1 : Int32)), .val (.int (0 : Int32)), .unset]) rfl k) ?_
          show Goes _ _ _ _ _ _ _ (T329.setTop (mkF m 92 #[.val (.int p0), .val (.long p1), .second, .val (.int p2), .val (.int (2 : Int32)), .val (.int (0 : Int32)), .val (.long u6), .second, .val (.ref r264_0_0), .val (.ref b270), .val (.int (1 : Int32)), .val (.int (0 : Int32)), .unset] []))
          refine Goes.step (fun _ k => XS.aload X329.here hx rfl (hb hby at_92) rfl rfl k) ?_
          show Goes _ _ _ _ _ _ _ (T329.setTop (mkF m 94 #[.val (.int p0), .val (.long p1), .second, .val (.int p2), .val (.int (2 : Int32)), .val (.int (0 : Int32)), .val (.long u6), .second, .val (.ref r264_0_0), .val (.ref b270), .val (.int (1 : Int32)), .val (.int (0 : Int32)), .unset] [(.ref b270)]))
          refine Goes.step (fun _ k => XS.lload X329.here hx rfl (hb hby at_94) rfl  k) ?_
          show Goes _ _ _ _ _ _ _ (T329.setTop (mkF m 96 #[.val (.int p0), .val (.long p1), .second, .val (.int p2), .val (.int (2 : Int32)), .val (.int (0 : Int32)), .val (.long u6), .second, .val (.ref r264_0_0), .val (.ref b270), .val (.int (1 : Int32)), .val (.int (0 : Int32)), .unset] [(.long u6), (.ref b270)]))
          obtain ⟨cq330, kq330, q330a, q330b, q330c⟩ := isOf hZ eh329 v314_0_2
          obtain ⟨_, _, ⟨T330, L330, k330, n330⟩, -, X330, ⟨Lc330, hQ330, l330, y330, z330⟩, st330⟩ := X329.virtualBack hx (y := (⟨"com/example/roles_to_grants/rolestogrants/input/ProblemList", "addUnnamed", "(J)V"⟩ : MethodName)) (z := (⟨"com/example/roles_to_grants/rolestogrants/input/ProblemList", "addUnnamed", "(J)V"⟩ : MethodName)) hown (mvT hZ (hw _ (List.mem_of_getElem? (i := 67) rfl))) (mvT hZ (hw _ (List.mem_of_getElem? (i := 68) rfl))) (notFace_of_selects (args := #[]) (mvT hZ (hw _ (List.mem_of_getElem? (i := 70) rfl)))) (mvT hZ (hw _ (List.mem_of_getElem? (i := 70) rfl))) (mvT hZ (hw _ (List.mem_of_getElem? (i := 69) rfl))) (by decide) (backOf (W := 0) (rm11 l Z a0 hw [] b270 u6 r280_0_0 (2 : Int64) T314.heap n0 Z328 v314_0_0 v314_0_1 v314_0_2 g_b270) hZ (hw _ (List.mem_of_getElem? (i := 71) rfl)) (hw _ (List.mem_of_getElem? (i := 29) rfl)) (by decide) (by decide)) q330a q330c (g := (mkF m 96 #[.val (.int p0), .val (.long p1), .second, .val (.int p2), .val (.int (2 : Int32)), .val (.int (0 : Int32)), .val (.long u6), .second, .val (.ref r264_0_0), .val (.ref b270), .val (.int (1 : Int32)), .val (.int (0 : Int32)), .unset] [(.long u6), (.ref b270)])) rfl (by rw [hml]; rfl) (Steps.refl _) (argsL := [(.long u6)]) (rest := []) (lenOf pd_6 rfl) rfl (by show 2 * 0 + _ ≤ _; exact Nat.le_of_eq rfl) (hb hby at_96) (fun _ _ => ⟨rfl, eh329, (by decide : 5 + 0 ≤ _), (by decide : 20 + 0 ≤ _)⟩)
          dsimp only [Pt.U, Pt.locs, Pt.cells, Pt.slots] at X330 l330 y330 z330 st330 hQ330
          subst l330 y330 z330
          obtain ⟨N330, KK330, hR330⟩ := hQ330
          have NA330 := Fr.app NA329 N330
          have XO331 : Old Z n0 T330.heap := XO315.keep KK330 (allS g_b270 all0)
          have f332 := f316.keep KK330 (ninS ne271 nin0)
          have f333 := f317.keep KK330
          have f334 := f318.keep KK330 (ninS ne273 nin0)
          have f335 := f319.keep KK330 (ninS ne272 nin0)
          have f336 := v314_0_2.keep KK330
          have f337 := v314_0_3.keep KK330
          have f340 := v314_0_4.keep KK330 (ninS (Ne.symm ne293) nin0)
          have f341 := v314_0_5.keep KK330 (ninS (Ne.symm ne293) nin0)
          have f342 := v314_0_6.keep KK330 (ninS (Ne.symm ne293) nin0)
          have f343 := v314_0_7.keep KK330 (ninS (Ne.symm ne312) nin0)
          have K344 : Keep h0 T330.heap [] := K328.trans KK330 (allS (Or.inr sz_b270) all0)
          have Z344 : n0 ≤ T330.heap.size := Nat.le_trans Z328 KK330.1
          obtain ⟨rfl, v330_0_0, v330_0_1, v330_0_2⟩ := hR330
          refine Goes.back st330 ?_
          show Goes _ _ _ _ _ _ _ (T330.setTop (mkF m 99 #[.val (.int p0), .val (.long p1), .second, .val (.int p2), .val (.int (2 : Int32)), .val (.int (0 : Int32)), .val (.long u6), .second, .val (.ref r264_0_0), .val (.ref b270), .val (.int (1 : Int32)), .val (.int (0 : Int32)), .unset] []))
          refine Goes.step (fun _ k => XS.iload X330.here hx rfl (hb hby at_99) rfl  k) ?_
          show Goes _ _ _ _ _ _ _ (T330.setTop (mkF m 101 #[.val (.int p0), .val (.long p1), .second, .val (.int p2), .val (.int (2 : Int32)), .val (.int (0 : Int32)), .val (.long u6), .second, .val (.ref r264_0_0), .val (.ref b270), .val (.int (1 : Int32)), .val (.int (0 : Int32)), .unset] [(.int (0 : Int32))]))
          refine Goes.step (fun _ k => XS.iconst X330.here hx rfl (hb hby at_101) k) ?_
          show Goes _ _ _ _ _ _ _ (T330.setTop (mkF m 102 #[.val (.int p0), .val (.long p1), .second, .val (.int p2), .val (.int (2 : Int32)), .val (.int (0 : Int32)), .val (.long u6), .second, .val (.ref r264_0_0), .val (.ref b270), .val (.int (1 : Int32)), .val (.int (0 : Int32)), .unset] [(.int (1 : Int32)), (.int (0 : Int32))]))
          refine Goes.step (fun _ k => XS.icmpYes X330.here hx rfl (pc0 := 102) (pc' := 112) rfl (hb hby at_102) rfl (feq (by decide : ¬ ((0 : Int32) = (1 : Int32)))).2 (by decide) (by decide) k) ?_
          show Goes _ _ _ _ _ _ _ (T330.setTop (mkF m 112 #[.val (.int p0), .val (.long p1), .second, .val (.int p2), .val (.int (2 : Int32)), .val (.int (0 : Int32)), .val (.long u6), .second, .val (.ref r264_0_0), .val (.ref b270), .val (.int (1 : Int32)), .val (.int (0 : Int32)), .unset] []))
          refine Goes.step (fun _ k => XS.aload X330.here hx rfl (hb hby at_112) rfl rfl k) ?_
          show Goes _ _ _ _ _ _ _ (T330.setTop (mkF m 114 #[.val (.int p0), .val (.long p1), .second, .val (.int p2), .val (.int (2 : Int32)), .val (.int (0 : Int32)), .val (.long u6), .second, .val (.ref r264_0_0), .val (.ref b270), .val (.int (1 : Int32)), .val (.int (0 : Int32)), .unset] [(.ref b270)]))
          obtain ⟨cq345, kq345, q345a, q345b, q345c⟩ := isOf hZ rfl v330_0_2
          obtain ⟨_, _, ⟨T345, L345, k345, n345⟩, -, X345, ⟨Lc345, hQ345, l345, y345, z345⟩, st345⟩ := X330.virtualBack hx (y := (⟨"com/example/roles_to_grants/rolestogrants/input/ProblemList", "isEmpty", "()Z"⟩ : MethodName)) (z := (⟨"com/example/roles_to_grants/rolestogrants/input/ProblemList", "isEmpty", "()Z"⟩ : MethodName)) hown (mvT hZ (hw _ (List.mem_of_getElem? (i := 60) rfl))) (mvT hZ (hw _ (List.mem_of_getElem? (i := 61) rfl))) (notFace_of_selects (args := #[]) (mvT hZ (hw _ (List.mem_of_getElem? (i := 63) rfl)))) (mvT hZ (hw _ (List.mem_of_getElem? (i := 63) rfl))) (mvT hZ (hw _ (List.mem_of_getElem? (i := 62) rfl))) (by decide) (backOf (W := 0) (rm10 l Z a0 hw [] b270 ((2 : Int64) + u6) T330.heap n0 Z344 v330_0_1) hZ (hw _ (List.mem_of_getElem? (i := 64) rfl)) (hw _ (List.mem_of_getElem? (i := 29) rfl)) (by decide) (by decide)) q345a q345c (g := (mkF m 114 #[.val (.int p0), .val (.long p1), .second, .val (.int p2), .val (.int (2 : Int32)), .val (.int (0 : Int32)), .val (.long u6), .second, .val (.ref r264_0_0), .val (.ref b270), .val (.int (1 : Int32)), .val (.int (0 : Int32)), .unset] [(.ref b270)])) rfl (by rw [hml]; rfl) (Steps.refl _) (argsL := []) (rest := []) (lenOf pd_5 rfl) rfl (by show 2 * 0 + _ ≤ _; exact Nat.le_of_eq rfl) (hb hby at_114) (fun _ _ => ⟨rfl, rfl, (by decide : 5 + 0 ≤ _), (by decide : 20 + 0 ≤ _)⟩)
          dsimp only [Pt.U, Pt.locs, Pt.cells, Pt.slots] at X345 l345 y345 z345 st345 hQ345
          subst l345 y345 z345
          obtain ⟨N345, eh345, hR345⟩ := hQ345
          have NA345 := Fr.app NA330 N345
          rcases hR345 with ⟨rfl, u345_0_0⟩ | ⟨rfl, u345_1_0⟩
          · exact absurd u345_0_0 (own_nz hg_u6 (2 : Int64) (by decide) (by decide))
          · refine Goes.back st345 ?_
            show Goes _ _ _ _ _ _ _ (T345.setTop (mkF m 117 #[.val (.int p0), .val (.long p1), .second, .val (.int p2), .val (.int (2 : Int32)), .val (.int (0 : Int32)), .val (.long u6), .second, .val (.ref r264_0_0), .val (.ref b270), .val (.int (1 : Int32)), .val (.int (0 : Int32)), .unset] [(.int (0 : Int32))]))
            refine Goes.step (fun _ k => XS.istore X345.here hx rfl (hb hby at_117) rfl (l' := #[.val (.int p0), .val (.long p1), .second, .val (.int p2), .val (.int (2 : Int32)), .val (.int (0 : Int32)), .val (.long u6), .second, .val (.ref r264_0_0), .val (.ref b270), .val (.int (1 : Int32)), .val (.int (0 : Int32)), .val (.int (0 : Int32))]) rfl k) ?_
            show Goes _ _ _ _ _ _ _ (T345.setTop (mkF m 119 #[.val (.int p0), .val (.long p1), .second, .val (.int p2), .val (.int (2 : Int32)), .val (.int (0 : Int32)), .val (.long u6), .second, .val (.ref r264_0_0), .val (.ref b270), .val (.int (1 : Int32)), .val (.int (0 : Int32)), .val (.int (0 : Int32))] []))
            refine Goes.step (fun _ k => XS.iload X345.here hx rfl (hb hby at_119) rfl  k) ?_
            show Goes _ _ _ _ _ _ _ (T345.setTop (mkF m 121 #[.val (.int p0), .val (.long p1), .second, .val (.int p2), .val (.int (2 : Int32)), .val (.int (0 : Int32)), .val (.long u6), .second, .val (.ref r264_0_0), .val (.ref b270), .val (.int (1 : Int32)), .val (.int (0 : Int32)), .val (.int (0 : Int32))] [(.int (1 : Int32))]))
            refine Goes.step (fun _ k => XS.ifNo X345.here hx rfl (hb hby at_121) rfl ((if0 _ _).trans (feq (by decide : ¬ ((1 : Int32) = (0 : Int32)))).1) k) ?_
            show Goes _ _ _ _ _ _ _ (T345.setTop (mkF m 124 #[.val (.int p0), .val (.long p1), .second, .val (.int p2), .val (.int (2 : Int32)), .val (.int (0 : Int32)), .val (.long u6), .second, .val (.ref r264_0_0), .val (.ref b270), .val (.int (1 : Int32)), .val (.int (0 : Int32)), .val (.int (0 : Int32))] []))
            refine Goes.step (fun _ k => XS.iload X345.here hx rfl (hb hby at_124) rfl  k) ?_
            show Goes _ _ _ _ _ _ _ (T345.setTop (mkF m 126 #[.val (.int p0), .val (.long p1), .second, .val (.int p2), .val (.int (2 : Int32)), .val (.int (0 : Int32)), .val (.long u6), .second, .val (.ref r264_0_0), .val (.ref b270), .val (.int (1 : Int32)), .val (.int (0 : Int32)), .val (.int (0 : Int32))] [(.int (0 : Int32))]))
            refine Goes.step (fun _ k => XS.iload X345.here hx rfl (hb hby at_126) rfl  k) ?_
            show Goes _ _ _ _ _ _ _ (T345.setTop (mkF m 128 #[.val (.int p0), .val (.long p1), .second, .val (.int p2), .val (.int (2 : Int32)), .val (.int (0 : Int32)), .val (.long u6), .second, .val (.ref r264_0_0), .val (.ref b270), .val (.int (1 : Int32)), .val (.int (0 : Int32)), .val (.int (0 : Int32))] [(.int (2 : Int32)), (.int (0 : Int32))]))
            refine Goes.step (fun _ k => XS.ifYes X345.here hx rfl (pc0 := 128) (pc' := 135) rfl (hb hby at_128) rfl ((if0 _ _).trans (feq (by decide : ¬ ((2 : Int32) = (0 : Int32)))).2) (by decide) (by decide) k) ?_
            show Goes _ _ _ _ _ _ _ (T345.setTop (mkF m 135 #[.val (.int p0), .val (.long p1), .second, .val (.int p2), .val (.int (2 : Int32)), .val (.int (0 : Int32)), .val (.long u6), .second, .val (.ref r264_0_0), .val (.ref b270), .val (.int (1 : Int32)), .val (.int (0 : Int32)), .val (.int (0 : Int32))] [(.int (0 : Int32))]))
            refine Goes.step (fun _ k => XS.iconst X345.here hx rfl (hb hby at_135) k) ?_
            show Goes _ _ _ _ _ _ _ (T345.setTop (mkF m 136 #[.val (.int p0), .val (.long p1), .second, .val (.int p2), .val (.int (2 : Int32)), .val (.int (0 : Int32)), .val (.long u6), .second, .val (.ref r264_0_0), .val (.ref b270), .val (.int (1 : Int32)), .val (.int (0 : Int32)), .val (.int (0 : Int32))] [(.int (0 : Int32)), (.int (0 : Int32))]))
            refine Goes.step (fun _ k => XS.icmpNo X345.here hx rfl (hb hby at_136) rfl (teq (by decide : (0 : Int32) = (0 : Int32))).2 k) ?_
            show Goes _ _ _ _ _ _ _ (T345.setTop (mkF m 139 #[.val (.int p0), .val (.long p1), .second, .val (.int p2), .val (.int (2 : Int32)), .val (.int (0 : Int32)), .val (.long u6), .second, .val (.ref r264_0_0), .val (.ref b270), .val (.int (1 : Int32)), .val (.int (0 : Int32)), .val (.int (0 : Int32))] []))
            refine Goes.step (fun _ k => XS.iload X345.here hx rfl (hb hby at_139) rfl  k) ?_
            show Goes _ _ _ _ _ _ _ (T345.setTop (mkF m 141 #[.val (.int p0), .val (.long p1), .second, .val (.int p2), .val (.int (2 : Int32)), .val (.int (0 : Int32)), .val (.long u6), .second, .val (.ref r264_0_0), .val (.ref b270), .val (.int (1 : Int32)), .val (.int (0 : Int32)), .val (.int (0 : Int32))] [(.int (0 : Int32))]))
            refine Goes.step (fun _ k => XS.iload X345.here hx rfl (hb hby at_141) rfl  k) ?_
            show Goes _ _ _ _ _ _ _ (T345.setTop (mkF m 143 #[.val (.int p0), .val (.long p1), .second, .val (.int p2), .val (.int (2 : Int32)), .val (.int (0 : Int32)), .val (.long u6), .second, .val (.ref r264_0_0), .val (.ref b270), .val (.int (1 : Int32)), .val (.int (0 : Int32)), .val (.int (0 : Int32))] [(.int (2 : Int32)), (.int (0 : Int32))]))
            refine Goes.step (fun _ k => XS.ifYes X345.here hx rfl (pc0 := 143) (pc' := 162) rfl (hb hby at_143) rfl ((if0 _ _).trans (feq (by decide : ¬ ((2 : Int32) = (0 : Int32)))).2) (by decide) (by decide) k) ?_
            show Goes _ _ _ _ _ _ _ (T345.setTop (mkF m 162 #[.val (.int p0), .val (.long p1), .second, .val (.int p2), .val (.int (2 : Int32)), .val (.int (0 : Int32)), .val (.long u6), .second, .val (.ref r264_0_0), .val (.ref b270), .val (.int (1 : Int32)), .val (.int (0 : Int32)), .val (.int (0 : Int32))] [(.int (0 : Int32))]))
            refine Goes.step (fun _ k => XS.iconst X345.here hx rfl (hb hby at_162) k) ?_
            show Goes _ _ _ _ _ _ _ (T345.setTop (mkF m 163 #[.val (.int p0), .val (.long p1), .second, .val (.int p2), .val (.int (2 : Int32)), .val (.int (0 : Int32)), .val (.long u6), .second, .val (.ref r264_0_0), .val (.ref b270), .val (.int (1 : Int32)), .val (.int (0 : Int32)), .val (.int (0 : Int32))] [(.int (0 : Int32)), (.int (0 : Int32))]))
            refine Goes.step (fun _ k => XS.icmpNo X345.here hx rfl (hb hby at_163) rfl (teq (by decide : (0 : Int32) = (0 : Int32))).2 k) ?_
            show Goes _ _ _ _ _ _ _ (T345.setTop (mkF m 166 #[.val (.int p0), .val (.long p1), .second, .val (.int p2), .val (.int (2 : Int32)), .val (.int (0 : Int32)), .val (.long u6), .second, .val (.ref r264_0_0), .val (.ref b270), .val (.int (1 : Int32)), .val (.int (0 : Int32)), .val (.int (0 : Int32))] []))
            refine Goes.step (fun _ k => XS.iconst X345.here hx rfl (hb hby at_166) k) ?_
            show Goes _ _ _ _ _ _ _ (T345.setTop (mkF m 167 #[.val (.int p0), .val (.long p1), .second, .val (.int p2), .val (.int (2 : Int32)), .val (.int (0 : Int32)), .val (.long u6), .second, .val (.ref r264_0_0), .val (.ref b270), .val (.int (1 : Int32)), .val (.int (0 : Int32)), .val (.int (0 : Int32))] [(.int (1 : Int32))]))
            refine Goes.step (fun _ k => XS.goto X345.here hx rfl (pc0 := 167) (pc' := 171) rfl (hb hby at_167) (by decide) (by decide) k) ?_
            show Goes _ _ _ _ _ _ _ (T345.setTop (mkF m 171 #[.val (.int p0), .val (.long p1), .second, .val (.int p2), .val (.int (2 : Int32)), .val (.int (0 : Int32)), .val (.long u6), .second, .val (.ref r264_0_0), .val (.ref b270), .val (.int (1 : Int32)), .val (.int (0 : Int32)), .val (.int (0 : Int32))] [(.int (1 : Int32))]))
            exact Goes.ret X345 hx (BodyLoose.notSynchronized Bd) Bd.returns rfl (Or.inl ⟨rfl, by simp, _, rfl⟩) (hb hby at_171) (by show Q0 Z p0 p1 p2 zC de kde h0 n0 (some (.int (1 : Int32))) T345.heap _; rw [eh345]; exact ⟨rfl, NA345⟩) (by decide) (by decide)
      · exact absurd (by decide : (0 : Int64) = (0 : Int64)) u294_1_0
    · show Goes _ _ _ _ _ _ _ (s₁.setTop (mkF m 12 #[.val (.int p0), .val (.long p1), .second, .val (.int p2), .val (.int (2 : Int32)), .val (.int (1 : Int32)), .unset, .unset, .unset, .unset, .unset, .unset, .unset] []))
      refine Goes.step (fun _ k => XS.lloadN X0.here hx rfl (hb hby at_12) rfl  k) ?_
      show Goes _ _ _ _ _ _ _ (s₁.setTop (mkF m 13 #[.val (.int p0), .val (.long p1), .second, .val (.int p2), .val (.int (2 : Int32)), .val (.int (1 : Int32)), .unset, .unset, .unset, .unset, .unset, .unset, .unset] [(.long p1)]))
      refine Goes.step (fun _ k => X0.ldc2Long hx hown (mvT hZ (hw _ (List.mem_of_getElem? (i := 0) rfl))) (g := (mkF m 13 #[.val (.int p0), .val (.long p1), .second, .val (.int p2), .val (.int (2 : Int32)), .val (.int (1 : Int32)), .unset, .unset, .unset, .unset, .unset, .unset, .unset] [(.long p1)])) rfl (hb hby at_13) _ k) ?_
      show Goes _ _ _ _ _ _ _ (s₁.setTop (mkF m 16 #[.val (.int p0), .val (.long p1), .second, .val (.int p2), .val (.int (2 : Int32)), .val (.int (1 : Int32)), .unset, .unset, .unset, .unset, .unset, .unset, .unset] [(.long (9223372036854775807 : Int64)), (.long p1)]))
      refine Goes.step (fun _ k => XS.land X0.here hx rfl (hb hby at_16) rfl k) ?_
      show Goes _ _ _ _ _ _ _ (s₁.setTop (mkF m 17 #[.val (.int p0), .val (.long p1), .second, .val (.int p2), .val (.int (2 : Int32)), .val (.int (1 : Int32)), .unset, .unset, .unset, .unset, .unset, .unset, .unset] [(.long (p1 &&& (9223372036854775807 : Int64)))]))
      refine Goes.step (fun _ k => XS.lstore X0.here hx rfl (hb hby at_17) rfl (l' := #[.val (.int p0), .val (.long p1), .second, .val (.int p2), .val (.int (2 : Int32)), .val (.int (1 : Int32)), .val (.long (p1 &&& (9223372036854775807 : Int64))), .second, .unset, .unset, .unset, .unset, .unset]) rfl k) ?_
      show Goes _ _ _ _ _ _ _ (s₁.setTop (mkF m 19 #[.val (.int p0), .val (.long p1), .second, .val (.int p2), .val (.int (2 : Int32)), .val (.int (1 : Int32)), .val (.long (p1 &&& (9223372036854775807 : Int64))), .second, .unset, .unset, .unset, .unset, .unset] []))
      generalize hg_u6 : (p1 &&& (9223372036854775807 : Int64)) = u6
      show Goes _ _ _ _ _ _ _ (s₁.setTop (mkF m 19 #[.val (.int p0), .val (.long p1), .second, .val (.int p2), .val (.int (2 : Int32)), .val (.int (1 : Int32)), .val (.long u6), .second, .unset, .unset, .unset, .unset, .unset] []))
      refine Goes.step (fun _ k => XS.iloadN X0.here hx rfl (hb hby at_19) rfl  k) ?_
      show Goes _ _ _ _ _ _ _ (s₁.setTop (mkF m 20 #[.val (.int p0), .val (.long p1), .second, .val (.int p2), .val (.int (2 : Int32)), .val (.int (1 : Int32)), .val (.long u6), .second, .unset, .unset, .unset, .unset, .unset] [(.int p2)]))
      refine Goes.step (fun _ k => XS.sipush X0.here hx rfl (hb hby at_20) k) ?_
      show Goes _ _ _ _ _ _ _ (s₁.setTop (mkF m 23 #[.val (.int p0), .val (.long p1), .second, .val (.int p2), .val (.int (2 : Int32)), .val (.int (1 : Int32)), .val (.long u6), .second, .unset, .unset, .unset, .unset, .unset] [(.int (255 : Int32)), (.int p2)]))
      refine Goes.step (fun _ k => XS.iand X0.here hx rfl (hb hby at_23) rfl k) ?_
      show Goes _ _ _ _ _ _ _ (s₁.setTop (mkF m 24 #[.val (.int p0), .val (.long p1), .second, .val (.int p2), .val (.int (2 : Int32)), .val (.int (1 : Int32)), .val (.long u6), .second, .unset, .unset, .unset, .unset, .unset] [(.int (p2 &&& (255 : Int32)))]))
      refine Goes.step (fun _ k => XS.i2c X0.here hx rfl (hb hby at_24) rfl k) ?_
      show Goes _ _ _ _ _ _ _ (s₁.setTop (mkF m 25 #[.val (.int p0), .val (.long p1), .second, .val (.int p2), .val (.int (2 : Int32)), .val (.int (1 : Int32)), .val (.long u6), .second, .unset, .unset, .unset, .unset, .unset] [(.int ((p2 &&& (255 : Int32)).toUInt32.toUInt16.toUInt32.toInt32))]))
      obtain ⟨_, _, ⟨T346, L346, k346, n346⟩, -, X346, ⟨Lc346, hQ346, l346, y346, z346⟩, st346⟩ := Jvm.LawKit.callS X0 hx (y := (⟨"java/lang/String", "valueOf", "(C)Ljava/lang/String;"⟩ : MethodName)) hown (mvT hZ (hw _ (List.mem_of_getElem? (i := 1) rfl))) (mvT hZ (hw _ (List.mem_of_getElem? (i := 2) rfl))) (mvT hZ (hw _ (List.mem_of_getElem? (i := 3) rfl))) (mvT hZ (hw _ (List.mem_of_getElem? (i := 4) rfl))) (by decide) (backOf (W := 0) (rm1 l Z a0 hw [] ((p2 &&& (255 : Int32)).toUInt32.toUInt16.toUInt32.toInt32) zC h0 n0 Z0 S_CS X00 P5 (own_char _)) hZ (hw _ (List.mem_of_getElem? (i := 4) rfl)) (hw _ (List.mem_of_getElem? (i := 3) rfl)) (by decide) (by decide)) (g := (mkF m 25 #[.val (.int p0), .val (.long p1), .second, .val (.int p2), .val (.int (2 : Int32)), .val (.int (1 : Int32)), .val (.long u6), .second, .unset, .unset, .unset, .unset, .unset] [(.int ((p2 &&& (255 : Int32)).toUInt32.toUInt16.toUInt32.toInt32))])) rfl (by rw [hml]; rfl) (argsL := [(.int ((p2 &&& (255 : Int32)).toUInt32.toUInt16.toUInt32.toInt32))]) (rest := []) (lenOf pd_0 rfl) rfl (by show 2 * 0 + _ ≤ _; exact Nat.le_of_eq rfl) (hb hby at_25) (fun _ _ => ⟨rfl, e0, (by decide : 0 + 2 ≤ _), (by decide : 0 + 5 ≤ _)⟩)
      dsimp only [Pt.U, Pt.locs, Pt.cells, Pt.slots] at X346 l346 y346 z346 st346 hQ346
      subst l346 y346 z346
      obtain ⟨N346, KK346, hR346⟩ := hQ346
      have NA346 := Fr.app N0 N346
      have XO347 : Old Z n0 T346.heap := X00.keep KK346 all0
      have f348 := V_de.keep KK346 nin0
      have K349 : Keep h0 T346.heap [] := K0.trans KK346 all0
      have Z349 : n0 ≤ T346.heap.size := Nat.le_trans Z0 KK346.1
      obtain ⟨r346_0_0, r346_0_1, kk346_0_0, rfl, u346_0_0, g_r346_0_0, le_r346_0_0, g_r346_0_1, le_r346_0_1, nn346_0_0, v346_0_0, v346_0_1, v346_0_2⟩ := hR346
      have ne350 : de ≠ r346_0_0 := Nat.ne_of_lt (Nat.lt_of_lt_of_le V_de.lt le_r346_0_0)
      have sz_r346_0_0 : h0.size ≤ r346_0_0 := Nat.le_trans K0.1 le_r346_0_0
      have ne351 : de ≠ r346_0_1 := Nat.ne_of_lt (Nat.lt_of_lt_of_le V_de.lt le_r346_0_1)
      have sz_r346_0_1 : h0.size ≤ r346_0_1 := Nat.le_trans K0.1 le_r346_0_1
      refine Goes.step st346 ?_
      show Goes _ _ _ _ _ _ _ (T346.setTop (mkF m 28 #[.val (.int p0), .val (.long p1), .second, .val (.int p2), .val (.int (2 : Int32)), .val (.int (1 : Int32)), .val (.long u6), .second, .unset, .unset, .unset, .unset, .unset] [(.ref r346_0_0)]))
      refine Goes.step (fun _ k => XS.astore X346.here hx rfl (hb hby at_28) rfl rfl (l' := #[.val (.int p0), .val (.long p1), .second, .val (.int p2), .val (.int (2 : Int32)), .val (.int (1 : Int32)), .val (.long u6), .second, .val (.ref r346_0_0), .unset, .unset, .unset, .unset]) rfl k) ?_
      show Goes _ _ _ _ _ _ _ (T346.setTop (mkF m 30 #[.val (.int p0), .val (.long p1), .second, .val (.int p2), .val (.int (2 : Int32)), .val (.int (1 : Int32)), .val (.long u6), .second, .val (.ref r346_0_0), .unset, .unset, .unset, .unset] []))
      obtain ⟨T352, h352, X352, e352, E352, A352, D352, -, st352⟩ := newO X346 hx hZ hown (hw _ (List.mem_of_getElem? (i := 27) rfl)) (hw _ (List.mem_of_getElem? (i := 28) rfl)) (hw _ (List.mem_of_getElem? (i := 29) rfl)) rfl (g := (mkF m 30 #[.val (.int p0), .val (.long p1), .second, .val (.int p2), .val (.int (2 : Int32)), .val (.int (1 : Int32)), .val (.long u6), .second, .val (.ref r346_0_0), .unset, .unset, .unset, .unset] [])) rfl (hb hby at_30) (by decide) (by decide)
      obtain ⟨b352, g352⟩ : ∃ z, z = T346.heap.size := ⟨_, rfl⟩
      rw [← g352] at A352 D352 st352
      refine Goes.step st352 ?_
      have g_b352 : n0 ≤ b352 := Nat.le_trans Z349 (Nat.le_of_eq g352.symm)
      have sz_b352 : h0.size ≤ b352 := Nat.le_trans K349.1 (Nat.le_of_eq g352.symm)
      have ne353 : de ≠ b352 := Nat.ne_of_lt (Nat.lt_of_lt_of_le f348.lt (Nat.le_of_eq g352.symm))
      have ne354 : r346_0_0 ≠ b352 := Nat.ne_of_lt (Nat.lt_of_lt_of_le v346_0_0.lt (Nat.le_of_eq g352.symm))
      have ne355 : r346_0_1 ≠ b352 := Nat.ne_of_lt (Nat.lt_of_lt_of_le v346_0_1.lt (Nat.le_of_eq g352.symm))
      have XO356 : Old Z n0 h352 := XO347.ext E352
      have f357 := f348.ext E352
      have f358 := v346_0_0.ext E352
      have f359 := v346_0_1.ext E352
      have f360 := v346_0_2.ext E352
      have K361 : Keep h0 h352 [] := K349.ext E352
      have Z361 : n0 ≤ h352.size := Nat.le_trans Z349 E352.1
      have E_b352 := A352
      have F_named_b352 : Fld Z h352 b352 "com/example/roles_to_grants/rolestogrants/input/ProblemList" "named" "Ljava/util/List;" .null := D352 (Or.inr (hw _ (List.mem_of_getElem? (i := 59) rfl))) (ty := (.object "java/util/List")) (by decide)
      have F_count_b352 : Fld Z h352 b352 "com/example/roles_to_grants/rolestogrants/input/ProblemList" "count" "J" (.long (0 : Int64)) := D352 (Or.inl (hw _ (List.mem_of_getElem? (i := 66) rfl))) (ty := .long) (by decide)
      show Goes _ _ _ _ _ _ _ (T352.setTop (mkF m 33 #[.val (.int p0), .val (.long p1), .second, .val (.int p2), .val (.int (2 : Int32)), .val (.int (1 : Int32)), .val (.long u6), .second, .val (.ref r346_0_0), .unset, .unset, .unset, .unset] [(.ref b352)]))
      refine Goes.step (fun _ k => XS.dup X352.here hx rfl (hb hby at_33) rfl rfl k) ?_
      show Goes _ _ _ _ _ _ _ (T352.setTop (mkF m 34 #[.val (.int p0), .val (.long p1), .second, .val (.int p2), .val (.int (2 : Int32)), .val (.int (1 : Int32)), .val (.long u6), .second, .val (.ref r346_0_0), .unset, .unset, .unset, .unset] [(.ref b352), (.ref b352)]))
      obtain ⟨_, _, ⟨T362, L362, k362, n362⟩, -, X362, ⟨Lc362, hQ362, l362, y362, z362⟩, st362⟩ := X352.specialBack hx (y := (⟨"com/example/roles_to_grants/rolestogrants/input/ProblemList", "<init>", "()V"⟩ : MethodName)) rfl hown (mvT hZ (hw _ (List.mem_of_getElem? (i := 30) rfl))) (mvT hZ (hw _ (List.mem_of_getElem? (i := 31) rfl))) (mvT hZ (hw _ (List.mem_of_getElem? (i := 32) rfl))) (by decide) (backOf (W := 1) (rm6 l Z a0 hw [] b352 de h352 n0 Z361 S_DE XO356 F_named_b352 F_count_b352 E_b352 g_b352) hZ (hw _ (List.mem_of_getElem? (i := 32) rfl)) (hw _ (List.mem_of_getElem? (i := 29) rfl)) (by decide) (by decide)) (g := (mkF m 34 #[.val (.int p0), .val (.long p1), .second, .val (.int p2), .val (.int (2 : Int32)), .val (.int (1 : Int32)), .val (.long u6), .second, .val (.ref r346_0_0), .unset, .unset, .unset, .unset] [(.ref b352), (.ref b352)])) rfl (by rw [hml]; rfl) (Steps.refl _) (a := b352) (argsL := []) (rest := [(.ref b352)]) (lenOf pd_4 rfl) rfl (by show 2 * 0 + _ ≤ _; exact Nat.le_of_eq rfl) (hb hby at_34) (fun _ _ => ⟨rfl, e352, (by decide : 3 + 1 ≤ _), (by decide : 7 + 3 ≤ _)⟩)
      dsimp only [Pt.U, Pt.locs, Pt.cells, Pt.slots] at X362 l362 y362 z362 st362 hQ362
      subst l362 y362 z362
      obtain ⟨N362, KK362, hR362⟩ := hQ362
      have NA362 := Fr.app NA346 N362
      have XO363 : Old Z n0 T362.heap := XO356.keep KK362 (allS g_b352 all0)
      have f364 := f357.keep KK362 (ninS ne353 nin0)
      have f365 := f358.keep KK362
      have f366 := f359.keep KK362 (ninS ne355 nin0)
      have f367 := f360.keep KK362 (ninS ne354 nin0)
      have f368 := E_b352.keep KK362
      have K371 : Keep h0 T362.heap [] := K361.trans KK362 (allS (Or.inr sz_b352) all0)
      have Z371 : n0 ≤ T362.heap.size := Nat.le_trans Z361 KK362.1
      obtain ⟨r362_0_0, rfl, g_r362_0_0, le_r362_0_0, v362_0_0, v362_0_1, v362_0_2, v362_0_3, v362_0_4, v362_0_5, v362_0_6⟩ := hR362
      have ne372 : de ≠ r362_0_0 := Nat.ne_of_lt (Nat.lt_of_lt_of_le f357.lt le_r362_0_0)
      have ne373 : r346_0_0 ≠ r362_0_0 := Nat.ne_of_lt (Nat.lt_of_lt_of_le f358.lt le_r362_0_0)
      have ne374 : r346_0_1 ≠ r362_0_0 := Nat.ne_of_lt (Nat.lt_of_lt_of_le f359.lt le_r362_0_0)
      have ne375 : b352 ≠ r362_0_0 := Nat.ne_of_lt (Nat.lt_of_lt_of_le E_b352.lt le_r362_0_0)
      have sz_r362_0_0 : h0.size ≤ r362_0_0 := Nat.le_trans K361.1 le_r362_0_0
      refine Goes.back st362 ?_
      show Goes _ _ _ _ _ _ _ (T362.setTop (mkF m 37 #[.val (.int p0), .val (.long p1), .second, .val (.int p2), .val (.int (2 : Int32)), .val (.int (1 : Int32)), .val (.long u6), .second, .val (.ref r346_0_0), .unset, .unset, .unset, .unset] [(.ref b352)]))
      refine Goes.step (fun _ k => XS.astore X362.here hx rfl (hb hby at_37) rfl rfl (l' := #[.val (.int p0), .val (.long p1), .second, .val (.int p2), .val (.int (2 : Int32)), .val (.int (1 : Int32)), .val (.long u6), .second, .val (.ref r346_0_0), .val (.ref b352), .unset, .unset, .unset]) rfl k) ?_
      show Goes _ _ _ _ _ _ _ (T362.setTop (mkF m 39 #[.val (.int p0), .val (.long p1), .second, .val (.int p2), .val (.int (2 : Int32)), .val (.int (1 : Int32)), .val (.long u6), .second, .val (.ref r346_0_0), .val (.ref b352), .unset, .unset, .unset] []))
      refine Goes.step (fun _ k => XS.aload X362.here hx rfl (hb hby at_39) rfl rfl k) ?_
      show Goes _ _ _ _ _ _ _ (T362.setTop (mkF m 41 #[.val (.int p0), .val (.long p1), .second, .val (.int p2), .val (.int (2 : Int32)), .val (.int (1 : Int32)), .val (.long u6), .second, .val (.ref r346_0_0), .val (.ref b352), .unset, .unset, .unset] [(.ref b352)]))
      obtain ⟨cq376, kq376, q376a, q376b, q376c⟩ := isOf hZ rfl v362_0_2
      obtain ⟨_, _, ⟨T376, L376, k376, n376⟩, -, X376, ⟨Lc376, hQ376, l376, y376, z376⟩, st376⟩ := X362.virtualBack hx (y := (⟨"com/example/roles_to_grants/rolestogrants/input/ProblemList", "isEmpty", "()Z"⟩ : MethodName)) (z := (⟨"com/example/roles_to_grants/rolestogrants/input/ProblemList", "isEmpty", "()Z"⟩ : MethodName)) hown (mvT hZ (hw _ (List.mem_of_getElem? (i := 60) rfl))) (mvT hZ (hw _ (List.mem_of_getElem? (i := 61) rfl))) (notFace_of_selects (args := #[]) (mvT hZ (hw _ (List.mem_of_getElem? (i := 63) rfl)))) (mvT hZ (hw _ (List.mem_of_getElem? (i := 63) rfl))) (mvT hZ (hw _ (List.mem_of_getElem? (i := 62) rfl))) (by decide) (backOf (W := 0) (rm10 l Z a0 hw [] b352 (0 : Int64) T362.heap n0 Z371 v362_0_1) hZ (hw _ (List.mem_of_getElem? (i := 64) rfl)) (hw _ (List.mem_of_getElem? (i := 29) rfl)) (by decide) (by decide)) q376a q376c (g := (mkF m 41 #[.val (.int p0), .val (.long p1), .second, .val (.int p2), .val (.int (2 : Int32)), .val (.int (1 : Int32)), .val (.long u6), .second, .val (.ref r346_0_0), .val (.ref b352), .unset, .unset, .unset] [(.ref b352)])) rfl (by rw [hml]; rfl) (Steps.refl _) (argsL := []) (rest := []) (lenOf pd_5 rfl) rfl (by show 2 * 0 + _ ≤ _; exact Nat.le_of_eq rfl) (hb hby at_41) (fun _ _ => ⟨rfl, rfl, (by decide : 4 + 0 ≤ _), (by decide : 10 + 0 ≤ _)⟩)
      dsimp only [Pt.U, Pt.locs, Pt.cells, Pt.slots] at X376 l376 y376 z376 st376 hQ376
      subst l376 y376 z376
      obtain ⟨N376, eh376, hR376⟩ := hQ376
      have NA376 := Fr.app NA362 N376
      rcases hR376 with ⟨rfl, u376_0_0⟩ | ⟨rfl, u376_1_0⟩
      · refine Goes.back st376 ?_
        show Goes _ _ _ _ _ _ _ (T376.setTop (mkF m 44 #[.val (.int p0), .val (.long p1), .second, .val (.int p2), .val (.int (2 : Int32)), .val (.int (1 : Int32)), .val (.long u6), .second, .val (.ref r346_0_0), .val (.ref b352), .unset, .unset, .unset] [(.int (1 : Int32))]))
        refine Goes.step (fun _ k => XS.istore X376.here hx rfl (hb hby at_44) rfl (l' := #[.val (.int p0), .val (.long p1), .second, .val (.int p2), .val (.int (2 : Int32)), .val (.int (1 : Int32)), .val (.long u6), .second, .val (.ref r346_0_0), .val (.ref b352), .val (.int (1 : Int32)), .unset, .unset]) rfl k) ?_
        show Goes _ _ _ _ _ _ _ (T376.setTop (mkF m 46 #[.val (.int p0), .val (.long p1), .second, .val (.int p2), .val (.int (2 : Int32)), .val (.int (1 : Int32)), .val (.long u6), .second, .val (.ref r346_0_0), .val (.ref b352), .val (.int (1 : Int32)), .unset, .unset] []))
        refine Goes.step (fun _ k => XS.iload X376.here hx rfl (hb hby at_46) rfl  k) ?_
        show Goes _ _ _ _ _ _ _ (T376.setTop (mkF m 48 #[.val (.int p0), .val (.long p1), .second, .val (.int p2), .val (.int (2 : Int32)), .val (.int (1 : Int32)), .val (.long u6), .second, .val (.ref r346_0_0), .val (.ref b352), .val (.int (1 : Int32)), .unset, .unset] [(.int (2 : Int32))]))
        refine Goes.step (fun _ k => XS.iconst X376.here hx rfl (hb hby at_48) k) ?_
        show Goes _ _ _ _ _ _ _ (T376.setTop (mkF m 49 #[.val (.int p0), .val (.long p1), .second, .val (.int p2), .val (.int (2 : Int32)), .val (.int (1 : Int32)), .val (.long u6), .second, .val (.ref r346_0_0), .val (.ref b352), .val (.int (1 : Int32)), .unset, .unset] [(.int (1 : Int32)), (.int (2 : Int32))]))
        refine Goes.step (fun _ k => XS.icmpNo X376.here hx rfl (hb hby at_49) rfl (flt (by decide : ¬ ((2 : Int32) < (1 : Int32)))).1 k) ?_
        show Goes _ _ _ _ _ _ _ (T376.setTop (mkF m 52 #[.val (.int p0), .val (.long p1), .second, .val (.int p2), .val (.int (2 : Int32)), .val (.int (1 : Int32)), .val (.long u6), .second, .val (.ref r346_0_0), .val (.ref b352), .val (.int (1 : Int32)), .unset, .unset] []))
        refine Goes.step (fun _ k => XS.aload X376.here hx rfl (hb hby at_52) rfl rfl k) ?_
        show Goes _ _ _ _ _ _ _ (T376.setTop (mkF m 54 #[.val (.int p0), .val (.long p1), .second, .val (.int p2), .val (.int (2 : Int32)), .val (.int (1 : Int32)), .val (.long u6), .second, .val (.ref r346_0_0), .val (.ref b352), .val (.int (1 : Int32)), .unset, .unset] [(.ref b352)]))
        refine Goes.step (fun _ k => XS.aload X376.here hx rfl (hb hby at_54) rfl rfl k) ?_
        show Goes _ _ _ _ _ _ _ (T376.setTop (mkF m 56 #[.val (.int p0), .val (.long p1), .second, .val (.int p2), .val (.int (2 : Int32)), .val (.int (1 : Int32)), .val (.long u6), .second, .val (.ref r346_0_0), .val (.ref b352), .val (.int (1 : Int32)), .unset, .unset] [(.ref r346_0_0), (.ref b352)]))
        obtain ⟨cq377, kq377, q377a, q377b, q377c⟩ := isOf hZ eh376 v362_0_2
        obtain ⟨_, _, ⟨T377, L377, k377, n377⟩, -, X377, ⟨Lc377, hQ377, l377, y377, z377⟩, st377⟩ := X376.virtualBack hx (y := (⟨"com/example/roles_to_grants/rolestogrants/input/ProblemList", "add", "(Ljava/lang/String;)V"⟩ : MethodName)) (z := (⟨"com/example/roles_to_grants/rolestogrants/input/ProblemList", "add", "(Ljava/lang/String;)V"⟩ : MethodName)) hown (mvT hZ (hw _ (List.mem_of_getElem? (i := 72) rfl))) (mvT hZ (hw _ (List.mem_of_getElem? (i := 73) rfl))) (notFace_of_selects (args := #[]) (mvT hZ (hw _ (List.mem_of_getElem? (i := 75) rfl)))) (mvT hZ (hw _ (List.mem_of_getElem? (i := 75) rfl))) (mvT hZ (hw _ (List.mem_of_getElem? (i := 74) rfl))) (by decide) (backOf (W := 0) (rm12_0 l Z a0 hw [] b352 r346_0_0 de r362_0_0 (0 : Int64) (0 : Int32) kde T362.heap n0 Z371 S_DE XO363 v362_0_0 v362_0_1 v362_0_4 v362_0_5 v362_0_6 v362_0_2 v362_0_3 f365 f364 g_b352 g_r362_0_0 ne353 ne372 ne375) hZ (hw _ (List.mem_of_getElem? (i := 76) rfl)) (hw _ (List.mem_of_getElem? (i := 29) rfl)) (by decide) (by decide)) q377a q377c (g := (mkF m 56 #[.val (.int p0), .val (.long p1), .second, .val (.int p2), .val (.int (2 : Int32)), .val (.int (1 : Int32)), .val (.long u6), .second, .val (.ref r346_0_0), .val (.ref b352), .val (.int (1 : Int32)), .unset, .unset] [(.ref r346_0_0), (.ref b352)])) rfl (by rw [hml]; rfl) (Steps.refl _) (argsL := [(.ref r346_0_0)]) (rest := []) (lenOf pd_7 rfl) rfl (by show 2 * 0 + _ ≤ _; exact Nat.le_of_eq rfl) (hb hby at_56) (fun _ _ => ⟨rfl, eh376, (by decide : 4 + 1 ≤ _), (by decide : 10 + 10 ≤ _)⟩)
        dsimp only [Pt.U, Pt.locs, Pt.cells, Pt.slots] at X377 l377 y377 z377 st377 hQ377
        subst l377 y377 z377
        obtain ⟨N377, KK377, hR377⟩ := hQ377
        have NA377 := Fr.app NA376 N377
        have XO378 : Old Z n0 T377.heap := XO363.keep KK377 (allS g_b352 (allS g_r362_0_0 all0))
        have f379 := f364.keep KK377 (ninS ne353 (ninS ne372 nin0))
        have f380 := f365.keep KK377
        have f381 := f366.keep KK377 (ninS ne355 (ninS ne374 nin0))
        have f382 := f367.keep KK377 (ninS ne354 (ninS ne373 nin0))
        have f383 := v362_0_2.keep KK377
        have f386 := v362_0_3.keep KK377
        have K390 : Keep h0 T377.heap [] := K371.trans KK377 (allS (Or.inr sz_b352) (allS (Or.inr sz_r362_0_0) all0))
        have Z390 : n0 ≤ T377.heap.size := Nat.le_trans Z371 KK377.1
        obtain ⟨r377_0_0, kk377_0_0, rfl, g_r377_0_0, le_r377_0_0, v377_0_0, v377_0_1, v377_0_2, v377_0_3, v377_0_4, v377_0_5, v377_0_6, v377_0_7, oo377_0_0⟩ := hR377
        have ne391 : de ≠ r377_0_0 := Nat.ne_of_lt (Nat.lt_of_lt_of_le f364.lt le_r377_0_0)
        have ne392 : r346_0_0 ≠ r377_0_0 := Nat.ne_of_lt (Nat.lt_of_lt_of_le f365.lt le_r377_0_0)
        have ne393 : r346_0_1 ≠ r377_0_0 := Nat.ne_of_lt (Nat.lt_of_lt_of_le f366.lt le_r377_0_0)
        have ne394 : b352 ≠ r377_0_0 := Nat.ne_of_lt (Nat.lt_of_lt_of_le v362_0_2.lt le_r377_0_0)
        have ne395 : r362_0_0 ≠ r377_0_0 := Nat.ne_of_lt (Nat.lt_of_lt_of_le v362_0_3.lt le_r377_0_0)
        have sz_r377_0_0 : h0.size ≤ r377_0_0 := Nat.le_trans K371.1 le_r377_0_0
        refine Goes.back st377 ?_
        show Goes _ _ _ _ _ _ _ (T377.setTop (mkF m 59 #[.val (.int p0), .val (.long p1), .second, .val (.int p2), .val (.int (2 : Int32)), .val (.int (1 : Int32)), .val (.long u6), .second, .val (.ref r346_0_0), .val (.ref b352), .val (.int (1 : Int32)), .unset, .unset] []))
        refine Goes.step (fun _ k => XS.iload X377.here hx rfl (hb hby at_59) rfl  k) ?_
        show Goes _ _ _ _ _ _ _ (T377.setTop (mkF m 61 #[.val (.int p0), .val (.long p1), .second, .val (.int p2), .val (.int (2 : Int32)), .val (.int (1 : Int32)), .val (.long u6), .second, .val (.ref r346_0_0), .val (.ref b352), .val (.int (1 : Int32)), .unset, .unset] [(.int (2 : Int32))]))
        refine Goes.step (fun _ k => XS.iconst X377.here hx rfl (hb hby at_61) k) ?_
        show Goes _ _ _ _ _ _ _ (T377.setTop (mkF m 62 #[.val (.int p0), .val (.long p1), .second, .val (.int p2), .val (.int (2 : Int32)), .val (.int (1 : Int32)), .val (.long u6), .second, .val (.ref r346_0_0), .val (.ref b352), .val (.int (1 : Int32)), .unset, .unset] [(.int (2 : Int32)), (.int (2 : Int32))]))
        refine Goes.step (fun _ k => XS.icmpNo X377.here hx rfl (hb hby at_62) rfl (flt (by decide : ¬ ((2 : Int32) < (2 : Int32)))).1 k) ?_
        show Goes _ _ _ _ _ _ _ (T377.setTop (mkF m 65 #[.val (.int p0), .val (.long p1), .second, .val (.int p2), .val (.int (2 : Int32)), .val (.int (1 : Int32)), .val (.long u6), .second, .val (.ref r346_0_0), .val (.ref b352), .val (.int (1 : Int32)), .unset, .unset] []))
        refine Goes.step (fun _ k => XS.aload X377.here hx rfl (hb hby at_65) rfl rfl k) ?_
        show Goes _ _ _ _ _ _ _ (T377.setTop (mkF m 67 #[.val (.int p0), .val (.long p1), .second, .val (.int p2), .val (.int (2 : Int32)), .val (.int (1 : Int32)), .val (.long u6), .second, .val (.ref r346_0_0), .val (.ref b352), .val (.int (1 : Int32)), .unset, .unset] [(.ref b352)]))
        refine Goes.step (fun _ k => XS.aload X377.here hx rfl (hb hby at_67) rfl rfl k) ?_
        show Goes _ _ _ _ _ _ _ (T377.setTop (mkF m 69 #[.val (.int p0), .val (.long p1), .second, .val (.int p2), .val (.int (2 : Int32)), .val (.int (1 : Int32)), .val (.long u6), .second, .val (.ref r346_0_0), .val (.ref b352), .val (.int (1 : Int32)), .unset, .unset] [(.ref r346_0_0), (.ref b352)]))
        obtain ⟨cq396, kq396, q396a, q396b, q396c⟩ := isOf hZ rfl v377_0_2
        obtain ⟨_, _, ⟨T396, L396, k396, n396⟩, -, X396, ⟨Lc396, hQ396, l396, y396, z396⟩, st396⟩ := X377.virtualBack hx (y := (⟨"com/example/roles_to_grants/rolestogrants/input/ProblemList", "add", "(Ljava/lang/String;)V"⟩ : MethodName)) (z := (⟨"com/example/roles_to_grants/rolestogrants/input/ProblemList", "add", "(Ljava/lang/String;)V"⟩ : MethodName)) hown (mvT hZ (hw _ (List.mem_of_getElem? (i := 72) rfl))) (mvT hZ (hw _ (List.mem_of_getElem? (i := 73) rfl))) (notFace_of_selects (args := #[]) (mvT hZ (hw _ (List.mem_of_getElem? (i := 75) rfl)))) (mvT hZ (hw _ (List.mem_of_getElem? (i := 75) rfl))) (mvT hZ (hw _ (List.mem_of_getElem? (i := 74) rfl))) (by decide) (backOf (W := 0) (rm12_1 l Z a0 hw [] b352 r346_0_0 r362_0_0 (1 : Int64) (1 : Int32) r377_0_0 kk377_0_0 T377.heap n0 Z390 v377_0_0 v377_0_1 v377_0_4 v377_0_5 v377_0_6 v377_0_2 v377_0_3 f380 (own_arx v377_0_7) oo377_0_0 g_b352 g_r362_0_0 g_r377_0_0 (Ne.symm ne394) (Ne.symm ne395) ne375) hZ (hw _ (List.mem_of_getElem? (i := 76) rfl)) (hw _ (List.mem_of_getElem? (i := 29) rfl)) (by decide) (by decide)) q396a q396c (g := (mkF m 69 #[.val (.int p0), .val (.long p1), .second, .val (.int p2), .val (.int (2 : Int32)), .val (.int (1 : Int32)), .val (.long u6), .second, .val (.ref r346_0_0), .val (.ref b352), .val (.int (1 : Int32)), .unset, .unset] [(.ref r346_0_0), (.ref b352)])) rfl (by rw [hml]; rfl) (Steps.refl _) (argsL := [(.ref r346_0_0)]) (rest := []) (lenOf pd_7 rfl) rfl (by show 2 * 0 + _ ≤ _; exact Nat.le_of_eq rfl) (hb hby at_69) (fun _ _ => ⟨rfl, rfl, (by decide : 5 + 0 ≤ _), (by decide : 20 + 0 ≤ _)⟩)
        dsimp only [Pt.U, Pt.locs, Pt.cells, Pt.slots] at X396 l396 y396 z396 st396 hQ396
        subst l396 y396 z396
        obtain ⟨N396, KK396, hR396⟩ := hQ396
        have NA396 := Fr.app NA377 N396
        have XO397 : Old Z n0 T396.heap := XO378.keep KK396 (allS g_b352 (allS g_r362_0_0 (allS g_r377_0_0 all0)))
        have f398 := f379.keep KK396 (ninS ne353 (ninS ne372 (ninS ne391 nin0)))
        have f399 := f380.keep KK396
        have f400 := f381.keep KK396 (ninS ne355 (ninS ne374 (ninS ne393 nin0)))
        have f401 := f382.keep KK396 (ninS ne354 (ninS ne373 (ninS ne392 nin0)))
        have f402 := v377_0_2.keep KK396
        have f403 := v377_0_3.keep KK396
        have K410 : Keep h0 T396.heap [] := K390.trans KK396 (allS (Or.inr sz_b352) (allS (Or.inr sz_r362_0_0) (allS (Or.inr sz_r377_0_0) all0)))
        have Z410 : n0 ≤ T396.heap.size := Nat.le_trans Z390 KK396.1
        obtain ⟨rfl, v396_0_0, v396_0_1, v396_0_2, v396_0_3, v396_0_4, v396_0_5, v396_0_6, v396_0_7⟩ := hR396
        refine Goes.back st396 ?_
        show Goes _ _ _ _ _ _ _ (T396.setTop (mkF m 72 #[.val (.int p0), .val (.long p1), .second, .val (.int p2), .val (.int (2 : Int32)), .val (.int (1 : Int32)), .val (.long u6), .second, .val (.ref r346_0_0), .val (.ref b352), .val (.int (1 : Int32)), .unset, .unset] []))
        refine Goes.step (fun _ k => XS.iload X396.here hx rfl (hb hby at_72) rfl  k) ?_
        show Goes _ _ _ _ _ _ _ (T396.setTop (mkF m 74 #[.val (.int p0), .val (.long p1), .second, .val (.int p2), .val (.int (2 : Int32)), .val (.int (1 : Int32)), .val (.long u6), .second, .val (.ref r346_0_0), .val (.ref b352), .val (.int (1 : Int32)), .unset, .unset] [(.int (2 : Int32))]))
        refine Goes.step (fun _ k => XS.iconst X396.here hx rfl (hb hby at_74) k) ?_
        show Goes _ _ _ _ _ _ _ (T396.setTop (mkF m 75 #[.val (.int p0), .val (.long p1), .second, .val (.int p2), .val (.int (2 : Int32)), .val (.int (1 : Int32)), .val (.long u6), .second, .val (.ref r346_0_0), .val (.ref b352), .val (.int (1 : Int32)), .unset, .unset] [(.int (3 : Int32)), (.int (2 : Int32))]))
        refine Goes.step (fun _ k => XS.icmpYes X396.here hx rfl (pc0 := 75) (pc' := 85) rfl (hb hby at_75) rfl (tlt (by decide : (2 : Int32) < (3 : Int32))).1 (by decide) (by decide) k) ?_
        show Goes _ _ _ _ _ _ _ (T396.setTop (mkF m 85 #[.val (.int p0), .val (.long p1), .second, .val (.int p2), .val (.int (2 : Int32)), .val (.int (1 : Int32)), .val (.long u6), .second, .val (.ref r346_0_0), .val (.ref b352), .val (.int (1 : Int32)), .unset, .unset] []))
        refine Goes.step (fun _ k => XS.aload X396.here hx rfl (hb hby at_85) rfl rfl k) ?_
        show Goes _ _ _ _ _ _ _ (T396.setTop (mkF m 87 #[.val (.int p0), .val (.long p1), .second, .val (.int p2), .val (.int (2 : Int32)), .val (.int (1 : Int32)), .val (.long u6), .second, .val (.ref r346_0_0), .val (.ref b352), .val (.int (1 : Int32)), .unset, .unset] [(.ref b352)]))
        obtain ⟨cq411, kq411, q411a, q411b, q411c⟩ := isOf hZ rfl v396_0_2
        obtain ⟨_, _, ⟨T411, L411, k411, n411⟩, -, X411, ⟨Lc411, hQ411, l411, y411, z411⟩, st411⟩ := X396.virtualBack hx (y := (⟨"com/example/roles_to_grants/rolestogrants/input/ProblemList", "isEmpty", "()Z"⟩ : MethodName)) (z := (⟨"com/example/roles_to_grants/rolestogrants/input/ProblemList", "isEmpty", "()Z"⟩ : MethodName)) hown (mvT hZ (hw _ (List.mem_of_getElem? (i := 60) rfl))) (mvT hZ (hw _ (List.mem_of_getElem? (i := 61) rfl))) (notFace_of_selects (args := #[]) (mvT hZ (hw _ (List.mem_of_getElem? (i := 63) rfl)))) (mvT hZ (hw _ (List.mem_of_getElem? (i := 63) rfl))) (mvT hZ (hw _ (List.mem_of_getElem? (i := 62) rfl))) (by decide) (backOf (W := 0) (rm10 l Z a0 hw [] b352 (2 : Int64) T396.heap n0 Z410 v396_0_1) hZ (hw _ (List.mem_of_getElem? (i := 64) rfl)) (hw _ (List.mem_of_getElem? (i := 29) rfl)) (by decide) (by decide)) q411a q411c (g := (mkF m 87 #[.val (.int p0), .val (.long p1), .second, .val (.int p2), .val (.int (2 : Int32)), .val (.int (1 : Int32)), .val (.long u6), .second, .val (.ref r346_0_0), .val (.ref b352), .val (.int (1 : Int32)), .unset, .unset] [(.ref b352)])) rfl (by rw [hml]; rfl) (Steps.refl _) (argsL := []) (rest := []) (lenOf pd_5 rfl) rfl (by show 2 * 0 + _ ≤ _; exact Nat.le_of_eq rfl) (hb hby at_87) (fun _ _ => ⟨rfl, rfl, (by decide : 5 + 0 ≤ _), (by decide : 20 + 0 ≤ _)⟩)
        dsimp only [Pt.U, Pt.locs, Pt.cells, Pt.slots] at X411 l411 y411 z411 st411 hQ411
        subst l411 y411 z411
        obtain ⟨N411, eh411, hR411⟩ := hQ411
        have NA411 := Fr.app NA396 N411
        rcases hR411 with ⟨rfl, u411_0_0⟩ | ⟨rfl, u411_1_0⟩
        · exact absurd u411_0_0 (by decide : ¬ ((2 : Int64) = (0 : Int64)))
        · refine Goes.back st411 ?_
          show Goes _ _ _ _ _ _ _ (T411.setTop (mkF m 90 #[.val (.int p0), .val (.long p1), .second, .val (.int p2), .val (.int (2 : Int32)), .val (.int (1 : Int32)), .val (.long u6), .second, .val (.ref r346_0_0), .val (.ref b352), .val (.int (1 : Int32)), .unset, .unset] [(.int (0 : Int32))]))
          refine Goes.step (fun _ k => XS.istore X411.here hx rfl (hb hby at_90) rfl (l' := #[.val (.int p0), .val (.long p1), .second, .val (.int p2), .val (.int (2 : Int32)), .val (.int (1 : Int32)), .val (.long u6), .second, .val (.ref r346_0_0), .val (.ref b352), .val (.int (1 : Int32)), .val (.int (0 : Int32)), .unset]) rfl k) ?_
          show Goes _ _ _ _ _ _ _ (T411.setTop (mkF m 92 #[.val (.int p0), .val (.long p1), .second, .val (.int p2), .val (.int (2 : Int32)), .val (.int (1 : Int32)), .val (.long u6), .second, .val (.ref r346_0_0), .val (.ref b352), .val (.int (1 : Int32)), .val (.int (0 : Int32)), .unset] []))
          refine Goes.step (fun _ k => XS.aload X411.here hx rfl (hb hby at_92) rfl rfl k) ?_
          show Goes _ _ _ _ _ _ _ (T411.setTop (mkF m 94 #[.val (.int p0), .val (.long p1), .second, .val (.int p2), .val (.int (2 : Int32)), .val (.int (1 : Int32)), .val (.long u6), .second, .val (.ref r346_0_0), .val (.ref b352), .val (.int (1 : Int32)), .val (.int (0 : Int32)), .unset] [(.ref b352)]))
          refine Goes.step (fun _ k => XS.lload X411.here hx rfl (hb hby at_94) rfl  k) ?_
          show Goes _ _ _ _ _ _ _ (T411.setTop (mkF m 96 #[.val (.int p0), .val (.long p1), .second, .val (.int p2), .val (.int (2 : Int32)), .val (.int (1 : Int32)), .val (.long u6), .second, .val (.ref r346_0_0), .val (.ref b352), .val (.int (1 : Int32)), .val (.int (0 : Int32)), .unset] [(.long u6), (.ref b352)]))
          obtain ⟨cq412, kq412, q412a, q412b, q412c⟩ := isOf hZ eh411 v396_0_2
          obtain ⟨_, _, ⟨T412, L412, k412, n412⟩, -, X412, ⟨Lc412, hQ412, l412, y412, z412⟩, st412⟩ := X411.virtualBack hx (y := (⟨"com/example/roles_to_grants/rolestogrants/input/ProblemList", "addUnnamed", "(J)V"⟩ : MethodName)) (z := (⟨"com/example/roles_to_grants/rolestogrants/input/ProblemList", "addUnnamed", "(J)V"⟩ : MethodName)) hown (mvT hZ (hw _ (List.mem_of_getElem? (i := 67) rfl))) (mvT hZ (hw _ (List.mem_of_getElem? (i := 68) rfl))) (notFace_of_selects (args := #[]) (mvT hZ (hw _ (List.mem_of_getElem? (i := 70) rfl)))) (mvT hZ (hw _ (List.mem_of_getElem? (i := 70) rfl))) (mvT hZ (hw _ (List.mem_of_getElem? (i := 69) rfl))) (by decide) (backOf (W := 0) (rm11 l Z a0 hw [] b352 u6 r362_0_0 (2 : Int64) T396.heap n0 Z410 v396_0_0 v396_0_1 v396_0_2 g_b352) hZ (hw _ (List.mem_of_getElem? (i := 71) rfl)) (hw _ (List.mem_of_getElem? (i := 29) rfl)) (by decide) (by decide)) q412a q412c (g := (mkF m 96 #[.val (.int p0), .val (.long p1), .second, .val (.int p2), .val (.int (2 : Int32)), .val (.int (1 : Int32)), .val (.long u6), .second, .val (.ref r346_0_0), .val (.ref b352), .val (.int (1 : Int32)), .val (.int (0 : Int32)), .unset] [(.long u6), (.ref b352)])) rfl (by rw [hml]; rfl) (Steps.refl _) (argsL := [(.long u6)]) (rest := []) (lenOf pd_6 rfl) rfl (by show 2 * 0 + _ ≤ _; exact Nat.le_of_eq rfl) (hb hby at_96) (fun _ _ => ⟨rfl, eh411, (by decide : 5 + 0 ≤ _), (by decide : 20 + 0 ≤ _)⟩)
          dsimp only [Pt.U, Pt.locs, Pt.cells, Pt.slots] at X412 l412 y412 z412 st412 hQ412
          subst l412 y412 z412
          obtain ⟨N412, KK412, hR412⟩ := hQ412
          have NA412 := Fr.app NA411 N412
          have XO413 : Old Z n0 T412.heap := XO397.keep KK412 (allS g_b352 all0)
          have f414 := f398.keep KK412 (ninS ne353 nin0)
          have f415 := f399.keep KK412
          have f416 := f400.keep KK412 (ninS ne355 nin0)
          have f417 := f401.keep KK412 (ninS ne354 nin0)
          have f418 := v396_0_2.keep KK412
          have f419 := v396_0_3.keep KK412
          have f422 := v396_0_4.keep KK412 (ninS (Ne.symm ne375) nin0)
          have f423 := v396_0_5.keep KK412 (ninS (Ne.symm ne375) nin0)
          have f424 := v396_0_6.keep KK412 (ninS (Ne.symm ne375) nin0)
          have f425 := v396_0_7.keep KK412 (ninS (Ne.symm ne394) nin0)
          have K426 : Keep h0 T412.heap [] := K410.trans KK412 (allS (Or.inr sz_b352) all0)
          have Z426 : n0 ≤ T412.heap.size := Nat.le_trans Z410 KK412.1
          obtain ⟨rfl, v412_0_0, v412_0_1, v412_0_2⟩ := hR412
          refine Goes.back st412 ?_
          show Goes _ _ _ _ _ _ _ (T412.setTop (mkF m 99 #[.val (.int p0), .val (.long p1), .second, .val (.int p2), .val (.int (2 : Int32)), .val (.int (1 : Int32)), .val (.long u6), .second, .val (.ref r346_0_0), .val (.ref b352), .val (.int (1 : Int32)), .val (.int (0 : Int32)), .unset] []))
          refine Goes.step (fun _ k => XS.iload X412.here hx rfl (hb hby at_99) rfl  k) ?_
          show Goes _ _ _ _ _ _ _ (T412.setTop (mkF m 101 #[.val (.int p0), .val (.long p1), .second, .val (.int p2), .val (.int (2 : Int32)), .val (.int (1 : Int32)), .val (.long u6), .second, .val (.ref r346_0_0), .val (.ref b352), .val (.int (1 : Int32)), .val (.int (0 : Int32)), .unset] [(.int (1 : Int32))]))
          refine Goes.step (fun _ k => XS.iconst X412.here hx rfl (hb hby at_101) k) ?_
          show Goes _ _ _ _ _ _ _ (T412.setTop (mkF m 102 #[.val (.int p0), .val (.long p1), .second, .val (.int p2), .val (.int (2 : Int32)), .val (.int (1 : Int32)), .val (.long u6), .second, .val (.ref r346_0_0), .val (.ref b352), .val (.int (1 : Int32)), .val (.int (0 : Int32)), .unset] [(.int (1 : Int32)), (.int (1 : Int32))]))
          refine Goes.step (fun _ k => XS.icmpNo X412.here hx rfl (hb hby at_102) rfl (teq (by decide : (1 : Int32) = (1 : Int32))).2 k) ?_
          show Goes _ _ _ _ _ _ _ (T412.setTop (mkF m 105 #[.val (.int p0), .val (.long p1), .second, .val (.int p2), .val (.int (2 : Int32)), .val (.int (1 : Int32)), .val (.long u6), .second, .val (.ref r346_0_0), .val (.ref b352), .val (.int (1 : Int32)), .val (.int (0 : Int32)), .unset] []))
          refine Goes.step (fun _ k => XS.aload X412.here hx rfl (hb hby at_105) rfl rfl k) ?_
          show Goes _ _ _ _ _ _ _ (T412.setTop (mkF m 107 #[.val (.int p0), .val (.long p1), .second, .val (.int p2), .val (.int (2 : Int32)), .val (.int (1 : Int32)), .val (.long u6), .second, .val (.ref r346_0_0), .val (.ref b352), .val (.int (1 : Int32)), .val (.int (0 : Int32)), .unset] [(.ref b352)]))
          refine Goes.step (fun _ k => XS.aload X412.here hx rfl (hb hby at_107) rfl rfl k) ?_
          show Goes _ _ _ _ _ _ _ (T412.setTop (mkF m 109 #[.val (.int p0), .val (.long p1), .second, .val (.int p2), .val (.int (2 : Int32)), .val (.int (1 : Int32)), .val (.long u6), .second, .val (.ref r346_0_0), .val (.ref b352), .val (.int (1 : Int32)), .val (.int (0 : Int32)), .unset] [(.ref r346_0_0), (.ref b352)]))
          obtain ⟨cq427, kq427, q427a, q427b, q427c⟩ := isOf hZ rfl v412_0_2
          obtain ⟨_, _, ⟨T427, L427, k427, n427⟩, -, X427, ⟨Lc427, hQ427, l427, y427, z427⟩, st427⟩ := X412.virtualBack hx (y := (⟨"com/example/roles_to_grants/rolestogrants/input/ProblemList", "add", "(Ljava/lang/String;)V"⟩ : MethodName)) (z := (⟨"com/example/roles_to_grants/rolestogrants/input/ProblemList", "add", "(Ljava/lang/String;)V"⟩ : MethodName)) hown (mvT hZ (hw _ (List.mem_of_getElem? (i := 72) rfl))) (mvT hZ (hw _ (List.mem_of_getElem? (i := 73) rfl))) (notFace_of_selects (args := #[]) (mvT hZ (hw _ (List.mem_of_getElem? (i := 75) rfl)))) (mvT hZ (hw _ (List.mem_of_getElem? (i := 75) rfl))) (mvT hZ (hw _ (List.mem_of_getElem? (i := 74) rfl))) (by decide) (backOf (W := 0) (rm12_2 l Z a0 hw [] b352 r346_0_0 r362_0_0 ((2 : Int64) + u6) (2 : Int32) r377_0_0 kk377_0_0 T412.heap n0 Z426 v412_0_0 v412_0_1 f422 f423 f424 v412_0_2 f419 f415 f425 oo377_0_0 g_b352 g_r362_0_0 g_r377_0_0 (Ne.symm ne394) (Ne.symm ne395) ne375) hZ (hw _ (List.mem_of_getElem? (i := 76) rfl)) (hw _ (List.mem_of_getElem? (i := 29) rfl)) (by decide) (by decide)) q427a q427c (g := (mkF m 109 #[.val (.int p0), .val (.long p1), .second, .val (.int p2), .val (.int (2 : Int32)), .val (.int (1 : Int32)), .val (.long u6), .second, .val (.ref r346_0_0), .val (.ref b352), .val (.int (1 : Int32)), .val (.int (0 : Int32)), .unset] [(.ref r346_0_0), (.ref b352)])) rfl (by rw [hml]; rfl) (Steps.refl _) (argsL := [(.ref r346_0_0)]) (rest := []) (lenOf pd_7 rfl) rfl (by show 2 * 0 + _ ≤ _; exact Nat.le_of_eq rfl) (hb hby at_109) (fun _ _ => ⟨rfl, rfl, (by decide : 5 + 0 ≤ _), (by decide : 20 + 0 ≤ _)⟩)
          dsimp only [Pt.U, Pt.locs, Pt.cells, Pt.slots] at X427 l427 y427 z427 st427 hQ427
          subst l427 y427 z427
          obtain ⟨N427, KK427, hR427⟩ := hQ427
          have NA427 := Fr.app NA412 N427
          have XO428 : Old Z n0 T427.heap := XO413.keep KK427 (allS g_b352 (allS g_r362_0_0 (allS g_r377_0_0 all0)))
          have f429 := f414.keep KK427 (ninS ne353 (ninS ne372 (ninS ne391 nin0)))
          have f430 := f415.keep KK427
          have f431 := f416.keep KK427 (ninS ne355 (ninS ne374 (ninS ne393 nin0)))
          have f432 := f417.keep KK427 (ninS ne354 (ninS ne373 (ninS ne392 nin0)))
          have f433 := v412_0_2.keep KK427
          have f434 := f419.keep KK427
          have K441 : Keep h0 T427.heap [] := K426.trans KK427 (allS (Or.inr sz_b352) (allS (Or.inr sz_r362_0_0) (allS (Or.inr sz_r377_0_0) all0)))
          have Z441 : n0 ≤ T427.heap.size := Nat.le_trans Z426 KK427.1
          obtain ⟨rfl, v427_0_0, v427_0_1, v427_0_2, v427_0_3, v427_0_4, v427_0_5, v427_0_6, v427_0_7⟩ := hR427
          refine Goes.back st427 ?_
          show Goes _ _ _ _ _ _ _ (T427.setTop (mkF m 112 #[.val (.int p0), .val (.long p1), .second, .val (.int p2), .val (.int (2 : Int32)), .val (.int (1 : Int32)), .val (.long u6), .second, .val (.ref r346_0_0), .val (.ref b352), .val (.int (1 : Int32)), .val (.int (0 : Int32)), .unset] []))
          refine Goes.step (fun _ k => XS.aload X427.here hx rfl (hb hby at_112) rfl rfl k) ?_
          show Goes _ _ _ _ _ _ _ (T427.setTop (mkF m 114 #[.val (.int p0), .val (.long p1), .second, .val (.int p2), .val (.int (2 : Int32)), .val (.int (1 : Int32)), .val (.long u6), .second, .val (.ref r346_0_0), .val (.ref b352), .val (.int (1 : Int32)), .val (.int (0 : Int32)), .unset] [(.ref b352)]))
          obtain ⟨cq442, kq442, q442a, q442b, q442c⟩ := isOf hZ rfl v427_0_2
          obtain ⟨_, _, ⟨T442, L442, k442, n442⟩, -, X442, ⟨Lc442, hQ442, l442, y442, z442⟩, st442⟩ := X427.virtualBack hx (y := (⟨"com/example/roles_to_grants/rolestogrants/input/ProblemList", "isEmpty", "()Z"⟩ : MethodName)) (z := (⟨"com/example/roles_to_grants/rolestogrants/input/ProblemList", "isEmpty", "()Z"⟩ : MethodName)) hown (mvT hZ (hw _ (List.mem_of_getElem? (i := 60) rfl))) (mvT hZ (hw _ (List.mem_of_getElem? (i := 61) rfl))) (notFace_of_selects (args := #[]) (mvT hZ (hw _ (List.mem_of_getElem? (i := 63) rfl)))) (mvT hZ (hw _ (List.mem_of_getElem? (i := 63) rfl))) (mvT hZ (hw _ (List.mem_of_getElem? (i := 62) rfl))) (by decide) (backOf (W := 0) (rm10 l Z a0 hw [] b352 (((2 : Int64) + u6) + (1 : Int64)) T427.heap n0 Z441 v427_0_1) hZ (hw _ (List.mem_of_getElem? (i := 64) rfl)) (hw _ (List.mem_of_getElem? (i := 29) rfl)) (by decide) (by decide)) q442a q442c (g := (mkF m 114 #[.val (.int p0), .val (.long p1), .second, .val (.int p2), .val (.int (2 : Int32)), .val (.int (1 : Int32)), .val (.long u6), .second, .val (.ref r346_0_0), .val (.ref b352), .val (.int (1 : Int32)), .val (.int (0 : Int32)), .unset] [(.ref b352)])) rfl (by rw [hml]; rfl) (Steps.refl _) (argsL := []) (rest := []) (lenOf pd_5 rfl) rfl (by show 2 * 0 + _ ≤ _; exact Nat.le_of_eq rfl) (hb hby at_114) (fun _ _ => ⟨rfl, rfl, (by decide : 5 + 0 ≤ _), (by decide : 20 + 0 ≤ _)⟩)
          dsimp only [Pt.U, Pt.locs, Pt.cells, Pt.slots] at X442 l442 y442 z442 st442 hQ442
          subst l442 y442 z442
          obtain ⟨N442, eh442, hR442⟩ := hQ442
          have NA442 := Fr.app NA427 N442
          rcases hR442 with ⟨rfl, u442_0_0⟩ | ⟨rfl, u442_1_0⟩
          · exact absurd u442_0_0 (own_nz1 hg_u6 (2 : Int64) (by decide) (by decide))
          · refine Goes.back st442 ?_
            show Goes _ _ _ _ _ _ _ (T442.setTop (mkF m 117 #[.val (.int p0), .val (.long p1), .second, .val (.int p2), .val (.int (2 : Int32)), .val (.int (1 : Int32)), .val (.long u6), .second, .val (.ref r346_0_0), .val (.ref b352), .val (.int (1 : Int32)), .val (.int (0 : Int32)), .unset] [(.int (0 : Int32))]))
            refine Goes.step (fun _ k => XS.istore X442.here hx rfl (hb hby at_117) rfl (l' := #[.val (.int p0), .val (.long p1), .second, .val (.int p2), .val (.int (2 : Int32)), .val (.int (1 : Int32)), .val (.long u6), .second, .val (.ref r346_0_0), .val (.ref b352), .val (.int (1 : Int32)), .val (.int (0 : Int32)), .val (.int (0 : Int32))]) rfl k) ?_
            show Goes _ _ _ _ _ _ _ (T442.setTop (mkF m 119 #[.val (.int p0), .val (.long p1), .second, .val (.int p2), .val (.int (2 : Int32)), .val (.int (1 : Int32)), .val (.long u6), .second, .val (.ref r346_0_0), .val (.ref b352), .val (.int (1 : Int32)), .val (.int (0 : Int32)), .val (.int (0 : Int32))] []))
            refine Goes.step (fun _ k => XS.iload X442.here hx rfl (hb hby at_119) rfl  k) ?_
            show Goes _ _ _ _ _ _ _ (T442.setTop (mkF m 121 #[.val (.int p0), .val (.long p1), .second, .val (.int p2), .val (.int (2 : Int32)), .val (.int (1 : Int32)), .val (.long u6), .second, .val (.ref r346_0_0), .val (.ref b352), .val (.int (1 : Int32)), .val (.int (0 : Int32)), .val (.int (0 : Int32))] [(.int (1 : Int32))]))
            refine Goes.step (fun _ k => XS.ifNo X442.here hx rfl (hb hby at_121) rfl ((if0 _ _).trans (feq (by decide : ¬ ((1 : Int32) = (0 : Int32)))).1) k) ?_
            show Goes _ _ _ _ _ _ _ (T442.setTop (mkF m 124 #[.val (.int p0), .val (.long p1), .second, .val (.int p2), .val (.int (2 : Int32)), .val (.int (1 : Int32)), .val (.long u6), .second, .val (.ref r346_0_0), .val (.ref b352), .val (.int (1 : Int32)), .val (.int (0 : Int32)), .val (.int (0 : Int32))] []))
            refine Goes.step (fun _ k => XS.iload X442.here hx rfl (hb hby at_124) rfl  k) ?_
            show Goes _ _ _ _ _ _ _ (T442.setTop (mkF m 126 #[.val (.int p0), .val (.long p1), .second, .val (.int p2), .val (.int (2 : Int32)), .val (.int (1 : Int32)), .val (.long u6), .second, .val (.ref r346_0_0), .val (.ref b352), .val (.int (1 : Int32)), .val (.int (0 : Int32)), .val (.int (0 : Int32))] [(.int (0 : Int32))]))
            refine Goes.step (fun _ k => XS.iload X442.here hx rfl (hb hby at_126) rfl  k) ?_
            show Goes _ _ _ _ _ _ _ (T442.setTop (mkF m 128 #[.val (.int p0), .val (.long p1), .second, .val (.int p2), .val (.int (2 : Int32)), .val (.int (1 : Int32)), .val (.long u6), .second, .val (.ref r346_0_0), .val (.ref b352), .val (.int (1 : Int32)), .val (.int (0 : Int32)), .val (.int (0 : Int32))] [(.int (2 : Int32)), (.int (0 : Int32))]))
            refine Goes.step (fun _ k => XS.ifYes X442.here hx rfl (pc0 := 128) (pc' := 135) rfl (hb hby at_128) rfl ((if0 _ _).trans (feq (by decide : ¬ ((2 : Int32) = (0 : Int32)))).2) (by decide) (by decide) k) ?_
            show Goes _ _ _ _ _ _ _ (T442.setTop (mkF m 135 #[.val (.int p0), .val (.long p1), .second, .val (.int p2), .val (.int (2 : Int32)), .val (.int (1 : Int32)), .val (.long u6), .second, .val (.ref r346_0_0), .val (.ref b352), .val (.int (1 : Int32)), .val (.int (0 : Int32)), .val (.int (0 : Int32))] [(.int (0 : Int32))]))
            refine Goes.step (fun _ k => XS.iconst X442.here hx rfl (hb hby at_135) k) ?_
            show Goes _ _ _ _ _ _ _ (T442.setTop (mkF m 136 #[.val (.int p0), .val (.long p1), .second, .val (.int p2), .val (.int (2 : Int32)), .val (.int (1 : Int32)), .val (.long u6), .second, .val (.ref r346_0_0), .val (.ref b352), .val (.int (1 : Int32)), .val (.int (0 : Int32)), .val (.int (0 : Int32))] [(.int (0 : Int32)), (.int (0 : Int32))]))
            refine Goes.step (fun _ k => XS.icmpNo X442.here hx rfl (hb hby at_136) rfl (teq (by decide : (0 : Int32) = (0 : Int32))).2 k) ?_
            show Goes _ _ _ _ _ _ _ (T442.setTop (mkF m 139 #[.val (.int p0), .val (.long p1), .second, .val (.int p2), .val (.int (2 : Int32)), .val (.int (1 : Int32)), .val (.long u6), .second, .val (.ref r346_0_0), .val (.ref b352), .val (.int (1 : Int32)), .val (.int (0 : Int32)), .val (.int (0 : Int32))] []))
            refine Goes.step (fun _ k => XS.iload X442.here hx rfl (hb hby at_139) rfl  k) ?_
            show Goes _ _ _ _ _ _ _ (T442.setTop (mkF m 141 #[.val (.int p0), .val (.long p1), .second, .val (.int p2), .val (.int (2 : Int32)), .val (.int (1 : Int32)), .val (.long u6), .second, .val (.ref r346_0_0), .val (.ref b352), .val (.int (1 : Int32)), .val (.int (0 : Int32)), .val (.int (0 : Int32))] [(.int (0 : Int32))]))
            refine Goes.step (fun _ k => XS.iload X442.here hx rfl (hb hby at_141) rfl  k) ?_
            show Goes _ _ _ _ _ _ _ (T442.setTop (mkF m 143 #[.val (.int p0), .val (.long p1), .second, .val (.int p2), .val (.int (2 : Int32)), .val (.int (1 : Int32)), .val (.long u6), .second, .val (.ref r346_0_0), .val (.ref b352), .val (.int (1 : Int32)), .val (.int (0 : Int32)), .val (.int (0 : Int32))] [(.int (2 : Int32)), (.int (0 : Int32))]))
            refine Goes.step (fun _ k => XS.ifYes X442.here hx rfl (pc0 := 143) (pc' := 162) rfl (hb hby at_143) rfl ((if0 _ _).trans (feq (by decide : ¬ ((2 : Int32) = (0 : Int32)))).2) (by decide) (by decide) k) ?_
            show Goes _ _ _ _ _ _ _ (T442.setTop (mkF m 162 #[.val (.int p0), .val (.long p1), .second, .val (.int p2), .val (.int (2 : Int32)), .val (.int (1 : Int32)), .val (.long u6), .second, .val (.ref r346_0_0), .val (.ref b352), .val (.int (1 : Int32)), .val (.int (0 : Int32)), .val (.int (0 : Int32))] [(.int (0 : Int32))]))
            refine Goes.step (fun _ k => XS.iconst X442.here hx rfl (hb hby at_162) k) ?_
            show Goes _ _ _ _ _ _ _ (T442.setTop (mkF m 163 #[.val (.int p0), .val (.long p1), .second, .val (.int p2), .val (.int (2 : Int32)), .val (.int (1 : Int32)), .val (.long u6), .second, .val (.ref r346_0_0), .val (.ref b352), .val (.int (1 : Int32)), .val (.int (0 : Int32)), .val (.int (0 : Int32))] [(.int (0 : Int32)), (.int (0 : Int32))]))
            refine Goes.step (fun _ k => XS.icmpNo X442.here hx rfl (hb hby at_163) rfl (teq (by decide : (0 : Int32) = (0 : Int32))).2 k) ?_
            show Goes _ _ _ _ _ _ _ (T442.setTop (mkF m 166 #[.val (.int p0), .val (.long p1), .second, .val (.int p2), .val (.int (2 : Int32)), .val (.int (1 : Int32)), .val (.long u6), .second, .val (.ref r346_0_0), .val (.ref b352), .val (.int (1 : Int32)), .val (.int (0 : Int32)), .val (.int (0 : Int32))] []))
            refine Goes.step (fun _ k => XS.iconst X442.here hx rfl (hb hby at_166) k) ?_
            show Goes _ _ _ _ _ _ _ (T442.setTop (mkF m 167 #[.val (.int p0), .val (.long p1), .second, .val (.int p2), .val (.int (2 : Int32)), .val (.int (1 : Int32)), .val (.long u6), .second, .val (.ref r346_0_0), .val (.ref b352), .val (.int (1 : Int32)), .val (.int (0 : Int32)), .val (.int (0 : Int32))] [(.int (1 : Int32))]))
            refine Goes.step (fun _ k => XS.goto X442.here hx rfl (pc0 := 167) (pc' := 171) rfl (hb hby at_167) (by decide) (by decide) k) ?_
            show Goes _ _ _ _ _ _ _ (T442.setTop (mkF m 171 #[.val (.int p0), .val (.long p1), .second, .val (.int p2), .val (.int (2 : Int32)), .val (.int (1 : Int32)), .val (.long u6), .second, .val (.ref r346_0_0), .val (.ref b352), .val (.int (1 : Int32)), .val (.int (0 : Int32)), .val (.int (0 : Int32))] [(.int (1 : Int32))]))
            exact Goes.ret X442 hx (BodyLoose.notSynchronized Bd) Bd.returns rfl (Or.inl ⟨rfl, by simp, _, rfl⟩) (hb hby at_171) (by show Q0 Z p0 p1 p2 zC de kde h0 n0 (some (.int (1 : Int32))) T442.heap _; rw [eh442]; exact ⟨rfl, NA442⟩) (by decide) (by decide)
      · exact absurd (by decide : (0 : Int64) = (0 : Int64)) u376_1_0
  · show Goes _ _ _ _ _ _ _ (s₁.setTop (mkF m 5 #[.val (.int p0), .val (.long p1), .second, .val (.int p2), .val (.int (3 : Int32)), .unset, .unset, .unset, .unset, .unset, .unset, .unset, .unset] []))
    refine Goes.step (fun _ k => XS.iloadN X0.here hx rfl (hb hby at_5) rfl  k) ?_
    show Goes _ _ _ _ _ _ _ (s₁.setTop (mkF m 6 #[.val (.int p0), .val (.long p1), .second, .val (.int p2), .val (.int (3 : Int32)), .unset, .unset, .unset, .unset, .unset, .unset, .unset, .unset] [(.int p0)]))
    refine Goes.step (fun _ k => XS.iconst X0.here hx rfl (hb hby at_6) k) ?_
    show Goes _ _ _ _ _ _ _ (s₁.setTop (mkF m 7 #[.val (.int p0), .val (.long p1), .second, .val (.int p2), .val (.int (3 : Int32)), .unset, .unset, .unset, .unset, .unset, .unset, .unset, .unset] [(.int (2 : Int32)), (.int p0)]))
    refine Goes.step (fun _ k => XS.iushr X0.here hx rfl (hb hby at_7) rfl k) ?_
    show Goes _ _ _ _ _ _ _ (s₁.setTop (mkF m 8 #[.val (.int p0), .val (.long p1), .second, .val (.int p2), .val (.int (3 : Int32)), .unset, .unset, .unset, .unset, .unset, .unset, .unset, .unset] [(.int ((p0.toUInt32 >>> ((2 : Int32) &&& 31).toUInt32).toInt32))]))
    refine Goes.step (fun _ k => XS.iconst X0.here hx rfl (hb hby at_8) k) ?_
    show Goes _ _ _ _ _ _ _ (s₁.setTop (mkF m 9 #[.val (.int p0), .val (.long p1), .second, .val (.int p2), .val (.int (3 : Int32)), .unset, .unset, .unset, .unset, .unset, .unset, .unset, .unset] [(.int (1 : Int32)), (.int ((p0.toUInt32 >>> ((2 : Int32) &&& 31).toUInt32).toInt32))]))
    refine Goes.step (fun _ k => XS.iand X0.here hx rfl (hb hby at_9) rfl k) ?_
    show Goes _ _ _ _ _ _ _ (s₁.setTop (mkF m 10 #[.val (.int p0), .val (.long p1), .second, .val (.int p2), .val (.int (3 : Int32)), .unset, .unset, .unset, .unset, .unset, .unset, .unset, .unset] [(.int (((p0.toUInt32 >>> ((2 : Int32) &&& 31).toUInt32).toInt32) &&& (1 : Int32)))]))
    refine Goes.step (fun _ k => XS.istore X0.here hx rfl (hb hby at_10) rfl (l' := #[.val (.int p0), .val (.long p1), .second, .val (.int p2), .val (.int (3 : Int32)), .val (.int (((p0.toUInt32 >>> ((2 : Int32) &&& 31).toUInt32).toInt32) &&& (1 : Int32))), .unset, .unset, .unset, .unset, .unset, .unset, .unset]) rfl k) ?_
    show Goes _ _ _ _ _ _ _ (s₁.setTop (mkF m 12 #[.val (.int p0), .val (.long p1), .second, .val (.int p2), .val (.int (3 : Int32)), .val (.int (((p0.toUInt32 >>> ((2 : Int32) &&& 31).toUInt32).toInt32) &&& (1 : Int32))), .unset, .unset, .unset, .unset, .unset, .unset, .unset] []))
    generalize hg_b5 : (((p0.toUInt32 >>> ((2 : Int32) &&& 31).toUInt32).toInt32) &&& (1 : Int32)) = b5
    show Goes _ _ _ _ _ _ _ (s₁.setTop (mkF m 12 #[.val (.int p0), .val (.long p1), .second, .val (.int p2), .val (.int (3 : Int32)), .val (.int b5), .unset, .unset, .unset, .unset, .unset, .unset, .unset] []))
    rcases own_and1 hg_b5 with rfl | rfl
    · show Goes _ _ _ _ _ _ _ (s₁.setTop (mkF m 12 #[.val (.int p0), .val (.long p1), .second, .val (.int p2), .val (.int (3 : Int32)), .val (.int (0 : Int32)), .unset, .unset, .unset, .unset, .unset, .unset, .unset] []))
      refine Goes.step (fun _ k => XS.lloadN X0.here hx rfl (hb hby at_12) rfl  k) ?_
      show Goes _ _ _ _ _ _ _ (s₁.setTop (mkF m 13 #[.val (.int p0), .val (.long p1), .second, .val (.int p2), .val (.int (3 : Int32)), .val (.int (0 : Int32)), .unset, .unset, .unset, .unset, .unset, .unset, .unset] [(.long p1)]))
      refine Goes.step (fun _ k => X0.ldc2Long hx hown (mvT hZ (hw _ (List.mem_of_getElem? (i := 0) rfl))) (g := (mkF m 13 #[.val (.int p0), .val (.long p1), .second, .val (.int p2), .val (.int (3 : Int32)), .val (.int (0 : Int32)), .unset, .unset, .unset, .unset, .unset, .unset, .unset] [(.long p1)])) rfl (hb hby at_13) _ k) ?_
      show Goes _ _ _ _ _ _ _ (s₁.setTop (mkF m 16 #[.val (.int p0), .val (.long p1), .second, .val (.int p2), .val (.int (3 : Int32)), .val (.int (0 : Int32)), .unset, .unset, .unset, .unset, .unset, .unset, .unset] [(.long (9223372036854775807 : Int64)), (.long p1)]))
      refine Goes.step (fun _ k => XS.land X0.here hx rfl (hb hby at_16) rfl k) ?_
      show Goes _ _ _ _ _ _ _ (s₁.setTop (mkF m 17 #[.val (.int p0), .val (.long p1), .second, .val (.int p2), .val (.int (3 : Int32)), .val (.int (0 : Int32)), .unset, .unset, .unset, .unset, .unset, .unset, .unset] [(.long (p1 &&& (9223372036854775807 : Int64)))]))
      refine Goes.step (fun _ k => XS.lstore X0.here hx rfl (hb hby at_17) rfl (l' := #[.val (.int p0), .val (.long p1), .second, .val (.int p2), .val (.int (3 : Int32)), .val (.int (0 : Int32)), .val (.long (p1 &&& (9223372036854775807 : Int64))), .second, .unset, .unset, .unset, .unset, .unset]) rfl k) ?_
      show Goes _ _ _ _ _ _ _ (s₁.setTop (mkF m 19 #[.val (.int p0), .val (.long p1), .second, .val (.int p2), .val (.int (3 : Int32)), .val (.int (0 : Int32)), .val (.long (p1 &&& (9223372036854775807 : Int64))), .second, .unset, .unset, .unset, .unset, .unset] []))
      generalize hg_u6 : (p1 &&& (9223372036854775807 : Int64)) = u6
      show Goes _ _ _ _ _ _ _ (s₁.setTop (mkF m 19 #[.val (.int p0), .val (.long p1), .second, .val (.int p2), .val (.int (3 : Int32)), .val (.int (0 : Int32)), .val (.long u6), .second, .unset, .unset, .unset, .unset, .unset] []))
      refine Goes.step (fun _ k => XS.iloadN X0.here hx rfl (hb hby at_19) rfl  k) ?_
      show Goes _ _ _ _ _ _ _ (s₁.setTop (mkF m 20 #[.val (.int p0), .val (.long p1), .second, .val (.int p2), .val (.int (3 : Int32)), .val (.int (0 : Int32)), .val (.long u6), .second, .unset, .unset, .unset, .unset, .unset] [(.int p2)]))
      refine Goes.step (fun _ k => XS.sipush X0.here hx rfl (hb hby at_20) k) ?_
      show Goes _ _ _ _ _ _ _ (s₁.setTop (mkF m 23 #[.val (.int p0), .val (.long p1), .second, .val (.int p2), .val (.int (3 : Int32)), .val (.int (0 : Int32)), .val (.long u6), .second, .unset, .unset, .unset, .unset, .unset] [(.int (255 : Int32)), (.int p2)]))
      refine Goes.step (fun _ k => XS.iand X0.here hx rfl (hb hby at_23) rfl k) ?_
      show Goes _ _ _ _ _ _ _ (s₁.setTop (mkF m 24 #[.val (.int p0), .val (.long p1), .second, .val (.int p2), .val (.int (3 : Int32)), .val (.int (0 : Int32)), .val (.long u6), .second, .unset, .unset, .unset, .unset, .unset] [(.int (p2 &&& (255 : Int32)))]))
      refine Goes.step (fun _ k => XS.i2c X0.here hx rfl (hb hby at_24) rfl k) ?_
      show Goes _ _ _ _ _ _ _ (s₁.setTop (mkF m 25 #[.val (.int p0), .val (.long p1), .second, .val (.int p2), .val (.int (3 : Int32)), .val (.int (0 : Int32)), .val (.long u6), .second, .unset, .unset, .unset, .unset, .unset] [(.int ((p2 &&& (255 : Int32)).toUInt32.toUInt16.toUInt32.toInt32))]))
      obtain ⟨_, _, ⟨T443, L443, k443, n443⟩, -, X443, ⟨Lc443, hQ443, l443, y443, z443⟩, st443⟩ := Jvm.LawKit.callS X0 hx (y := (⟨"java/lang/String", "valueOf", "(C)Ljava/lang/String;"⟩ : MethodName)) hown (mvT hZ (hw _ (List.mem_of_getElem? (i := 1) rfl))) (mvT hZ (hw _ (List.mem_of_getElem? (i := 2) rfl))) (mvT hZ (hw _ (List.mem_of_getElem? (i := 3) rfl))) (mvT hZ (hw _ (List.mem_of_getElem? (i := 4) rfl))) (by decide) (backOf (W := 0) (rm1 l Z a0 hw [] ((p2 &&& (255 : Int32)).toUInt32.toUInt16.toUInt32.toInt32) zC h0 n0 Z0 S_CS X00 P5 (own_char _)) hZ (hw _ (List.mem_of_getElem? (i := 4) rfl)) (hw _ (List.mem_of_getElem? (i := 3) rfl)) (by decide) (by decide)) (g := (mkF m 25 #[.val (.int p0), .val (.long p1), .second, .val (.int p2), .val (.int (3 : Int32)), .val (.int (0 : Int32)), .val (.long u6), .second, .unset, .unset, .unset, .unset, .unset] [(.int ((p2 &&& (255 : Int32)).toUInt32.toUInt16.toUInt32.toInt32))])) rfl (by rw [hml]; rfl) (argsL := [(.int ((p2 &&& (255 : Int32)).toUInt32.toUInt16.toUInt32.toInt32))]) (rest := []) (lenOf pd_0 rfl) rfl (by show 2 * 0 + _ ≤ _; exact Nat.le_of_eq rfl) (hb hby at_25) (fun _ _ => ⟨rfl, e0, (by decide : 0 + 2 ≤ _), (by decide : 0 + 5 ≤ _)⟩)
      dsimp only [Pt.U, Pt.locs, Pt.cells, Pt.slots] at X443 l443 y443 z443 st443 hQ443
      subst l443 y443 z443
      obtain ⟨N443, KK443, hR443⟩ := hQ443
      have NA443 := Fr.app N0 N443
      have XO444 : Old Z n0 T443.heap := X00.keep KK443 all0
      have f445 := V_de.keep KK443 nin0
      have K446 : Keep h0 T443.heap [] := K0.trans KK443 all0
      have Z446 : n0 ≤ T443.heap.size := Nat.le_trans Z0 KK443.1
      obtain ⟨r443_0_0, r443_0_1, kk443_0_0, rfl, u443_0_0, g_r443_0_0, le_r443_0_0, g_r443_0_1, le_r443_0_1, nn443_0_0, v443_0_0, v443_0_1, v443_0_2⟩ := hR443
      have ne447 : de ≠ r443_0_0 := Nat.ne_of_lt (Nat.lt_of_lt_of_le V_de.lt le_r443_0_0)
      have sz_r443_0_0 : h0.size ≤ r443_0_0 := Nat.le_trans K0.1 le_r443_0_0
      have ne448 : de ≠ r443_0_1 := Nat.ne_of_lt (Nat.lt_of_lt_of_le V_de.lt le_r443_0_1)
      have sz_r443_0_1 : h0.size ≤ r443_0_1 := Nat.le_trans K0.1 le_r443_0_1
      refine Goes.step st443 ?_
      show Goes _ _ _ _ _ _ _ (T443.setTop (mkF m 28 #[.val (.int p0), .val (.long p1), .second, .val (.int p2), .val (.int (3 : Int32)), .val (.int (0 : Int32)), .val (.long u6), .second, .unset, .unset, .unset, .unset, .unset] [(.ref r443_0_0)]))
      refine Goes.step (fun _ k => XS.astore X443.here hx rfl (hb hby at_28) rfl rfl (l' := #[.val (.int p0), .val (.long p1), .second, .val (.int p2), .val (.int (3 : Int32)), .val (.int (0 : Int32)), .val (.long u6), .second, .val (.ref r443_0_0), .unset, .unset, .unset, .unset]) rfl k) ?_
      show Goes _ _ _ _ _ _ _ (T443.setTop (mkF m 30 #[.val (.int p0), .val (.long p1), .second, .val (.int p2), .val (.int (3 : Int32)), .val (.int (0 : Int32)), .val (.long u6), .second, .val (.ref r443_0_0), .unset, .unset, .unset, .unset] []))
      obtain ⟨T449, h449, X449, e449, E449, A449, D449, -, st449⟩ := newO X443 hx hZ hown (hw _ (List.mem_of_getElem? (i := 27) rfl)) (hw _ (List.mem_of_getElem? (i := 28) rfl)) (hw _ (List.mem_of_getElem? (i := 29) rfl)) rfl (g := (mkF m 30 #[.val (.int p0), .val (.long p1), .second, .val (.int p2), .val (.int (3 : Int32)), .val (.int (0 : Int32)), .val (.long u6), .second, .val (.ref r443_0_0), .unset, .unset, .unset, .unset] [])) rfl (hb hby at_30) (by decide) (by decide)
      obtain ⟨b449, g449⟩ : ∃ z, z = T443.heap.size := ⟨_, rfl⟩
      rw [← g449] at A449 D449 st449
      refine Goes.step st449 ?_
      have g_b449 : n0 ≤ b449 := Nat.le_trans Z446 (Nat.le_of_eq g449.symm)
      have sz_b449 : h0.size ≤ b449 := Nat.le_trans K446.1 (Nat.le_of_eq g449.symm)
      have ne450 : de ≠ b449 := Nat.ne_of_lt (Nat.lt_of_lt_of_le f445.lt (Nat.le_of_eq g449.symm))
      have ne451 : r443_0_0 ≠ b449 := Nat.ne_of_lt (Nat.lt_of_lt_of_le v443_0_0.lt (Nat.le_of_eq g449.symm))
      have ne452 : r443_0_1 ≠ b449 := Nat.ne_of_lt (Nat.lt_of_lt_of_le v443_0_1.lt (Nat.le_of_eq g449.symm))
      have XO453 : Old Z n0 h449 := XO444.ext E449
      have f454 := f445.ext E449
      have f455 := v443_0_0.ext E449
      have f456 := v443_0_1.ext E449
      have f457 := v443_0_2.ext E449
      have K458 : Keep h0 h449 [] := K446.ext E449
      have Z458 : n0 ≤ h449.size := Nat.le_trans Z446 E449.1
      have E_b449 := A449
      have F_named_b449 : Fld Z h449 b449 "com/example/roles_to_grants/rolestogrants/input/ProblemList" "named" "Ljava/util/List;" .null := D449 (Or.inr (hw _ (List.mem_of_getElem? (i := 59) rfl))) (ty := (.object "java/util/List")) (by decide)
      have F_count_b449 : Fld Z h449 b449 "com/example/roles_to_grants/rolestogrants/input/ProblemList" "count" "J" (.long (0 : Int64)) := D449 (Or.inl (hw _ (List.mem_of_getElem? (i := 66) rfl))) (ty := .long) (by decide)
      show Goes _ _ _ _ _ _ _ (T449.setTop (mkF m 33 #[.val (.int p0), .val (.long p1), .second, .val (.int p2), .val (.int (3 : Int32)), .val (.int (0 : Int32)), .val (.long u6), .second, .val (.ref r443_0_0), .unset, .unset, .unset, .unset] [(.ref b449)]))
      refine Goes.step (fun _ k => XS.dup X449.here hx rfl (hb hby at_33) rfl rfl k) ?_
      show Goes _ _ _ _ _ _ _ (T449.setTop (mkF m 34 #[.val (.int p0), .val (.long p1), .second, .val (.int p2), .val (.int (3 : Int32)), .val (.int (0 : Int32)), .val (.long u6), .second, .val (.ref r443_0_0), .unset, .unset, .unset, .unset] [(.ref b449), (.ref b449)]))
      obtain ⟨_, _, ⟨T459, L459, k459, n459⟩, -, X459, ⟨Lc459, hQ459, l459, y459, z459⟩, st459⟩ := X449.specialBack hx (y := (⟨"com/example/roles_to_grants/rolestogrants/input/ProblemList", "<init>", "()V"⟩ : MethodName)) rfl hown (mvT hZ (hw _ (List.mem_of_getElem? (i := 30) rfl))) (mvT hZ (hw _ (List.mem_of_getElem? (i := 31) rfl))) (mvT hZ (hw _ (List.mem_of_getElem? (i := 32) rfl))) (by decide) (backOf (W := 1) (rm6 l Z a0 hw [] b449 de h449 n0 Z458 S_DE XO453 F_named_b449 F_count_b449 E_b449 g_b449) hZ (hw _ (List.mem_of_getElem? (i := 32) rfl)) (hw _ (List.mem_of_getElem? (i := 29) rfl)) (by decide) (by decide)) (g := (mkF m 34 #[.val (.int p0), .val (.long p1), .second, .val (.int p2), .val (.int (3 : Int32)), .val (.int (0 : Int32)), .val (.long u6), .second, .val (.ref r443_0_0), .unset, .unset, .unset, .unset] [(.ref b449), (.ref b449)])) rfl (by rw [hml]; rfl) (Steps.refl _) (a := b449) (argsL := []) (rest := [(.ref b449)]) (lenOf pd_4 rfl) rfl (by show 2 * 0 + _ ≤ _; exact Nat.le_of_eq rfl) (hb hby at_34) (fun _ _ => ⟨rfl, e449, (by decide : 3 + 1 ≤ _), (by decide : 7 + 3 ≤ _)⟩)
      dsimp only [Pt.U, Pt.locs, Pt.cells, Pt.slots] at X459 l459 y459 z459 st459 hQ459
      subst l459 y459 z459
      obtain ⟨N459, KK459, hR459⟩ := hQ459
      have NA459 := Fr.app NA443 N459
      have XO460 : Old Z n0 T459.heap := XO453.keep KK459 (allS g_b449 all0)
      have f461 := f454.keep KK459 (ninS ne450 nin0)
      have f462 := f455.keep KK459
      have f463 := f456.keep KK459 (ninS ne452 nin0)
      have f464 := f457.keep KK459 (ninS ne451 nin0)
      have f465 := E_b449.keep KK459
      have K468 : Keep h0 T459.heap [] := K458.trans KK459 (allS (Or.inr sz_b449) all0)
      have Z468 : n0 ≤ T459.heap.size := Nat.le_trans Z458 KK459.1
      obtain ⟨r459_0_0, rfl, g_r459_0_0, le_r459_0_0, v459_0_0, v459_0_1, v459_0_2, v459_0_3, v459_0_4, v459_0_5, v459_0_6⟩ := hR459
      have ne469 : de ≠ r459_0_0 := Nat.ne_of_lt (Nat.lt_of_lt_of_le f454.lt le_r459_0_0)
      have ne470 : r443_0_0 ≠ r459_0_0 := Nat.ne_of_lt (Nat.lt_of_lt_of_le f455.lt le_r459_0_0)
      have ne471 : r443_0_1 ≠ r459_0_0 := Nat.ne_of_lt (Nat.lt_of_lt_of_le f456.lt le_r459_0_0)
      have ne472 : b449 ≠ r459_0_0 := Nat.ne_of_lt (Nat.lt_of_lt_of_le E_b449.lt le_r459_0_0)
      have sz_r459_0_0 : h0.size ≤ r459_0_0 := Nat.le_trans K458.1 le_r459_0_0
      refine Goes.back st459 ?_
      show Goes _ _ _ _ _ _ _ (T459.setTop (mkF m 37 #[.val (.int p0), .val (.long p1), .second, .val (.int p2), .val (.int (3 : Int32)), .val (.int (0 : Int32)), .val (.long u6), .second, .val (.ref r443_0_0), .unset, .unset, .unset, .unset] [(.ref b449)]))
      refine Goes.step (fun _ k => XS.astore X459.here hx rfl (hb hby at_37) rfl rfl (l' := #[.val (.int p0), .val (.long p1), .second, .val (.int p2), .val (.int (3 : Int32)), .val (.int (0 : Int32)), .val (.long u6), .second, .val (.ref r443_0_0), .val (.ref b449), .unset, .unset, .unset]) rfl k) ?_
      show Goes _ _ _ _ _ _ _ (T459.setTop (mkF m 39 #[.val (.int p0), .val (.long p1), .second, .val (.int p2), .val (.int (3 : Int32)), .val (.int (0 : Int32)), .val (.long u6), .second, .val (.ref r443_0_0), .val (.ref b449), .unset, .unset, .unset] []))
      refine Goes.step (fun _ k => XS.aload X459.here hx rfl (hb hby at_39) rfl rfl k) ?_
      show Goes _ _ _ _ _ _ _ (T459.setTop (mkF m 41 #[.val (.int p0), .val (.long p1), .second, .val (.int p2), .val (.int (3 : Int32)), .val (.int (0 : Int32)), .val (.long u6), .second, .val (.ref r443_0_0), .val (.ref b449), .unset, .unset, .unset] [(.ref b449)]))
      obtain ⟨cq473, kq473, q473a, q473b, q473c⟩ := isOf hZ rfl v459_0_2
      obtain ⟨_, _, ⟨T473, L473, k473, n473⟩, -, X473, ⟨Lc473, hQ473, l473, y473, z473⟩, st473⟩ := X459.virtualBack hx (y := (⟨"com/example/roles_to_grants/rolestogrants/input/ProblemList", "isEmpty", "()Z"⟩ : MethodName)) (z := (⟨"com/example/roles_to_grants/rolestogrants/input/ProblemList", "isEmpty", "()Z"⟩ : MethodName)) hown (mvT hZ (hw _ (List.mem_of_getElem? (i := 60) rfl))) (mvT hZ (hw _ (List.mem_of_getElem? (i := 61) rfl))) (notFace_of_selects (args := #[]) (mvT hZ (hw _ (List.mem_of_getElem? (i := 63) rfl)))) (mvT hZ (hw _ (List.mem_of_getElem? (i := 63) rfl))) (mvT hZ (hw _ (List.mem_of_getElem? (i := 62) rfl))) (by decide) (backOf (W := 0) (rm10 l Z a0 hw [] b449 (0 : Int64) T459.heap n0 Z468 v459_0_1) hZ (hw _ (List.mem_of_getElem? (i := 64) rfl)) (hw _ (List.mem_of_getElem? (i := 29) rfl)) (by decide) (by decide)) q473a q473c (g := (mkF m 41 #[.val (.int p0), .val (.long p1), .second, .val (.int p2), .val (.int (3 : Int32)), .val (.int (0 : Int32)), .val (.long u6), .second, .val (.ref r443_0_0), .val (.ref b449), .unset, .unset, .unset] [(.ref b449)])) rfl (by rw [hml]; rfl) (Steps.refl _) (argsL := []) (rest := []) (lenOf pd_5 rfl) rfl (by show 2 * 0 + _ ≤ _; exact Nat.le_of_eq rfl) (hb hby at_41) (fun _ _ => ⟨rfl, rfl, (by decide : 4 + 0 ≤ _), (by decide : 10 + 0 ≤ _)⟩)
      dsimp only [Pt.U, Pt.locs, Pt.cells, Pt.slots] at X473 l473 y473 z473 st473 hQ473
      subst l473 y473 z473
      obtain ⟨N473, eh473, hR473⟩ := hQ473
      have NA473 := Fr.app NA459 N473
      rcases hR473 with ⟨rfl, u473_0_0⟩ | ⟨rfl, u473_1_0⟩
      · refine Goes.back st473 ?_
        show Goes _ _ _ _ _ _ _ (T473.setTop (mkF m 44 #[.val (.int p0), .val (.long p1), .second, .val (.int p2), .val (.int (3 : Int32)), .val (.int (0 : Int32)), .val (.long u6), .second, .val (.ref r443_0_0), .val (.ref b449), .unset, .unset, .unset] [(.int (1 : Int32))]))
        refine Goes.step (fun _ k => XS.istore X473.here hx rfl (hb hby at_44) rfl (l' := #[.val (.int p0), .val (.long p1), .second, .val (.int p2), .val (.int (3 : Int32)), .val (.int (0 : Int32)), .val (.long u6), .second, .val (.ref r443_0_0), .val (.ref b449), .val (.int (1 : Int32)), .unset, .unset]) rfl k) ?_
        show Goes _ _ _ _ _ _ _ (T473.setTop (mkF m 46 #[.val (.int p0), .val (.long p1), .second, .val (.int p2), .val (.int (3 : Int32)), .val (.int (0 : Int32)), .val (.long u6), .second, .val (.ref r443_0_0), .val (.ref b449), .val (.int (1 : Int32)), .unset, .unset] []))
        refine Goes.step (fun _ k => XS.iload X473.here hx rfl (hb hby at_46) rfl  k) ?_
        show Goes _ _ _ _ _ _ _ (T473.setTop (mkF m 48 #[.val (.int p0), .val (.long p1), .second, .val (.int p2), .val (.int (3 : Int32)), .val (.int (0 : Int32)), .val (.long u6), .second, .val (.ref r443_0_0), .val (.ref b449), .val (.int (1 : Int32)), .unset, .unset] [(.int (3 : Int32))]))
        refine Goes.step (fun _ k => XS.iconst X473.here hx rfl (hb hby at_48) k) ?_
        show Goes _ _ _ _ _ _ _ (T473.setTop (mkF m 49 #[.val (.int p0), .val (.long p1), .second, .val (.int p2), .val (.int (3 : Int32)), .val (.int (0 : Int32)), .val (.long u6), .second, .val (.ref r443_0_0), .val (.ref b449), .val (.int (1 : Int32)), .unset, .unset] [(.int (1 : Int32)), (.int (3 : Int32))]))
        refine Goes.step (fun _ k => XS.icmpNo X473.here hx rfl (hb hby at_49) rfl (flt (by decide : ¬ ((3 : Int32) < (1 : Int32)))).1 k) ?_
        show Goes _ _ _ _ _ _ _ (T473.setTop (mkF m 52 #[.val (.int p0), .val (.long p1), .second, .val (.int p2), .val (.int (3 : Int32)), .val (.int (0 : Int32)), .val (.long u6), .second, .val (.ref r443_0_0), .val (.ref b449), .val (.int (1 : Int32)), .unset, .unset] []))
        refine Goes.step (fun _ k => XS.aload X473.here hx rfl (hb hby at_52) rfl rfl k) ?_
        show Goes _ _ _ _ _ _ _ (T473.setTop (mkF m 54 #[.val (.int p0), .val (.long p1), .second, .val (.int p2), .val (.int (3 : Int32)), .val (.int (0 : Int32)), .val (.long u6), .second, .val (.ref r443_0_0), .val (.ref b449), .val (.int (1 : Int32)), .unset, .unset] [(.ref b449)]))
        refine Goes.step (fun _ k => XS.aload X473.here hx rfl (hb hby at_54) rfl rfl k) ?_
        show Goes _ _ _ _ _ _ _ (T473.setTop (mkF m 56 #[.val (.int p0), .val (.long p1), .second, .val (.int p2), .val (.int (3 : Int32)), .val (.int (0 : Int32)), .val (.long u6), .second, .val (.ref r443_0_0), .val (.ref b449), .val (.int (1 : Int32)), .unset, .unset] [(.ref r443_0_0), (.ref b449)]))
        obtain ⟨cq474, kq474, q474a, q474b, q474c⟩ := isOf hZ eh473 v459_0_2
        obtain ⟨_, _, ⟨T474, L474, k474, n474⟩, -, X474, ⟨Lc474, hQ474, l474, y474, z474⟩, st474⟩ := X473.virtualBack hx (y := (⟨"com/example/roles_to_grants/rolestogrants/input/ProblemList", "add", "(Ljava/lang/String;)V"⟩ : MethodName)) (z := (⟨"com/example/roles_to_grants/rolestogrants/input/ProblemList", "add", "(Ljava/lang/String;)V"⟩ : MethodName)) hown (mvT hZ (hw _ (List.mem_of_getElem? (i := 72) rfl))) (mvT hZ (hw _ (List.mem_of_getElem? (i := 73) rfl))) (notFace_of_selects (args := #[]) (mvT hZ (hw _ (List.mem_of_getElem? (i := 75) rfl)))) (mvT hZ (hw _ (List.mem_of_getElem? (i := 75) rfl))) (mvT hZ (hw _ (List.mem_of_getElem? (i := 74) rfl))) (by decide) (backOf (W := 0) (rm12_0 l Z a0 hw [] b449 r443_0_0 de r459_0_0 (0 : Int64) (0 : Int32) kde T459.heap n0 Z468 S_DE XO460 v459_0_0 v459_0_1 v459_0_4 v459_0_5 v459_0_6 v459_0_2 v459_0_3 f462 f461 g_b449 g_r459_0_0 ne450 ne469 ne472) hZ (hw _ (List.mem_of_getElem? (i := 76) rfl)) (hw _ (List.mem_of_getElem? (i := 29) rfl)) (by decide) (by decide)) q474a q474c (g := (mkF m 56 #[.val (.int p0), .val (.long p1), .second, .val (.int p2), .val (.int (3 : Int32)), .val (.int (0 : Int32)), .val (.long u6), .second, .val (.ref r443_0_0), .val (.ref b449), .val (.int (1 : Int32)), .unset, .unset] [(.ref r443_0_0), (.ref b449)])) rfl (by rw [hml]; rfl) (Steps.refl _) (argsL := [(.ref r443_0_0)]) (rest := []) (lenOf pd_7 rfl) rfl (by show 2 * 0 + _ ≤ _; exact Nat.le_of_eq rfl) (hb hby at_56) (fun _ _ => ⟨rfl, eh473, (by decide : 4 + 1 ≤ _), (by decide : 10 + 10 ≤ _)⟩)
        dsimp only [Pt.U, Pt.locs, Pt.cells, Pt.slots] at X474 l474 y474 z474 st474 hQ474
        subst l474 y474 z474
        obtain ⟨N474, KK474, hR474⟩ := hQ474
        have NA474 := Fr.app NA473 N474
        have XO475 : Old Z n0 T474.heap := XO460.keep KK474 (allS g_b449 (allS g_r459_0_0 all0))
        have f476 := f461.keep KK474 (ninS ne450 (ninS ne469 nin0))
        have f477 := f462.keep KK474
        have f478 := f463.keep KK474 (ninS ne452 (ninS ne471 nin0))
        have f479 := f464.keep KK474 (ninS ne451 (ninS ne470 nin0))
        have f480 := v459_0_2.keep KK474
        have f483 := v459_0_3.keep KK474
        have K487 : Keep h0 T474.heap [] := K468.trans KK474 (allS (Or.inr sz_b449) (allS (Or.inr sz_r459_0_0) all0))
        have Z487 : n0 ≤ T474.heap.size := Nat.le_trans Z468 KK474.1
        obtain ⟨r474_0_0, kk474_0_0, rfl, g_r474_0_0, le_r474_0_0, v474_0_0, v474_0_1, v474_0_2, v474_0_3, v474_0_4, v474_0_5, v474_0_6, v474_0_7, oo474_0_0⟩ := hR474
        have ne488 : de ≠ r474_0_0 := Nat.ne_of_lt (Nat.lt_of_lt_of_le f461.lt le_r474_0_0)
        have ne489 : r443_0_0 ≠ r474_0_0 := Nat.ne_of_lt (Nat.lt_of_lt_of_le f462.lt le_r474_0_0)
        have ne490 : r443_0_1 ≠ r474_0_0 := Nat.ne_of_lt (Nat.lt_of_lt_of_le f463.lt le_r474_0_0)
        have ne491 : b449 ≠ r474_0_0 := Nat.ne_of_lt (Nat.lt_of_lt_of_le v459_0_2.lt le_r474_0_0)
        have ne492 : r459_0_0 ≠ r474_0_0 := Nat.ne_of_lt (Nat.lt_of_lt_of_le v459_0_3.lt le_r474_0_0)
        have sz_r474_0_0 : h0.size ≤ r474_0_0 := Nat.le_trans K468.1 le_r474_0_0
        refine Goes.back st474 ?_
        show Goes _ _ _ _ _ _ _ (T474.setTop (mkF m 59 #[.val (.int p0), .val (.long p1), .second, .val (.int p2), .val (.int (3 : Int32)), .val (.int (0 : Int32)), .val (.long u6), .second, .val (.ref r443_0_0), .val (.ref b449), .val (.int (1 : Int32)), .unset, .unset] []))
        refine Goes.step (fun _ k => XS.iload X474.here hx rfl (hb hby at_59) rfl  k) ?_
        show Goes _ _ _ _ _ _ _ (T474.setTop (mkF m 61 #[.val (.int p0), .val (.long p1), .second, .val (.int p2), .val (.int (3 : Int32)), .val (.int (0 : Int32)), .val (.long u6), .second, .val (.ref r443_0_0), .val (.ref b449), .val (.int (1 : Int32)), .unset, .unset] [(.int (3 : Int32))]))
        refine Goes.step (fun _ k => XS.iconst X474.here hx rfl (hb hby at_61) k) ?_
        show Goes _ _ _ _ _ _ _ (T474.setTop (mkF m 62 #[.val (.int p0), .val (.long p1), .second, .val (.int p2), .val (.int (3 : Int32)), .val (.int (0 : Int32)), .val (.long u6), .second, .val (.ref r443_0_0), .val (.ref b449), .val (.int (1 : Int32)), .unset, .unset] [(.int (2 : Int32)), (.int (3 : Int32))]))
        refine Goes.step (fun _ k => XS.icmpNo X474.here hx rfl (hb hby at_62) rfl (flt (by decide : ¬ ((3 : Int32) < (2 : Int32)))).1 k) ?_
        show Goes _ _ _ _ _ _ _ (T474.setTop (mkF m 65 #[.val (.int p0), .val (.long p1), .second, .val (.int p2), .val (.int (3 : Int32)), .val (.int (0 : Int32)), .val (.long u6), .second, .val (.ref r443_0_0), .val (.ref b449), .val (.int (1 : Int32)), .unset, .unset] []))
        refine Goes.step (fun _ k => XS.aload X474.here hx rfl (hb hby at_65) rfl rfl k) ?_
        show Goes _ _ _ _ _ _ _ (T474.setTop (mkF m 67 #[.val (.int p0), .val (.long p1), .second, .val (.int p2), .val (.int (3 : Int32)), .val (.int (0 : Int32)), .val (.long u6), .second, .val (.ref r443_0_0), .val (.ref b449), .val (.int (1 : Int32)), .unset, .unset] [(.ref b449)]))
        refine Goes.step (fun _ k => XS.aload X474.here hx rfl (hb hby at_67) rfl rfl k) ?_
        show Goes _ _ _ _ _ _ _ (T474.setTop (mkF m 69 #[.val (.int p0), .val (.long p1), .second, .val (.int p2), .val (.int (3 : Int32)), .val (.int (0 : Int32)), .val (.long u6), .second, .val (.ref r443_0_0), .val (.ref b449), .val (.int (1 : Int32)), .unset, .unset] [(.ref r443_0_0), (.ref b449)]))
        obtain ⟨cq493, kq493, q493a, q493b, q493c⟩ := isOf hZ rfl v474_0_2
        obtain ⟨_, _, ⟨T493, L493, k493, n493⟩, -, X493, ⟨Lc493, hQ493, l493, y493, z493⟩, st493⟩ := X474.virtualBack hx (y := (⟨"com/example/roles_to_grants/rolestogrants/input/ProblemList", "add", "(Ljava/lang/String;)V"⟩ : MethodName)) (z := (⟨"com/example/roles_to_grants/rolestogrants/input/ProblemList", "add", "(Ljava/lang/String;)V"⟩ : MethodName)) hown (mvT hZ (hw _ (List.mem_of_getElem? (i := 72) rfl))) (mvT hZ (hw _ (List.mem_of_getElem? (i := 73) rfl))) (notFace_of_selects (args := #[]) (mvT hZ (hw _ (List.mem_of_getElem? (i := 75) rfl)))) (mvT hZ (hw _ (List.mem_of_getElem? (i := 75) rfl))) (mvT hZ (hw _ (List.mem_of_getElem? (i := 74) rfl))) (by decide) (backOf (W := 0) (rm12_1 l Z a0 hw [] b449 r443_0_0 r459_0_0 (1 : Int64) (1 : Int32) r474_0_0 kk474_0_0 T474.heap n0 Z487 v474_0_0 v474_0_1 v474_0_4 v474_0_5 v474_0_6 v474_0_2 v474_0_3 f477 (own_arx v474_0_7) oo474_0_0 g_b449 g_r459_0_0 g_r474_0_0 (Ne.symm ne491) (Ne.symm ne492) ne472) hZ (hw _ (List.mem_of_getElem? (i := 76) rfl)) (hw _ (List.mem_of_getElem? (i := 29) rfl)) (by decide) (by decide)) q493a q493c (g := (mkF m 69 #[.val (.int p0), .val (.long p1), .second, .val (.int p2), .val (.int (3 : Int32)), .val (.int (0 : Int32)), .val (.long u6), .second, .val (.ref r443_0_0), .val (.ref b449), .val (.int (1 : Int32)), .unset, .unset] [(.ref r443_0_0), (.ref b449)])) rfl (by rw [hml]; rfl) (Steps.refl _) (argsL := [(.ref r443_0_0)]) (rest := []) (lenOf pd_7 rfl) rfl (by show 2 * 0 + _ ≤ _; exact Nat.le_of_eq rfl) (hb hby at_69) (fun _ _ => ⟨rfl, rfl, (by decide : 5 + 0 ≤ _), (by decide : 20 + 0 ≤ _)⟩)
        dsimp only [Pt.U, Pt.locs, Pt.cells, Pt.slots] at X493 l493 y493 z493 st493 hQ493
        subst l493 y493 z493
        obtain ⟨N493, KK493, hR493⟩ := hQ493
        have NA493 := Fr.app NA474 N493
        have XO494 : Old Z n0 T493.heap := XO475.keep KK493 (allS g_b449 (allS g_r459_0_0 (allS g_r474_0_0 all0)))
        have f495 := f476.keep KK493 (ninS ne450 (ninS ne469 (ninS ne488 nin0)))
        have f496 := f477.keep KK493
        have f497 := f478.keep KK493 (ninS ne452 (ninS ne471 (ninS ne490 nin0)))
        have f498 := f479.keep KK493 (ninS ne451 (ninS ne470 (ninS ne489 nin0)))
        have f499 := v474_0_2.keep KK493
        have f500 := v474_0_3.keep KK493
        have K507 : Keep h0 T493.heap [] := K487.trans KK493 (allS (Or.inr sz_b449) (allS (Or.inr sz_r459_0_0) (allS (Or.inr sz_r474_0_0) all0)))
        have Z507 : n0 ≤ T493.heap.size := Nat.le_trans Z487 KK493.1
        obtain ⟨rfl, v493_0_0, v493_0_1, v493_0_2, v493_0_3, v493_0_4, v493_0_5, v493_0_6, v493_0_7⟩ := hR493
        refine Goes.back st493 ?_
        show Goes _ _ _ _ _ _ _ (T493.setTop (mkF m 72 #[.val (.int p0), .val (.long p1), .second, .val (.int p2), .val (.int (3 : Int32)), .val (.int (0 : Int32)), .val (.long u6), .second, .val (.ref r443_0_0), .val (.ref b449), .val (.int (1 : Int32)), .unset, .unset] []))
        refine Goes.step (fun _ k => XS.iload X493.here hx rfl (hb hby at_72) rfl  k) ?_
        show Goes _ _ _ _ _ _ _ (T493.setTop (mkF m 74 #[.val (.int p0), .val (.long p1), .second, .val (.int p2), .val (.int (3 : Int32)), .val (.int (0 : Int32)), .val (.long u6), .second, .val (.ref r443_0_0), .val (.ref b449), .val (.int (1 : Int32)), .unset, .unset] [(.int (3 : Int32))]))
        refine Goes.step (fun _ k => XS.iconst X493.here hx rfl (hb hby at_74) k) ?_
        show Goes _ _ _ _ _ _ _ (T493.setTop (mkF m 75 #[.val (.int p0), .val (.long p1), .second, .val (.int p2), .val (.int (3 : Int32)), .val (.int (0 : Int32)), .val (.long u6), .second, .val (.ref r443_0_0), .val (.ref b449), .val (.int (1 : Int32)), .unset, .unset] [(.int (3 : Int32)), (.int (3 : Int32))]))
        refine Goes.step (fun _ k => XS.icmpNo X493.here hx rfl (hb hby at_75) rfl (flt (by decide : ¬ ((3 : Int32) < (3 : Int32)))).1 k) ?_
        show Goes _ _ _ _ _ _ _ (T493.setTop (mkF m 78 #[.val (.int p0), .val (.long p1), .second, .val (.int p2), .val (.int (3 : Int32)), .val (.int (0 : Int32)), .val (.long u6), .second, .val (.ref r443_0_0), .val (.ref b449), .val (.int (1 : Int32)), .unset, .unset] []))
        refine Goes.step (fun _ k => XS.aload X493.here hx rfl (hb hby at_78) rfl rfl k) ?_
        show Goes _ _ _ _ _ _ _ (T493.setTop (mkF m 80 #[.val (.int p0), .val (.long p1), .second, .val (.int p2), .val (.int (3 : Int32)), .val (.int (0 : Int32)), .val (.long u6), .second, .val (.ref r443_0_0), .val (.ref b449), .val (.int (1 : Int32)), .unset, .unset] [(.ref b449)]))
        refine Goes.step (fun _ k => XS.aload X493.here hx rfl (hb hby at_80) rfl rfl k) ?_
        show Goes _ _ _ _ _ _ _ (T493.setTop (mkF m 82 #[.val (.int p0), .val (.long p1), .second, .val (.int p2), .val (.int (3 : Int32)), .val (.int (0 : Int32)), .val (.long u6), .second, .val (.ref r443_0_0), .val (.ref b449), .val (.int (1 : Int32)), .unset, .unset] [(.ref r443_0_0), (.ref b449)]))
        obtain ⟨cq508, kq508, q508a, q508b, q508c⟩ := isOf hZ rfl v493_0_2
        obtain ⟨_, _, ⟨T508, L508, k508, n508⟩, -, X508, ⟨Lc508, hQ508, l508, y508, z508⟩, st508⟩ := X493.virtualBack hx (y := (⟨"com/example/roles_to_grants/rolestogrants/input/ProblemList", "add", "(Ljava/lang/String;)V"⟩ : MethodName)) (z := (⟨"com/example/roles_to_grants/rolestogrants/input/ProblemList", "add", "(Ljava/lang/String;)V"⟩ : MethodName)) hown (mvT hZ (hw _ (List.mem_of_getElem? (i := 72) rfl))) (mvT hZ (hw _ (List.mem_of_getElem? (i := 73) rfl))) (notFace_of_selects (args := #[]) (mvT hZ (hw _ (List.mem_of_getElem? (i := 75) rfl)))) (mvT hZ (hw _ (List.mem_of_getElem? (i := 75) rfl))) (mvT hZ (hw _ (List.mem_of_getElem? (i := 74) rfl))) (by decide) (backOf (W := 0) (rm12_2 l Z a0 hw [] b449 r443_0_0 r459_0_0 (2 : Int64) (2 : Int32) r474_0_0 kk474_0_0 T493.heap n0 Z507 v493_0_0 v493_0_1 v493_0_4 v493_0_5 v493_0_6 v493_0_2 v493_0_3 f496 v493_0_7 oo474_0_0 g_b449 g_r459_0_0 g_r474_0_0 (Ne.symm ne491) (Ne.symm ne492) ne472) hZ (hw _ (List.mem_of_getElem? (i := 76) rfl)) (hw _ (List.mem_of_getElem? (i := 29) rfl)) (by decide) (by decide)) q508a q508c (g := (mkF m 82 #[.val (.int p0), .val (.long p1), .second, .val (.int p2), .val (.int (3 : Int32)), .val (.int (0 : Int32)), .val (.long u6), .second, .val (.ref r443_0_0), .val (.ref b449), .val (.int (1 : Int32)), .unset, .unset] [(.ref r443_0_0), (.ref b449)])) rfl (by rw [hml]; rfl) (Steps.refl _) (argsL := [(.ref r443_0_0)]) (rest := []) (lenOf pd_7 rfl) rfl (by show 2 * 0 + _ ≤ _; exact Nat.le_of_eq rfl) (hb hby at_82) (fun _ _ => ⟨rfl, rfl, (by decide : 5 + 0 ≤ _), (by decide : 20 + 0 ≤ _)⟩)
        dsimp only [Pt.U, Pt.locs, Pt.cells, Pt.slots] at X508 l508 y508 z508 st508 hQ508
        subst l508 y508 z508
        obtain ⟨N508, KK508, hR508⟩ := hQ508
        have NA508 := Fr.app NA493 N508
        have XO509 : Old Z n0 T508.heap := XO494.keep KK508 (allS g_b449 (allS g_r459_0_0 (allS g_r474_0_0 all0)))
        have f510 := f495.keep KK508 (ninS ne450 (ninS ne469 (ninS ne488 nin0)))
        have f511 := f496.keep KK508
        have f512 := f497.keep KK508 (ninS ne452 (ninS ne471 (ninS ne490 nin0)))
        have f513 := f498.keep KK508 (ninS ne451 (ninS ne470 (ninS ne489 nin0)))
        have f514 := v493_0_2.keep KK508
        have f515 := v493_0_3.keep KK508
        have K522 : Keep h0 T508.heap [] := K507.trans KK508 (allS (Or.inr sz_b449) (allS (Or.inr sz_r459_0_0) (allS (Or.inr sz_r474_0_0) all0)))
        have Z522 : n0 ≤ T508.heap.size := Nat.le_trans Z507 KK508.1
        obtain ⟨rfl, v508_0_0, v508_0_1, v508_0_2, v508_0_3, v508_0_4, v508_0_5, v508_0_6, v508_0_7⟩ := hR508
        refine Goes.back st508 ?_
        show Goes _ _ _ _ _ _ _ (T508.setTop (mkF m 85 #[.val (.int p0), .val (.long p1), .second, .val (.int p2), .val (.int (3 : Int32)), .val (.int (0 : Int32)), .val (.long u6), .second, .val (.ref r443_0_0), .val (.ref b449), .val (.int (1 : Int32)), .unset, .unset] []))
        refine Goes.step (fun _ k => XS.aload X508.here hx rfl (hb hby at_85) rfl rfl k) ?_
        show Goes _ _ _ _ _ _ _ (T508.setTop (mkF m 87 #[.val (.int p0), .val (.long p1), .second, .val (.int p2), .val (.int (3 : Int32)), .val (.int (0 : Int32)), .val (.long u6), .second, .val (.ref r443_0_0), .val (.ref b449), .val (.int (1 : Int32)), .unset, .unset] [(.ref b449)]))
        obtain ⟨cq523, kq523, q523a, q523b, q523c⟩ := isOf hZ rfl v508_0_2
        obtain ⟨_, _, ⟨T523, L523, k523, n523⟩, -, X523, ⟨Lc523, hQ523, l523, y523, z523⟩, st523⟩ := X508.virtualBack hx (y := (⟨"com/example/roles_to_grants/rolestogrants/input/ProblemList", "isEmpty", "()Z"⟩ : MethodName)) (z := (⟨"com/example/roles_to_grants/rolestogrants/input/ProblemList", "isEmpty", "()Z"⟩ : MethodName)) hown (mvT hZ (hw _ (List.mem_of_getElem? (i := 60) rfl))) (mvT hZ (hw _ (List.mem_of_getElem? (i := 61) rfl))) (notFace_of_selects (args := #[]) (mvT hZ (hw _ (List.mem_of_getElem? (i := 63) rfl)))) (mvT hZ (hw _ (List.mem_of_getElem? (i := 63) rfl))) (mvT hZ (hw _ (List.mem_of_getElem? (i := 62) rfl))) (by decide) (backOf (W := 0) (rm10 l Z a0 hw [] b449 (3 : Int64) T508.heap n0 Z522 v508_0_1) hZ (hw _ (List.mem_of_getElem? (i := 64) rfl)) (hw _ (List.mem_of_getElem? (i := 29) rfl)) (by decide) (by decide)) q523a q523c (g := (mkF m 87 #[.val (.int p0), .val (.long p1), .second, .val (.int p2), .val (.int (3 : Int32)), .val (.int (0 : Int32)), .val (.long u6), .second, .val (.ref r443_0_0), .val (.ref b449), .val (.int (1 : Int32)), .unset, .unset] [(.ref b449)])) rfl (by rw [hml]; rfl) (Steps.refl _) (argsL := []) (rest := []) (lenOf pd_5 rfl) rfl (by show 2 * 0 + _ ≤ _; exact Nat.le_of_eq rfl) (hb hby at_87) (fun _ _ => ⟨rfl, rfl, (by decide : 5 + 0 ≤ _), (by decide : 20 + 0 ≤ _)⟩)
        dsimp only [Pt.U, Pt.locs, Pt.cells, Pt.slots] at X523 l523 y523 z523 st523 hQ523
        subst l523 y523 z523
        obtain ⟨N523, eh523, hR523⟩ := hQ523
        have NA523 := Fr.app NA508 N523
        rcases hR523 with ⟨rfl, u523_0_0⟩ | ⟨rfl, u523_1_0⟩
        · exact absurd u523_0_0 (by decide : ¬ ((3 : Int64) = (0 : Int64)))
        · refine Goes.back st523 ?_
          show Goes _ _ _ _ _ _ _ (T523.setTop (mkF m 90 #[.val (.int p0), .val (.long p1), .second, .val (.int p2), .val (.int (3 : Int32)), .val (.int (0 : Int32)), .val (.long u6), .second, .val (.ref r443_0_0), .val (.ref b449), .val (.int (1 : Int32)), .unset, .unset] [(.int (0 : Int32))]))
          refine Goes.step (fun _ k => XS.istore X523.here hx rfl (hb hby at_90) rfl (l' := #[.val (.int p0), .val (.long p1), .second, .val (.int p2), .val (.int (3 : Int32)), .val (.int (0 : Int32)), .val (.long u6), .second, .val (.ref r443_0_0), .val (.ref b449), .val (.int (1 : Int32)), .val (.int (0 : Int32)), .unset]) rfl k) ?_
          show Goes _ _ _ _ _ _ _ (T523.setTop (mkF m 92 #[.val (.int p0), .val (.long p1), .second, .val (.int p2), .val (.int (3 : Int32)), .val (.int (0 : Int32)), .val (.long u6), .second, .val (.ref r443_0_0), .val (.ref b449), .val (.int (1 : Int32)), .val (.int (0 : Int32)), .unset] []))
          refine Goes.step (fun _ k => XS.aload X523.here hx rfl (hb hby at_92) rfl rfl k) ?_
          show Goes _ _ _ _ _ _ _ (T523.setTop (mkF m 94 #[.val (.int p0), .val (.long p1), .second, .val (.int p2), .val (.int (3 : Int32)), .val (.int (0 : Int32)), .val (.long u6), .second, .val (.ref r443_0_0), .val (.ref b449), .val (.int (1 : Int32)), .val (.int (0 : Int32)), .unset] [(.ref b449)]))
          refine Goes.step (fun _ k => XS.lload X523.here hx rfl (hb hby at_94) rfl  k) ?_
          show Goes _ _ _ _ _ _ _ (T523.setTop (mkF m 96 #[.val (.int p0), .val (.long p1), .second, .val (.int p2), .val (.int (3 : Int32)), .val (.int (0 : Int32)), .val (.long u6), .second, .val (.ref r443_0_0), .val (.ref b449), .val (.int (1 : Int32)), .val (.int (0 : Int32)), .unset] [(.long u6), (.ref b449)]))
          obtain ⟨cq524, kq524, q524a, q524b, q524c⟩ := isOf hZ eh523 v508_0_2
          obtain ⟨_, _, ⟨T524, L524, k524, n524⟩, -, X524, ⟨Lc524, hQ524, l524, y524, z524⟩, st524⟩ := X523.virtualBack hx (y := (⟨"com/example/roles_to_grants/rolestogrants/input/ProblemList", "addUnnamed", "(J)V"⟩ : MethodName)) (z := (⟨"com/example/roles_to_grants/rolestogrants/input/ProblemList", "addUnnamed", "(J)V"⟩ : MethodName)) hown (mvT hZ (hw _ (List.mem_of_getElem? (i := 67) rfl))) (mvT hZ (hw _ (List.mem_of_getElem? (i := 68) rfl))) (notFace_of_selects (args := #[]) (mvT hZ (hw _ (List.mem_of_getElem? (i := 70) rfl)))) (mvT hZ (hw _ (List.mem_of_getElem? (i := 70) rfl))) (mvT hZ (hw _ (List.mem_of_getElem? (i := 69) rfl))) (by decide) (backOf (W := 0) (rm11 l Z a0 hw [] b449 u6 r459_0_0 (3 : Int64) T508.heap n0 Z522 v508_0_0 v508_0_1 v508_0_2 g_b449) hZ (hw _ (List.mem_of_getElem? (i := 71) rfl)) (hw _ (List.mem_of_getElem? (i := 29) rfl)) (by decide) (by decide)) q524a q524c (g := (mkF m 96 #[.val (.int p0), .val (.long p1), .second, .val (.int p2), .val (.int (3 : Int32)), .val (.int (0 : Int32)), .val (.long u6), .second, .val (.ref r443_0_0), .val (.ref b449), .val (.int (1 : Int32)), .val (.int (0 : Int32)), .unset] [(.long u6), (.ref b449)])) rfl (by rw [hml]; rfl) (Steps.refl _) (argsL := [(.long u6)]) (rest := []) (lenOf pd_6 rfl) rfl (by show 2 * 0 + _ ≤ _; exact Nat.le_of_eq rfl) (hb hby at_96) (fun _ _ => ⟨rfl, eh523, (by decide : 5 + 0 ≤ _), (by decide : 20 + 0 ≤ _)⟩)
          dsimp only [Pt.U, Pt.locs, Pt.cells, Pt.slots] at X524 l524 y524 z524 st524 hQ524
          subst l524 y524 z524
          obtain ⟨N524, KK524, hR524⟩ := hQ524
          have NA524 := Fr.app NA523 N524
          have XO525 : Old Z n0 T524.heap := XO509.keep KK524 (allS g_b449 all0)
          have f526 := f510.keep KK524 (ninS ne450 nin0)
          have f527 := f511.keep KK524
          have f528 := f512.keep KK524 (ninS ne452 nin0)
          have f529 := f513.keep KK524 (ninS ne451 nin0)
          have f530 := v508_0_2.keep KK524
          have f531 := v508_0_3.keep KK524
          have f534 := v508_0_4.keep KK524 (ninS (Ne.symm ne472) nin0)
          have f535 := v508_0_5.keep KK524 (ninS (Ne.symm ne472) nin0)
          have f536 := v508_0_6.keep KK524 (ninS (Ne.symm ne472) nin0)
          have f537 := v508_0_7.keep KK524 (ninS (Ne.symm ne491) nin0)
          have K538 : Keep h0 T524.heap [] := K522.trans KK524 (allS (Or.inr sz_b449) all0)
          have Z538 : n0 ≤ T524.heap.size := Nat.le_trans Z522 KK524.1
          obtain ⟨rfl, v524_0_0, v524_0_1, v524_0_2⟩ := hR524
          refine Goes.back st524 ?_
          show Goes _ _ _ _ _ _ _ (T524.setTop (mkF m 99 #[.val (.int p0), .val (.long p1), .second, .val (.int p2), .val (.int (3 : Int32)), .val (.int (0 : Int32)), .val (.long u6), .second, .val (.ref r443_0_0), .val (.ref b449), .val (.int (1 : Int32)), .val (.int (0 : Int32)), .unset] []))
          refine Goes.step (fun _ k => XS.iload X524.here hx rfl (hb hby at_99) rfl  k) ?_
          show Goes _ _ _ _ _ _ _ (T524.setTop (mkF m 101 #[.val (.int p0), .val (.long p1), .second, .val (.int p2), .val (.int (3 : Int32)), .val (.int (0 : Int32)), .val (.long u6), .second, .val (.ref r443_0_0), .val (.ref b449), .val (.int (1 : Int32)), .val (.int (0 : Int32)), .unset] [(.int (0 : Int32))]))
          refine Goes.step (fun _ k => XS.iconst X524.here hx rfl (hb hby at_101) k) ?_
          show Goes _ _ _ _ _ _ _ (T524.setTop (mkF m 102 #[.val (.int p0), .val (.long p1), .second, .val (.int p2), .val (.int (3 : Int32)), .val (.int (0 : Int32)), .val (.long u6), .second, .val (.ref r443_0_0), .val (.ref b449), .val (.int (1 : Int32)), .val (.int (0 : Int32)), .unset] [(.int (1 : Int32)), (.int (0 : Int32))]))
          refine Goes.step (fun _ k => XS.icmpYes X524.here hx rfl (pc0 := 102) (pc' := 112) rfl (hb hby at_102) rfl (feq (by decide : ¬ ((0 : Int32) = (1 : Int32)))).2 (by decide) (by decide) k) ?_
          show Goes _ _ _ _ _ _ _ (T524.setTop (mkF m 112 #[.val (.int p0), .val (.long p1), .second, .val (.int p2), .val (.int (3 : Int32)), .val (.int (0 : Int32)), .val (.long u6), .second, .val (.ref r443_0_0), .val (.ref b449), .val (.int (1 : Int32)), .val (.int (0 : Int32)), .unset] []))
          refine Goes.step (fun _ k => XS.aload X524.here hx rfl (hb hby at_112) rfl rfl k) ?_
          show Goes _ _ _ _ _ _ _ (T524.setTop (mkF m 114 #[.val (.int p0), .val (.long p1), .second, .val (.int p2), .val (.int (3 : Int32)), .val (.int (0 : Int32)), .val (.long u6), .second, .val (.ref r443_0_0), .val (.ref b449), .val (.int (1 : Int32)), .val (.int (0 : Int32)), .unset] [(.ref b449)]))
          obtain ⟨cq539, kq539, q539a, q539b, q539c⟩ := isOf hZ rfl v524_0_2
          obtain ⟨_, _, ⟨T539, L539, k539, n539⟩, -, X539, ⟨Lc539, hQ539, l539, y539, z539⟩, st539⟩ := X524.virtualBack hx (y := (⟨"com/example/roles_to_grants/rolestogrants/input/ProblemList", "isEmpty", "()Z"⟩ : MethodName)) (z := (⟨"com/example/roles_to_grants/rolestogrants/input/ProblemList", "isEmpty", "()Z"⟩ : MethodName)) hown (mvT hZ (hw _ (List.mem_of_getElem? (i := 60) rfl))) (mvT hZ (hw _ (List.mem_of_getElem? (i := 61) rfl))) (notFace_of_selects (args := #[]) (mvT hZ (hw _ (List.mem_of_getElem? (i := 63) rfl)))) (mvT hZ (hw _ (List.mem_of_getElem? (i := 63) rfl))) (mvT hZ (hw _ (List.mem_of_getElem? (i := 62) rfl))) (by decide) (backOf (W := 0) (rm10 l Z a0 hw [] b449 ((3 : Int64) + u6) T524.heap n0 Z538 v524_0_1) hZ (hw _ (List.mem_of_getElem? (i := 64) rfl)) (hw _ (List.mem_of_getElem? (i := 29) rfl)) (by decide) (by decide)) q539a q539c (g := (mkF m 114 #[.val (.int p0), .val (.long p1), .second, .val (.int p2), .val (.int (3 : Int32)), .val (.int (0 : Int32)), .val (.long u6), .second, .val (.ref r443_0_0), .val (.ref b449), .val (.int (1 : Int32)), .val (.int (0 : Int32)), .unset] [(.ref b449)])) rfl (by rw [hml]; rfl) (Steps.refl _) (argsL := []) (rest := []) (lenOf pd_5 rfl) rfl (by show 2 * 0 + _ ≤ _; exact Nat.le_of_eq rfl) (hb hby at_114) (fun _ _ => ⟨rfl, rfl, (by decide : 5 + 0 ≤ _), (by decide : 20 + 0 ≤ _)⟩)
          dsimp only [Pt.U, Pt.locs, Pt.cells, Pt.slots] at X539 l539 y539 z539 st539 hQ539
          subst l539 y539 z539
          obtain ⟨N539, eh539, hR539⟩ := hQ539
          have NA539 := Fr.app NA524 N539
          rcases hR539 with ⟨rfl, u539_0_0⟩ | ⟨rfl, u539_1_0⟩
          · exact absurd u539_0_0 (own_nz hg_u6 (3 : Int64) (by decide) (by decide))
          · refine Goes.back st539 ?_
            show Goes _ _ _ _ _ _ _ (T539.setTop (mkF m 117 #[.val (.int p0), .val (.long p1), .second, .val (.int p2), .val (.int (3 : Int32)), .val (.int (0 : Int32)), .val (.long u6), .second, .val (.ref r443_0_0), .val (.ref b449), .val (.int (1 : Int32)), .val (.int (0 : Int32)), .unset] [(.int (0 : Int32))]))
            refine Goes.step (fun _ k => XS.istore X539.here hx rfl (hb hby at_117) rfl (l' := #[.val (.int p0), .val (.long p1), .second, .val (.int p2), .val (.int (3 : Int32)), .val (.int (0 : Int32)), .val (.long u6), .second, .val (.ref r443_0_0), .val (.ref b449), .val (.int (1 : Int32)), .val (.int (0 : Int32)), .val (.int (0 : Int32))]) rfl k) ?_
            show Goes _ _ _ _ _ _ _ (T539.setTop (mkF m 119 #[.val (.int p0), .val (.long p1), .second, .val (.int p2), .val (.int (3 : Int32)), .val (.int (0 : Int32)), .val (.long u6), .second, .val (.ref r443_0_0), .val (.ref b449), .val (.int (1 : Int32)), .val (.int (0 : Int32)), .val (.int (0 : Int32))] []))
            refine Goes.step (fun _ k => XS.iload X539.here hx rfl (hb hby at_119) rfl  k) ?_
            show Goes _ _ _ _ _ _ _ (T539.setTop (mkF m 121 #[.val (.int p0), .val (.long p1), .second, .val (.int p2), .val (.int (3 : Int32)), .val (.int (0 : Int32)), .val (.long u6), .second, .val (.ref r443_0_0), .val (.ref b449), .val (.int (1 : Int32)), .val (.int (0 : Int32)), .val (.int (0 : Int32))] [(.int (1 : Int32))]))
            refine Goes.step (fun _ k => XS.ifNo X539.here hx rfl (hb hby at_121) rfl ((if0 _ _).trans (feq (by decide : ¬ ((1 : Int32) = (0 : Int32)))).1) k) ?_
            show Goes _ _ _ _ _ _ _ (T539.setTop (mkF m 124 #[.val (.int p0), .val (.long p1), .second, .val (.int p2), .val (.int (3 : Int32)), .val (.int (0 : Int32)), .val (.long u6), .second, .val (.ref r443_0_0), .val (.ref b449), .val (.int (1 : Int32)), .val (.int (0 : Int32)), .val (.int (0 : Int32))] []))
            refine Goes.step (fun _ k => XS.iload X539.here hx rfl (hb hby at_124) rfl  k) ?_
            show Goes _ _ _ _ _ _ _ (T539.setTop (mkF m 126 #[.val (.int p0), .val (.long p1), .second, .val (.int p2), .val (.int (3 : Int32)), .val (.int (0 : Int32)), .val (.long u6), .second, .val (.ref r443_0_0), .val (.ref b449), .val (.int (1 : Int32)), .val (.int (0 : Int32)), .val (.int (0 : Int32))] [(.int (0 : Int32))]))
            refine Goes.step (fun _ k => XS.iload X539.here hx rfl (hb hby at_126) rfl  k) ?_
            show Goes _ _ _ _ _ _ _ (T539.setTop (mkF m 128 #[.val (.int p0), .val (.long p1), .second, .val (.int p2), .val (.int (3 : Int32)), .val (.int (0 : Int32)), .val (.long u6), .second, .val (.ref r443_0_0), .val (.ref b449), .val (.int (1 : Int32)), .val (.int (0 : Int32)), .val (.int (0 : Int32))] [(.int (3 : Int32)), (.int (0 : Int32))]))
            refine Goes.step (fun _ k => XS.ifYes X539.here hx rfl (pc0 := 128) (pc' := 135) rfl (hb hby at_128) rfl ((if0 _ _).trans (feq (by decide : ¬ ((3 : Int32) = (0 : Int32)))).2) (by decide) (by decide) k) ?_
            show Goes _ _ _ _ _ _ _ (T539.setTop (mkF m 135 #[.val (.int p0), .val (.long p1), .second, .val (.int p2), .val (.int (3 : Int32)), .val (.int (0 : Int32)), .val (.long u6), .second, .val (.ref r443_0_0), .val (.ref b449), .val (.int (1 : Int32)), .val (.int (0 : Int32)), .val (.int (0 : Int32))] [(.int (0 : Int32))]))
            refine Goes.step (fun _ k => XS.iconst X539.here hx rfl (hb hby at_135) k) ?_
            show Goes _ _ _ _ _ _ _ (T539.setTop (mkF m 136 #[.val (.int p0), .val (.long p1), .second, .val (.int p2), .val (.int (3 : Int32)), .val (.int (0 : Int32)), .val (.long u6), .second, .val (.ref r443_0_0), .val (.ref b449), .val (.int (1 : Int32)), .val (.int (0 : Int32)), .val (.int (0 : Int32))] [(.int (0 : Int32)), (.int (0 : Int32))]))
            refine Goes.step (fun _ k => XS.icmpNo X539.here hx rfl (hb hby at_136) rfl (teq (by decide : (0 : Int32) = (0 : Int32))).2 k) ?_
            show Goes _ _ _ _ _ _ _ (T539.setTop (mkF m 139 #[.val (.int p0), .val (.long p1), .second, .val (.int p2), .val (.int (3 : Int32)), .val (.int (0 : Int32)), .val (.long u6), .second, .val (.ref r443_0_0), .val (.ref b449), .val (.int (1 : Int32)), .val (.int (0 : Int32)), .val (.int (0 : Int32))] []))
            refine Goes.step (fun _ k => XS.iload X539.here hx rfl (hb hby at_139) rfl  k) ?_
            show Goes _ _ _ _ _ _ _ (T539.setTop (mkF m 141 #[.val (.int p0), .val (.long p1), .second, .val (.int p2), .val (.int (3 : Int32)), .val (.int (0 : Int32)), .val (.long u6), .second, .val (.ref r443_0_0), .val (.ref b449), .val (.int (1 : Int32)), .val (.int (0 : Int32)), .val (.int (0 : Int32))] [(.int (0 : Int32))]))
            refine Goes.step (fun _ k => XS.iload X539.here hx rfl (hb hby at_141) rfl  k) ?_
            show Goes _ _ _ _ _ _ _ (T539.setTop (mkF m 143 #[.val (.int p0), .val (.long p1), .second, .val (.int p2), .val (.int (3 : Int32)), .val (.int (0 : Int32)), .val (.long u6), .second, .val (.ref r443_0_0), .val (.ref b449), .val (.int (1 : Int32)), .val (.int (0 : Int32)), .val (.int (0 : Int32))] [(.int (3 : Int32)), (.int (0 : Int32))]))
            refine Goes.step (fun _ k => XS.ifYes X539.here hx rfl (pc0 := 143) (pc' := 162) rfl (hb hby at_143) rfl ((if0 _ _).trans (feq (by decide : ¬ ((3 : Int32) = (0 : Int32)))).2) (by decide) (by decide) k) ?_
            show Goes _ _ _ _ _ _ _ (T539.setTop (mkF m 162 #[.val (.int p0), .val (.long p1), .second, .val (.int p2), .val (.int (3 : Int32)), .val (.int (0 : Int32)), .val (.long u6), .second, .val (.ref r443_0_0), .val (.ref b449), .val (.int (1 : Int32)), .val (.int (0 : Int32)), .val (.int (0 : Int32))] [(.int (0 : Int32))]))
            refine Goes.step (fun _ k => XS.iconst X539.here hx rfl (hb hby at_162) k) ?_
            show Goes _ _ _ _ _ _ _ (T539.setTop (mkF m 163 #[.val (.int p0), .val (.long p1), .second, .val (.int p2), .val (.int (3 : Int32)), .val (.int (0 : Int32)), .val (.long u6), .second, .val (.ref r443_0_0), .val (.ref b449), .val (.int (1 : Int32)), .val (.int (0 : Int32)), .val (.int (0 : Int32))] [(.int (0 : Int32)), (.int (0 : Int32))]))
            refine Goes.step (fun _ k => XS.icmpNo X539.here hx rfl (hb hby at_163) rfl (teq (by decide : (0 : Int32) = (0 : Int32))).2 k) ?_
            show Goes _ _ _ _ _ _ _ (T539.setTop (mkF m 166 #[.val (.int p0), .val (.long p1), .second, .val (.int p2), .val (.int (3 : Int32)), .val (.int (0 : Int32)), .val (.long u6), .second, .val (.ref r443_0_0), .val (.ref b449), .val (.int (1 : Int32)), .val (.int (0 : Int32)), .val (.int (0 : Int32))] []))
            refine Goes.step (fun _ k => XS.iconst X539.here hx rfl (hb hby at_166) k) ?_
            show Goes _ _ _ _ _ _ _ (T539.setTop (mkF m 167 #[.val (.int p0), .val (.long p1), .second, .val (.int p2), .val (.int (3 : Int32)), .val (.int (0 : Int32)), .val (.long u6), .second, .val (.ref r443_0_0), .val (.ref b449), .val (.int (1 : Int32)), .val (.int (0 : Int32)), .val (.int (0 : Int32))] [(.int (1 : Int32))]))
            refine Goes.step (fun _ k => XS.goto X539.here hx rfl (pc0 := 167) (pc' := 171) rfl (hb hby at_167) (by decide) (by decide) k) ?_
            show Goes _ _ _ _ _ _ _ (T539.setTop (mkF m 171 #[.val (.int p0), .val (.long p1), .second, .val (.int p2), .val (.int (3 : Int32)), .val (.int (0 : Int32)), .val (.long u6), .second, .val (.ref r443_0_0), .val (.ref b449), .val (.int (1 : Int32)), .val (.int (0 : Int32)), .val (.int (0 : Int32))] [(.int (1 : Int32))]))
            exact Goes.ret X539 hx (BodyLoose.notSynchronized Bd) Bd.returns rfl (Or.inl ⟨rfl, by simp, _, rfl⟩) (hb hby at_171) (by show Q0 Z p0 p1 p2 zC de kde h0 n0 (some (.int (1 : Int32))) T539.heap _; rw [eh539]; exact ⟨rfl, NA539⟩) (by decide) (by decide)
      · exact absurd (by decide : (0 : Int64) = (0 : Int64)) u473_1_0
    · show Goes _ _ _ _ _ _ _ (s₁.setTop (mkF m 12 #[.val (.int p0), .val (.long p1), .second, .val (.int p2), .val (.int (3 : Int32)), .val (.int (1 : Int32)), .unset, .unset, .unset, .unset, .unset, .unset, .unset] []))
      refine Goes.step (fun _ k => XS.lloadN X0.here hx rfl (hb hby at_12) rfl  k) ?_
      show Goes _ _ _ _ _ _ _ (s₁.setTop (mkF m 13 #[.val (.int p0), .val (.long p1), .second, .val (.int p2), .val (.int (3 : Int32)), .val (.int (1 : Int32)), .unset, .unset, .unset, .unset, .unset, .unset, .unset] [(.long p1)]))
      refine Goes.step (fun _ k => X0.ldc2Long hx hown (mvT hZ (hw _ (List.mem_of_getElem? (i := 0) rfl))) (g := (mkF m 13 #[.val (.int p0), .val (.long p1), .second, .val (.int p2), .val (.int (3 : Int32)), .val (.int (1 : Int32)), .unset, .unset, .unset, .unset, .unset, .unset, .unset] [(.long p1)])) rfl (hb hby at_13) _ k) ?_
      show Goes _ _ _ _ _ _ _ (s₁.setTop (mkF m 16 #[.val (.int p0), .val (.long p1), .second, .val (.int p2), .val (.int (3 : Int32)), .val (.int (1 : Int32)), .unset, .unset, .unset, .unset, .unset, .unset, .unset] [(.long (9223372036854775807 : Int64)), (.long p1)]))
      refine Goes.step (fun _ k => XS.land X0.here hx rfl (hb hby at_16) rfl k) ?_
      show Goes _ _ _ _ _ _ _ (s₁.setTop (mkF m 17 #[.val (.int p0), .val (.long p1), .second, .val (.int p2), .val (.int (3 : Int32)), .val (.int (1 : Int32)), .unset, .unset, .unset, .unset, .unset, .unset, .unset] [(.long (p1 &&& (9223372036854775807 : Int64)))]))
      refine Goes.step (fun _ k => XS.lstore X0.here hx rfl (hb hby at_17) rfl (l' := #[.val (.int p0), .val (.long p1), .second, .val (.int p2), .val (.int (3 : Int32)), .val (.int (1 : Int32)), .val (.long (p1 &&& (9223372036854775807 : Int64))), .second, .unset, .unset, .unset, .unset, .unset]) rfl k) ?_
      show Goes _ _ _ _ _ _ _ (s₁.setTop (mkF m 19 #[.val (.int p0), .val (.long p1), .second, .val (.int p2), .val (.int (3 : Int32)), .val (.int (1 : Int32)), .val (.long (p1 &&& (9223372036854775807 : Int64))), .second, .unset, .unset, .unset, .unset, .unset] []))
      generalize hg_u6 : (p1 &&& (9223372036854775807 : Int64)) = u6
      show Goes _ _ _ _ _ _ _ (s₁.setTop (mkF m 19 #[.val (.int p0), .val (.long p1), .second, .val (.int p2), .val (.int (3 : Int32)), .val (.int (1 : Int32)), .val (.long u6), .second, .unset, .unset, .unset, .unset, .unset] []))
      refine Goes.step (fun _ k => XS.iloadN X0.here hx rfl (hb hby at_19) rfl  k) ?_
      show Goes _ _ _ _ _ _ _ (s₁.setTop (mkF m 20 #[.val (.int p0), .val (.long p1), .second, .val (.int p2), .val (.int (3 : Int32)), .val (.int (1 : Int32)), .val (.long u6), .second, .unset, .unset, .unset, .unset, .unset] [(.int p2)]))
      refine Goes.step (fun _ k => XS.sipush X0.here hx rfl (hb hby at_20) k) ?_
      show Goes _ _ _ _ _ _ _ (s₁.setTop (mkF m 23 #[.val (.int p0), .val (.long p1), .second, .val (.int p2), .val (.int (3 : Int32)), .val (.int (1 : Int32)), .val (.long u6), .second, .unset, .unset, .unset, .unset, .unset] [(.int (255 : Int32)), (.int p2)]))
      refine Goes.step (fun _ k => XS.iand X0.here hx rfl (hb hby at_23) rfl k) ?_
      show Goes _ _ _ _ _ _ _ (s₁.setTop (mkF m 24 #[.val (.int p0), .val (.long p1), .second, .val (.int p2), .val (.int (3 : Int32)), .val (.int (1 : Int32)), .val (.long u6), .second, .unset, .unset, .unset, .unset, .unset] [(.int (p2 &&& (255 : Int32)))]))
      refine Goes.step (fun _ k => XS.i2c X0.here hx rfl (hb hby at_24) rfl k) ?_
      show Goes _ _ _ _ _ _ _ (s₁.setTop (mkF m 25 #[.val (.int p0), .val (.long p1), .second, .val (.int p2), .val (.int (3 : Int32)), .val (.int (1 : Int32)), .val (.long u6), .second, .unset, .unset, .unset, .unset, .unset] [(.int ((p2 &&& (255 : Int32)).toUInt32.toUInt16.toUInt32.toInt32))]))
      obtain ⟨_, _, ⟨T540, L540, k540, n540⟩, -, X540, ⟨Lc540, hQ540, l540, y540, z540⟩, st540⟩ := Jvm.LawKit.callS X0 hx (y := (⟨"java/lang/String", "valueOf", "(C)Ljava/lang/String;"⟩ : MethodName)) hown (mvT hZ (hw _ (List.mem_of_getElem? (i := 1) rfl))) (mvT hZ (hw _ (List.mem_of_getElem? (i := 2) rfl))) (mvT hZ (hw _ (List.mem_of_getElem? (i := 3) rfl))) (mvT hZ (hw _ (List.mem_of_getElem? (i := 4) rfl))) (by decide) (backOf (W := 0) (rm1 l Z a0 hw [] ((p2 &&& (255 : Int32)).toUInt32.toUInt16.toUInt32.toInt32) zC h0 n0 Z0 S_CS X00 P5 (own_char _)) hZ (hw _ (List.mem_of_getElem? (i := 4) rfl)) (hw _ (List.mem_of_getElem? (i := 3) rfl)) (by decide) (by decide)) (g := (mkF m 25 #[.val (.int p0), .val (.long p1), .second, .val (.int p2), .val (.int (3 : Int32)), .val (.int (1 : Int32)), .val (.long u6), .second, .unset, .unset, .unset, .unset, .unset] [(.int ((p2 &&& (255 : Int32)).toUInt32.toUInt16.toUInt32.toInt32))])) rfl (by rw [hml]; rfl) (argsL := [(.int ((p2 &&& (255 : Int32)).toUInt32.toUInt16.toUInt32.toInt32))]) (rest := []) (lenOf pd_0 rfl) rfl (by show 2 * 0 + _ ≤ _; exact Nat.le_of_eq rfl) (hb hby at_25) (fun _ _ => ⟨rfl, e0, (by decide : 0 + 2 ≤ _), (by decide : 0 + 5 ≤ _)⟩)
      dsimp only [Pt.U, Pt.locs, Pt.cells, Pt.slots] at X540 l540 y540 z540 st540 hQ540
      subst l540 y540 z540
      obtain ⟨N540, KK540, hR540⟩ := hQ540
      have NA540 := Fr.app N0 N540
      have XO541 : Old Z n0 T540.heap := X00.keep KK540 all0
      have f542 := V_de.keep KK540 nin0
      have K543 : Keep h0 T540.heap [] := K0.trans KK540 all0
      have Z543 : n0 ≤ T540.heap.size := Nat.le_trans Z0 KK540.1
      obtain ⟨r540_0_0, r540_0_1, kk540_0_0, rfl, u540_0_0, g_r540_0_0, le_r540_0_0, g_r540_0_1, le_r540_0_1, nn540_0_0, v540_0_0, v540_0_1, v540_0_2⟩ := hR540
      have ne544 : de ≠ r540_0_0 := Nat.ne_of_lt (Nat.lt_of_lt_of_le V_de.lt le_r540_0_0)
      have sz_r540_0_0 : h0.size ≤ r540_0_0 := Nat.le_trans K0.1 le_r540_0_0
      have ne545 : de ≠ r540_0_1 := Nat.ne_of_lt (Nat.lt_of_lt_of_le V_de.lt le_r540_0_1)
      have sz_r540_0_1 : h0.size ≤ r540_0_1 := Nat.le_trans K0.1 le_r540_0_1
      refine Goes.step st540 ?_
      show Goes _ _ _ _ _ _ _ (T540.setTop (mkF m 28 #[.val (.int p0), .val (.long p1), .second, .val (.int p2), .val (.int (3 : Int32)), .val (.int (1 : Int32)), .val (.long u6), .second, .unset, .unset, .unset, .unset, .unset] [(.ref r540_0_0)]))
      refine Goes.step (fun _ k => XS.astore X540.here hx rfl (hb hby at_28) rfl rfl (l' := #[.val (.int p0), .val (.long p1), .second, .val (.int p2), .val (.int (3 : Int32)), .val (.int (1 : Int32)), .val (.long u6), .second, .val (.ref r540_0_0), .unset, .unset, .unset, .unset]) rfl k) ?_
      show Goes _ _ _ _ _ _ _ (T540.setTop (mkF m 30 #[.val (.int p0), .val (.long p1), .second, .val (.int p2), .val (.int (3 : Int32)), .val (.int (1 : Int32)), .val (.long u6), .second, .val (.ref r540_0_0), .unset, .unset, .unset, .unset] []))
      obtain ⟨T546, h546, X546, e546, E546, A546, D546, -, st546⟩ := newO X540 hx hZ hown (hw _ (List.mem_of_getElem? (i := 27) rfl)) (hw _ (List.mem_of_getElem? (i := 28) rfl)) (hw _ (List.mem_of_getElem? (i := 29) rfl)) rfl (g := (mkF m 30 #[.val (.int p0), .val (.long p1), .second, .val (.int p2), .val (.int (3 : Int32)), .val (.int (1 : Int32)), .val (.long u6), .second, .val (.ref r540_0_0), .unset, .unset, .unset, .unset] [])) rfl (hb hby at_30) (by decide) (by decide)
      obtain ⟨b546, g546⟩ : ∃ z, z = T540.heap.size := ⟨_, rfl⟩
      rw [← g546] at A546 D546 st546
      refine Goes.step st546 ?_
      have g_b546 : n0 ≤ b546 := Nat.le_trans Z543 (Nat.le_of_eq g546.symm)
      have sz_b546 : h0.size ≤ b546 := Nat.le_trans K543.1 (Nat.le_of_eq g546.symm)
      have ne547 : de ≠ b546 := Nat.ne_of_lt (Nat.lt_of_lt_of_le f542.lt (Nat.le_of_eq g546.symm))
      have ne548 : r540_0_0 ≠ b546 := Nat.ne_of_lt (Nat.lt_of_lt_of_le v540_0_0.lt (Nat.le_of_eq g546.symm))
      have ne549 : r540_0_1 ≠ b546 := Nat.ne_of_lt (Nat.lt_of_lt_of_le v540_0_1.lt (Nat.le_of_eq g546.symm))
      have XO550 : Old Z n0 h546 := XO541.ext E546
      have f551 := f542.ext E546
      have f552 := v540_0_0.ext E546
      have f553 := v540_0_1.ext E546
      have f554 := v540_0_2.ext E546
      have K555 : Keep h0 h546 [] := K543.ext E546
      have Z555 : n0 ≤ h546.size := Nat.le_trans Z543 E546.1
      have E_b546 := A546
      have F_named_b546 : Fld Z h546 b546 "com/example/roles_to_grants/rolestogrants/input/ProblemList" "named" "Ljava/util/List;" .null := D546 (Or.inr (hw _ (List.mem_of_getElem? (i := 59) rfl))) (ty := (.object "java/util/List")) (by decide)
      have F_count_b546 : Fld Z h546 b546 "com/example/roles_to_grants/rolestogrants/input/ProblemList" "count" "J" (.long (0 : Int64)) := D546 (Or.inl (hw _ (List.mem_of_getElem? (i := 66) rfl))) (ty := .long) (by decide)
      show Goes _ _ _ _ _ _ _ (T546.setTop (mkF m 33 #[.val (.int p0), .val (.long p1), .second, .val (.int p2), .val (.int (3 : Int32)), .val (.int (1 : Int32)), .val (.long u6), .second, .val (.ref r540_0_0), .unset, .unset, .unset, .unset] [(.ref b546)]))
      refine Goes.step (fun _ k => XS.dup X546.here hx rfl (hb hby at_33) rfl rfl k) ?_
      show Goes _ _ _ _ _ _ _ (T546.setTop (mkF m 34 #[.val (.int p0), .val (.long p1), .second, .val (.int p2), .val (.int (3 : Int32)), .val (.int (1 : Int32)), .val (.long u6), .second, .val (.ref r540_0_0), .unset, .unset, .unset, .unset] [(.ref b546), (.ref b546)]))
      obtain ⟨_, _, ⟨T556, L556, k556, n556⟩, -, X556, ⟨Lc556, hQ556, l556, y556, z556⟩, st556⟩ := X546.specialBack hx (y := (⟨"com/example/roles_to_grants/rolestogrants/input/ProblemList", "<init>", "()V"⟩ : MethodName)) rfl hown (mvT hZ (hw _ (List.mem_of_getElem? (i := 30) rfl))) (mvT hZ (hw _ (List.mem_of_getElem? (i := 31) rfl))) (mvT hZ (hw _ (List.mem_of_getElem? (i := 32) rfl))) (by decide) (backOf (W := 1) (rm6 l Z a0 hw [] b546 de h546 n0 Z555 S_DE XO550 F_named_b546 F_count_b546 E_b546 g_b546) hZ (hw _ (List.mem_of_getElem? (i := 32) rfl)) (hw _ (List.mem_of_getElem? (i := 29) rfl)) (by decide) (by decide)) (g := (mkF m 34 #[.val (.int p0), .val (.long p1), .second, .val (.int p2), .val (.int (3 : Int32)), .val (.int (1 : Int32)), .val (.long u6), .second, .val (.ref r540_0_0), .unset, .unset, .unset, .unset] [(.ref b546), (.ref b546)])) rfl (by rw [hml]; rfl) (Steps.refl _) (a := b546) (argsL := []) (rest := [(.ref b546)]) (lenOf pd_4 rfl) rfl (by show 2 * 0 + _ ≤ _; exact Nat.le_of_eq rfl) (hb hby at_34) (fun _ _ => ⟨rfl, e546, (by decide : 3 + 1 ≤ _), (by decide : 7 + 3 ≤ _)⟩)
      dsimp only [Pt.U, Pt.locs, Pt.cells, Pt.slots] at X556 l556 y556 z556 st556 hQ556
      subst l556 y556 z556
      obtain ⟨N556, KK556, hR556⟩ := hQ556
      have NA556 := Fr.app NA540 N556
      have XO557 : Old Z n0 T556.heap := XO550.keep KK556 (allS g_b546 all0)
      have f558 := f551.keep KK556 (ninS ne547 nin0)
      have f559 := f552.keep KK556
      have f560 := f553.keep KK556 (ninS ne549 nin0)
      have f561 := f554.keep KK556 (ninS ne548 nin0)
      have f562 := E_b546.keep KK556
      have K565 : Keep h0 T556.heap [] := K555.trans KK556 (allS (Or.inr sz_b546) all0)
      have Z565 : n0 ≤ T556.heap.size := Nat.le_trans Z555 KK556.1
      obtain ⟨r556_0_0, rfl, g_r556_0_0, le_r556_0_0, v556_0_0, v556_0_1, v556_0_2, v556_0_3, v556_0_4, v556_0_5, v556_0_6⟩ := hR556
      have ne566 : de ≠ r556_0_0 := Nat.ne_of_lt (Nat.lt_of_lt_of_le f551.lt le_r556_0_0)
      have ne567 : r540_0_0 ≠ r556_0_0 := Nat.ne_of_lt (Nat.lt_of_lt_of_le f552.lt le_r556_0_0)
      have ne568 : r540_0_1 ≠ r556_0_0 := Nat.ne_of_lt (Nat.lt_of_lt_of_le f553.lt le_r556_0_0)
      have ne569 : b546 ≠ r556_0_0 := Nat.ne_of_lt (Nat.lt_of_lt_of_le E_b546.lt le_r556_0_0)
      have sz_r556_0_0 : h0.size ≤ r556_0_0 := Nat.le_trans K555.1 le_r556_0_0
      refine Goes.back st556 ?_
      show Goes _ _ _ _ _ _ _ (T556.setTop (mkF m 37 #[.val (.int p0), .val (.long p1), .second, .val (.int p2), .val (.int (3 : Int32)), .val (.int (1 : Int32)), .val (.long u6), .second, .val (.ref r540_0_0), .unset, .unset, .unset, .unset] [(.ref b546)]))
      refine Goes.step (fun _ k => XS.astore X556.here hx rfl (hb hby at_37) rfl rfl (l' := #[.val (.int p0), .val (.long p1), .second, .val (.int p2), .val (.int (3 : Int32)), .val (.int (1 : Int32)), .val (.long u6), .second, .val (.ref r540_0_0), .val (.ref b546), .unset, .unset, .unset]) rfl k) ?_
      show Goes _ _ _ _ _ _ _ (T556.setTop (mkF m 39 #[.val (.int p0), .val (.long p1), .second, .val (.int p2), .val (.int (3 : Int32)), .val (.int (1 : Int32)), .val (.long u6), .second, .val (.ref r540_0_0), .val (.ref b546), .unset, .unset, .unset] []))
      refine Goes.step (fun _ k => XS.aload X556.here hx rfl (hb hby at_39) rfl rfl k) ?_
      show Goes _ _ _ _ _ _ _ (T556.setTop (mkF m 41 #[.val (.int p0), .val (.long p1), .second, .val (.int p2), .val (.int (3 : Int32)), .val (.int (1 : Int32)), .val (.long u6), .second, .val (.ref r540_0_0), .val (.ref b546), .unset, .unset, .unset] [(.ref b546)]))
      obtain ⟨cq570, kq570, q570a, q570b, q570c⟩ := isOf hZ rfl v556_0_2
      obtain ⟨_, _, ⟨T570, L570, k570, n570⟩, -, X570, ⟨Lc570, hQ570, l570, y570, z570⟩, st570⟩ := X556.virtualBack hx (y := (⟨"com/example/roles_to_grants/rolestogrants/input/ProblemList", "isEmpty", "()Z"⟩ : MethodName)) (z := (⟨"com/example/roles_to_grants/rolestogrants/input/ProblemList", "isEmpty", "()Z"⟩ : MethodName)) hown (mvT hZ (hw _ (List.mem_of_getElem? (i := 60) rfl))) (mvT hZ (hw _ (List.mem_of_getElem? (i := 61) rfl))) (notFace_of_selects (args := #[]) (mvT hZ (hw _ (List.mem_of_getElem? (i := 63) rfl)))) (mvT hZ (hw _ (List.mem_of_getElem? (i := 63) rfl))) (mvT hZ (hw _ (List.mem_of_getElem? (i := 62) rfl))) (by decide) (backOf (W := 0) (rm10 l Z a0 hw [] b546 (0 : Int64) T556.heap n0 Z565 v556_0_1) hZ (hw _ (List.mem_of_getElem? (i := 64) rfl)) (hw _ (List.mem_of_getElem? (i := 29) rfl)) (by decide) (by decide)) q570a q570c (g := (mkF m 41 #[.val (.int p0), .val (.long p1), .second, .val (.int p2), .val (.int (3 : Int32)), .val (.int (1 : Int32)), .val (.long u6), .second, .val (.ref r540_0_0), .val (.ref b546), .unset, .unset, .unset] [(.ref b546)])) rfl (by rw [hml]; rfl) (Steps.refl _) (argsL := []) (rest := []) (lenOf pd_5 rfl) rfl (by show 2 * 0 + _ ≤ _; exact Nat.le_of_eq rfl) (hb hby at_41) (fun _ _ => ⟨rfl, rfl, (by decide : 4 + 0 ≤ _), (by decide : 10 + 0 ≤ _)⟩)
      dsimp only [Pt.U, Pt.locs, Pt.cells, Pt.slots] at X570 l570 y570 z570 st570 hQ570
      subst l570 y570 z570
      obtain ⟨N570, eh570, hR570⟩ := hQ570
      have NA570 := Fr.app NA556 N570
      rcases hR570 with ⟨rfl, u570_0_0⟩ | ⟨rfl, u570_1_0⟩
      · refine Goes.back st570 ?_
        show Goes _ _ _ _ _ _ _ (T570.setTop (mkF m 44 #[.val (.int p0), .val (.long p1), .second, .val (.int p2), .val (.int (3 : Int32)), .val (.int (1 : Int32)), .val (.long u6), .second, .val (.ref r540_0_0), .val (.ref b546), .unset, .unset, .unset] [(.int (1 : Int32))]))
        refine Goes.step (fun _ k => XS.istore X570.here hx rfl (hb hby at_44) rfl (l' := #[.val (.int p0), .val (.long p1), .second, .val (.int p2), .val (.int (3 : Int32)), .val (.int (1 : Int32)), .val (.long u6), .second, .val (.ref r540_0_0), .val (.ref b546), .val (.int (1 : Int32)), .unset, .unset]) rfl k) ?_
        show Goes _ _ _ _ _ _ _ (T570.setTop (mkF m 46 #[.val (.int p0), .val (.long p1), .second, .val (.int p2), .val (.int (3 : Int32)), .val (.int (1 : Int32)), .val (.long u6), .second, .val (.ref r540_0_0), .val (.ref b546), .val (.int (1 : Int32)), .unset, .unset] []))
        refine Goes.step (fun _ k => XS.iload X570.here hx rfl (hb hby at_46) rfl  k) ?_
        show Goes _ _ _ _ _ _ _ (T570.setTop (mkF m 48 #[.val (.int p0), .val (.long p1), .second, .val (.int p2), .val (.int (3 : Int32)), .val (.int (1 : Int32)), .val (.long u6), .second, .val (.ref r540_0_0), .val (.ref b546), .val (.int (1 : Int32)), .unset, .unset] [(.int (3 : Int32))]))
        refine Goes.step (fun _ k => XS.iconst X570.here hx rfl (hb hby at_48) k) ?_
        show Goes _ _ _ _ _ _ _ (T570.setTop (mkF m 49 #[.val (.int p0), .val (.long p1), .second, .val (.int p2), .val (.int (3 : Int32)), .val (.int (1 : Int32)), .val (.long u6), .second, .val (.ref r540_0_0), .val (.ref b546), .val (.int (1 : Int32)), .unset, .unset] [(.int (1 : Int32)), (.int (3 : Int32))]))
        refine Goes.step (fun _ k => XS.icmpNo X570.here hx rfl (hb hby at_49) rfl (flt (by decide : ¬ ((3 : Int32) < (1 : Int32)))).1 k) ?_
        show Goes _ _ _ _ _ _ _ (T570.setTop (mkF m 52 #[.val (.int p0), .val (.long p1), .second, .val (.int p2), .val (.int (3 : Int32)), .val (.int (1 : Int32)), .val (.long u6), .second, .val (.ref r540_0_0), .val (.ref b546), .val (.int (1 : Int32)), .unset, .unset] []))
        refine Goes.step (fun _ k => XS.aload X570.here hx rfl (hb hby at_52) rfl rfl k) ?_
        show Goes _ _ _ _ _ _ _ (T570.setTop (mkF m 54 #[.val (.int p0), .val (.long p1), .second, .val (.int p2), .val (.int (3 : Int32)), .val (.int (1 : Int32)), .val (.long u6), .second, .val (.ref r540_0_0), .val (.ref b546), .val (.int (1 : Int32)), .unset, .unset] [(.ref b546)]))
        refine Goes.step (fun _ k => XS.aload X570.here hx rfl (hb hby at_54) rfl rfl k) ?_
        show Goes _ _ _ _ _ _ _ (T570.setTop (mkF m 56 #[.val (.int p0), .val (.long p1), .second, .val (.int p2), .val (.int (3 : Int32)), .val (.int (1 : Int32)), .val (.long u6), .second, .val (.ref r540_0_0), .val (.ref b546), .val (.int (1 : Int32)), .unset, .unset] [(.ref r540_0_0), (.ref b546)]))
        obtain ⟨cq571, kq571, q571a, q571b, q571c⟩ := isOf hZ eh570 v556_0_2
        obtain ⟨_, _, ⟨T571, L571, k571, n571⟩, -, X571, ⟨Lc571, hQ571, l571, y571, z571⟩, st571⟩ := X570.virtualBack hx (y := (⟨"com/example/roles_to_grants/rolestogrants/input/ProblemList", "add", "(Ljava/lang/String;)V"⟩ : MethodName)) (z := (⟨"com/example/roles_to_grants/rolestogrants/input/ProblemList", "add", "(Ljava/lang/String;)V"⟩ : MethodName)) hown (mvT hZ (hw _ (List.mem_of_getElem? (i := 72) rfl))) (mvT hZ (hw _ (List.mem_of_getElem? (i := 73) rfl))) (notFace_of_selects (args := #[]) (mvT hZ (hw _ (List.mem_of_getElem? (i := 75) rfl)))) (mvT hZ (hw _ (List.mem_of_getElem? (i := 75) rfl))) (mvT hZ (hw _ (List.mem_of_getElem? (i := 74) rfl))) (by decide) (backOf (W := 0) (rm12_0 l Z a0 hw [] b546 r540_0_0 de r556_0_0 (0 : Int64) (0 : Int32) kde T556.heap n0 Z565 S_DE XO557 v556_0_0 v556_0_1 v556_0_4 v556_0_5 v556_0_6 v556_0_2 v556_0_3 f559 f558 g_b546 g_r556_0_0 ne547 ne566 ne569) hZ (hw _ (List.mem_of_getElem? (i := 76) rfl)) (hw _ (List.mem_of_getElem? (i := 29) rfl)) (by decide) (by decide)) q571a q571c (g := (mkF m 56 #[.val (.int p0), .val (.long p1), .second, .val (.int p2), .val (.int (3 : Int32)), .val (.int (1 : Int32)), .val (.long u6), .second, .val (.ref r540_0_0), .val (.ref b546), .val (.int (1 : Int32)), .unset, .unset] [(.ref r540_0_0), (.ref b546)])) rfl (by rw [hml]; rfl) (Steps.refl _) (argsL := [(.ref r540_0_0)]) (rest := []) (lenOf pd_7 rfl) rfl (by show 2 * 0 + _ ≤ _; exact Nat.le_of_eq rfl) (hb hby at_56) (fun _ _ => ⟨rfl, eh570, (by decide : 4 + 1 ≤ _), (by decide : 10 + 10 ≤ _)⟩)
        dsimp only [Pt.U, Pt.locs, Pt.cells, Pt.slots] at X571 l571 y571 z571 st571 hQ571
        subst l571 y571 z571
        obtain ⟨N571, KK571, hR571⟩ := hQ571
        have NA571 := Fr.app NA570 N571
        have XO572 : Old Z n0 T571.heap := XO557.keep KK571 (allS g_b546 (allS g_r556_0_0 all0))
        have f573 := f558.keep KK571 (ninS ne547 (ninS ne566 nin0))
        have f574 := f559.keep KK571
        have f575 := f560.keep KK571 (ninS ne549 (ninS ne568 nin0))
        have f576 := f561.keep KK571 (ninS ne548 (ninS ne567 nin0))
        have f577 := v556_0_2.keep KK571
        have f580 := v556_0_3.keep KK571
        have K584 : Keep h0 T571.heap [] := K565.trans KK571 (allS (Or.inr sz_b546) (allS (Or.inr sz_r556_0_0) all0))
        have Z584 : n0 ≤ T571.heap.size := Nat.le_trans Z565 KK571.1
        obtain ⟨r571_0_0, kk571_0_0, rfl, g_r571_0_0, le_r571_0_0, v571_0_0, v571_0_1, v571_0_2, v571_0_3, v571_0_4, v571_0_5, v571_0_6, v571_0_7, oo571_0_0⟩ := hR571
        have ne585 : de ≠ r571_0_0 := Nat.ne_of_lt (Nat.lt_of_lt_of_le f558.lt le_r571_0_0)
        have ne586 : r540_0_0 ≠ r571_0_0 := Nat.ne_of_lt (Nat.lt_of_lt_of_le f559.lt le_r571_0_0)
        have ne587 : r540_0_1 ≠ r571_0_0 := Nat.ne_of_lt (Nat.lt_of_lt_of_le f560.lt le_r571_0_0)
        have ne588 : b546 ≠ r571_0_0 := Nat.ne_of_lt (Nat.lt_of_lt_of_le v556_0_2.lt le_r571_0_0)
        have ne589 : r556_0_0 ≠ r571_0_0 := Nat.ne_of_lt (Nat.lt_of_lt_of_le v556_0_3.lt le_r571_0_0)
        have sz_r571_0_0 : h0.size ≤ r571_0_0 := Nat.le_trans K565.1 le_r571_0_0
        refine Goes.back st571 ?_
        show Goes _ _ _ _ _ _ _ (T571.setTop (mkF m 59 #[.val (.int p0), .val (.long p1), .second, .val (.int p2), .val (.int (3 : Int32)), .val (.int (1 : Int32)), .val (.long u6), .second, .val (.ref r540_0_0), .val (.ref b546), .val (.int (1 : Int32)), .unset, .unset] []))
        refine Goes.step (fun _ k => XS.iload X571.here hx rfl (hb hby at_59) rfl  k) ?_
        show Goes _ _ _ _ _ _ _ (T571.setTop (mkF m 61 #[.val (.int p0), .val (.long p1), .second, .val (.int p2), .val (.int (3 : Int32)), .val (.int (1 : Int32)), .val (.long u6), .second, .val (.ref r540_0_0), .val (.ref b546), .val (.int (1 : Int32)), .unset, .unset] [(.int (3 : Int32))]))
        refine Goes.step (fun _ k => XS.iconst X571.here hx rfl (hb hby at_61) k) ?_
        show Goes _ _ _ _ _ _ _ (T571.setTop (mkF m 62 #[.val (.int p0), .val (.long p1), .second, .val (.int p2), .val (.int (3 : Int32)), .val (.int (1 : Int32)), .val (.long u6), .second, .val (.ref r540_0_0), .val (.ref b546), .val (.int (1 : Int32)), .unset, .unset] [(.int (2 : Int32)), (.int (3 : Int32))]))
        refine Goes.step (fun _ k => XS.icmpNo X571.here hx rfl (hb hby at_62) rfl (flt (by decide : ¬ ((3 : Int32) < (2 : Int32)))).1 k) ?_
        show Goes _ _ _ _ _ _ _ (T571.setTop (mkF m 65 #[.val (.int p0), .val (.long p1), .second, .val (.int p2), .val (.int (3 : Int32)), .val (.int (1 : Int32)), .val (.long u6), .second, .val (.ref r540_0_0), .val (.ref b546), .val (.int (1 : Int32)), .unset, .unset] []))
        refine Goes.step (fun _ k => XS.aload X571.here hx rfl (hb hby at_65) rfl rfl k) ?_
        show Goes _ _ _ _ _ _ _ (T571.setTop (mkF m 67 #[.val (.int p0), .val (.long p1), .second, .val (.int p2), .val (.int (3 : Int32)), .val (.int (1 : Int32)), .val (.long u6), .second, .val (.ref r540_0_0), .val (.ref b546), .val (.int (1 : Int32)), .unset, .unset] [(.ref b546)]))
        refine Goes.step (fun _ k => XS.aload X571.here hx rfl (hb hby at_67) rfl rfl k) ?_
        show Goes _ _ _ _ _ _ _ (T571.setTop (mkF m 69 #[.val (.int p0), .val (.long p1), .second, .val (.int p2), .val (.int (3 : Int32)), .val (.int (1 : Int32)), .val (.long u6), .second, .val (.ref r540_0_0), .val (.ref b546), .val (.int (1 : Int32)), .unset, .unset] [(.ref r540_0_0), (.ref b546)]))
        obtain ⟨cq590, kq590, q590a, q590b, q590c⟩ := isOf hZ rfl v571_0_2
        obtain ⟨_, _, ⟨T590, L590, k590, n590⟩, -, X590, ⟨Lc590, hQ590, l590, y590, z590⟩, st590⟩ := X571.virtualBack hx (y := (⟨"com/example/roles_to_grants/rolestogrants/input/ProblemList", "add", "(Ljava/lang/String;)V"⟩ : MethodName)) (z := (⟨"com/example/roles_to_grants/rolestogrants/input/ProblemList", "add", "(Ljava/lang/String;)V"⟩ : MethodName)) hown (mvT hZ (hw _ (List.mem_of_getElem? (i := 72) rfl))) (mvT hZ (hw _ (List.mem_of_getElem? (i := 73) rfl))) (notFace_of_selects (args := #[]) (mvT hZ (hw _ (List.mem_of_getElem? (i := 75) rfl)))) (mvT hZ (hw _ (List.mem_of_getElem? (i := 75) rfl))) (mvT hZ (hw _ (List.mem_of_getElem? (i := 74) rfl))) (by decide) (backOf (W := 0) (rm12_1 l Z a0 hw [] b546 r540_0_0 r556_0_0 (1 : Int64) (1 : Int32) r571_0_0 kk571_0_0 T571.heap n0 Z584 v571_0_0 v571_0_1 v571_0_4 v571_0_5 v571_0_6 v571_0_2 v571_0_3 f574 (own_arx v571_0_7) oo571_0_0 g_b546 g_r556_0_0 g_r571_0_0 (Ne.symm ne588) (Ne.symm ne589) ne569) hZ (hw _ (List.mem_of_getElem? (i := 76) rfl)) (hw _ (List.mem_of_getElem? (i := 29) rfl)) (by decide) (by decide)) q590a q590c (g := (mkF m 69 #[.val (.int p0), .val (.long p1), .second, .val (.int p2), .val (.int (3 : Int32)), .val (.int (1 : Int32)), .val (.long u6), .second, .val (.ref r540_0_0), .val (.ref b546), .val (.int (1 : Int32)), .unset, .unset] [(.ref r540_0_0), (.ref b546)])) rfl (by rw [hml]; rfl) (Steps.refl _) (argsL := [(.ref r540_0_0)]) (rest := []) (lenOf pd_7 rfl) rfl (by show 2 * 0 + _ ≤ _; exact Nat.le_of_eq rfl) (hb hby at_69) (fun _ _ => ⟨rfl, rfl, (by decide : 5 + 0 ≤ _), (by decide : 20 + 0 ≤ _)⟩)
        dsimp only [Pt.U, Pt.locs, Pt.cells, Pt.slots] at X590 l590 y590 z590 st590 hQ590
        subst l590 y590 z590
        obtain ⟨N590, KK590, hR590⟩ := hQ590
        have NA590 := Fr.app NA571 N590
        have XO591 : Old Z n0 T590.heap := XO572.keep KK590 (allS g_b546 (allS g_r556_0_0 (allS g_r571_0_0 all0)))
        have f592 := f573.keep KK590 (ninS ne547 (ninS ne566 (ninS ne585 nin0)))
        have f593 := f574.keep KK590
        have f594 := f575.keep KK590 (ninS ne549 (ninS ne568 (ninS ne587 nin0)))
        have f595 := f576.keep KK590 (ninS ne548 (ninS ne567 (ninS ne586 nin0)))
        have f596 := v571_0_2.keep KK590
        have f597 := v571_0_3.keep KK590
        have K604 : Keep h0 T590.heap [] := K584.trans KK590 (allS (Or.inr sz_b546) (allS (Or.inr sz_r556_0_0) (allS (Or.inr sz_r571_0_0) all0)))
        have Z604 : n0 ≤ T590.heap.size := Nat.le_trans Z584 KK590.1
        obtain ⟨rfl, v590_0_0, v590_0_1, v590_0_2, v590_0_3, v590_0_4, v590_0_5, v590_0_6, v590_0_7⟩ := hR590
        refine Goes.back st590 ?_
        show Goes _ _ _ _ _ _ _ (T590.setTop (mkF m 72 #[.val (.int p0), .val (.long p1), .second, .val (.int p2), .val (.int (3 : Int32)), .val (.int (1 : Int32)), .val (.long u6), .second, .val (.ref r540_0_0), .val (.ref b546), .val (.int (1 : Int32)), .unset, .unset] []))
        refine Goes.step (fun _ k => XS.iload X590.here hx rfl (hb hby at_72) rfl  k) ?_
        show Goes _ _ _ _ _ _ _ (T590.setTop (mkF m 74 #[.val (.int p0), .val (.long p1), .second, .val (.int p2), .val (.int (3 : Int32)), .val (.int (1 : Int32)), .val (.long u6), .second, .val (.ref r540_0_0), .val (.ref b546), .val (.int (1 : Int32)), .unset, .unset] [(.int (3 : Int32))]))
        refine Goes.step (fun _ k => XS.iconst X590.here hx rfl (hb hby at_74) k) ?_
        show Goes _ _ _ _ _ _ _ (T590.setTop (mkF m 75 #[.val (.int p0), .val (.long p1), .second, .val (.int p2), .val (.int (3 : Int32)), .val (.int (1 : Int32)), .val (.long u6), .second, .val (.ref r540_0_0), .val (.ref b546), .val (.int (1 : Int32)), .unset, .unset] [(.int (3 : Int32)), (.int (3 : Int32))]))
        refine Goes.step (fun _ k => XS.icmpNo X590.here hx rfl (hb hby at_75) rfl (flt (by decide : ¬ ((3 : Int32) < (3 : Int32)))).1 k) ?_
        show Goes _ _ _ _ _ _ _ (T590.setTop (mkF m 78 #[.val (.int p0), .val (.long p1), .second, .val (.int p2), .val (.int (3 : Int32)), .val (.int (1 : Int32)), .val (.long u6), .second, .val (.ref r540_0_0), .val (.ref b546), .val (.int (1 : Int32)), .unset, .unset] []))
        refine Goes.step (fun _ k => XS.aload X590.here hx rfl (hb hby at_78) rfl rfl k) ?_
        show Goes _ _ _ _ _ _ _ (T590.setTop (mkF m 80 #[.val (.int p0), .val (.long p1), .second, .val (.int p2), .val (.int (3 : Int32)), .val (.int (1 : Int32)), .val (.long u6), .second, .val (.ref r540_0_0), .val (.ref b546), .val (.int (1 : Int32)), .unset, .unset] [(.ref b546)]))
        refine Goes.step (fun _ k => XS.aload X590.here hx rfl (hb hby at_80) rfl rfl k) ?_
        show Goes _ _ _ _ _ _ _ (T590.setTop (mkF m 82 #[.val (.int p0), .val (.long p1), .second, .val (.int p2), .val (.int (3 : Int32)), .val (.int (1 : Int32)), .val (.long u6), .second, .val (.ref r540_0_0), .val (.ref b546), .val (.int (1 : Int32)), .unset, .unset] [(.ref r540_0_0), (.ref b546)]))
        obtain ⟨cq605, kq605, q605a, q605b, q605c⟩ := isOf hZ rfl v590_0_2
        obtain ⟨_, _, ⟨T605, L605, k605, n605⟩, -, X605, ⟨Lc605, hQ605, l605, y605, z605⟩, st605⟩ := X590.virtualBack hx (y := (⟨"com/example/roles_to_grants/rolestogrants/input/ProblemList", "add", "(Ljava/lang/String;)V"⟩ : MethodName)) (z := (⟨"com/example/roles_to_grants/rolestogrants/input/ProblemList", "add", "(Ljava/lang/String;)V"⟩ : MethodName)) hown (mvT hZ (hw _ (List.mem_of_getElem? (i := 72) rfl))) (mvT hZ (hw _ (List.mem_of_getElem? (i := 73) rfl))) (notFace_of_selects (args := #[]) (mvT hZ (hw _ (List.mem_of_getElem? (i := 75) rfl)))) (mvT hZ (hw _ (List.mem_of_getElem? (i := 75) rfl))) (mvT hZ (hw _ (List.mem_of_getElem? (i := 74) rfl))) (by decide) (backOf (W := 0) (rm12_2 l Z a0 hw [] b546 r540_0_0 r556_0_0 (2 : Int64) (2 : Int32) r571_0_0 kk571_0_0 T590.heap n0 Z604 v590_0_0 v590_0_1 v590_0_4 v590_0_5 v590_0_6 v590_0_2 v590_0_3 f593 v590_0_7 oo571_0_0 g_b546 g_r556_0_0 g_r571_0_0 (Ne.symm ne588) (Ne.symm ne589) ne569) hZ (hw _ (List.mem_of_getElem? (i := 76) rfl)) (hw _ (List.mem_of_getElem? (i := 29) rfl)) (by decide) (by decide)) q605a q605c (g := (mkF m 82 #[.val (.int p0), .val (.long p1), .second, .val (.int p2), .val (.int (3 : Int32)), .val (.int (1 : Int32)), .val (.long u6), .second, .val (.ref r540_0_0), .val (.ref b546), .val (.int (1 : Int32)), .unset, .unset] [(.ref r540_0_0), (.ref b546)])) rfl (by rw [hml]; rfl) (Steps.refl _) (argsL := [(.ref r540_0_0)]) (rest := []) (lenOf pd_7 rfl) rfl (by show 2 * 0 + _ ≤ _; exact Nat.le_of_eq rfl) (hb hby at_82) (fun _ _ => ⟨rfl, rfl, (by decide : 5 + 0 ≤ _), (by decide : 20 + 0 ≤ _)⟩)
        dsimp only [Pt.U, Pt.locs, Pt.cells, Pt.slots] at X605 l605 y605 z605 st605 hQ605
        subst l605 y605 z605
        obtain ⟨N605, KK605, hR605⟩ := hQ605
        have NA605 := Fr.app NA590 N605
        have XO606 : Old Z n0 T605.heap := XO591.keep KK605 (allS g_b546 (allS g_r556_0_0 (allS g_r571_0_0 all0)))
        have f607 := f592.keep KK605 (ninS ne547 (ninS ne566 (ninS ne585 nin0)))
        have f608 := f593.keep KK605
        have f609 := f594.keep KK605 (ninS ne549 (ninS ne568 (ninS ne587 nin0)))
        have f610 := f595.keep KK605 (ninS ne548 (ninS ne567 (ninS ne586 nin0)))
        have f611 := v590_0_2.keep KK605
        have f612 := v590_0_3.keep KK605
        have K619 : Keep h0 T605.heap [] := K604.trans KK605 (allS (Or.inr sz_b546) (allS (Or.inr sz_r556_0_0) (allS (Or.inr sz_r571_0_0) all0)))
        have Z619 : n0 ≤ T605.heap.size := Nat.le_trans Z604 KK605.1
        obtain ⟨rfl, v605_0_0, v605_0_1, v605_0_2, v605_0_3, v605_0_4, v605_0_5, v605_0_6, v605_0_7⟩ := hR605
        refine Goes.back st605 ?_
        show Goes _ _ _ _ _ _ _ (T605.setTop (mkF m 85 #[.val (.int p0), .val (.long p1), .second, .val (.int p2), .val (.int (3 : Int32)), .val (.int (1 : Int32)), .val (.long u6), .second, .val (.ref r540_0_0), .val (.ref b546), .val (.int (1 : Int32)), .unset, .unset] []))
        refine Goes.step (fun _ k => XS.aload X605.here hx rfl (hb hby at_85) rfl rfl k) ?_
        show Goes _ _ _ _ _ _ _ (T605.setTop (mkF m 87 #[.val (.int p0), .val (.long p1), .second, .val (.int p2), .val (.int (3 : Int32)), .val (.int (1 : Int32)), .val (.long u6), .second, .val (.ref r540_0_0), .val (.ref b546), .val (.int (1 : Int32)), .unset, .unset] [(.ref b546)]))
        obtain ⟨cq620, kq620, q620a, q620b, q620c⟩ := isOf hZ rfl v605_0_2
        obtain ⟨_, _, ⟨T620, L620, k620, n620⟩, -, X620, ⟨Lc620, hQ620, l620, y620, z620⟩, st620⟩ := X605.virtualBack hx (y := (⟨"com/example/roles_to_grants/rolestogrants/input/ProblemList", "isEmpty", "()Z"⟩ : MethodName)) (z := (⟨"com/example/roles_to_grants/rolestogrants/input/ProblemList", "isEmpty", "()Z"⟩ : MethodName)) hown (mvT hZ (hw _ (List.mem_of_getElem? (i := 60) rfl))) (mvT hZ (hw _ (List.mem_of_getElem? (i := 61) rfl))) (notFace_of_selects (args := #[]) (mvT hZ (hw _ (List.mem_of_getElem? (i := 63) rfl)))) (mvT hZ (hw _ (List.mem_of_getElem? (i := 63) rfl))) (mvT hZ (hw _ (List.mem_of_getElem? (i := 62) rfl))) (by decide) (backOf (W := 0) (rm10 l Z a0 hw [] b546 (3 : Int64) T605.heap n0 Z619 v605_0_1) hZ (hw _ (List.mem_of_getElem? (i := 64) rfl)) (hw _ (List.mem_of_getElem? (i := 29) rfl)) (by decide) (by decide)) q620a q620c (g := (mkF m 87 #[.val (.int p0), .val (.long p1), .second, .val (.int p2), .val (.int (3 : Int32)), .val (.int (1 : Int32)), .val (.long u6), .second, .val (.ref r540_0_0), .val (.ref b546), .val (.int (1 : Int32)), .unset, .unset] [(.ref b546)])) rfl (by rw [hml]; rfl) (Steps.refl _) (argsL := []) (rest := []) (lenOf pd_5 rfl) rfl (by show 2 * 0 + _ ≤ _; exact Nat.le_of_eq rfl) (hb hby at_87) (fun _ _ => ⟨rfl, rfl, (by decide : 5 + 0 ≤ _), (by decide : 20 + 0 ≤ _)⟩)
        dsimp only [Pt.U, Pt.locs, Pt.cells, Pt.slots] at X620 l620 y620 z620 st620 hQ620
        subst l620 y620 z620
        obtain ⟨N620, eh620, hR620⟩ := hQ620
        have NA620 := Fr.app NA605 N620
        rcases hR620 with ⟨rfl, u620_0_0⟩ | ⟨rfl, u620_1_0⟩
        · exact absurd u620_0_0 (by decide : ¬ ((3 : Int64) = (0 : Int64)))
        · refine Goes.back st620 ?_
          show Goes _ _ _ _ _ _ _ (T620.setTop (mkF m 90 #[.val (.int p0), .val (.long p1), .second, .val (.int p2), .val (.int (3 : Int32)), .val (.int (1 : Int32)), .val (.long u6), .second, .val (.ref r540_0_0), .val (.ref b546), .val (.int (1 : Int32)), .unset, .unset] [(.int (0 : Int32))]))
          refine Goes.step (fun _ k => XS.istore X620.here hx rfl (hb hby at_90) rfl (l' := #[.val (.int p0), .val (.long p1), .second, .val (.int p2), .val (.int (3 : Int32)), .val (.int (1 : Int32)), .val (.long u6), .second, .val (.ref r540_0_0), .val (.ref b546), .val (.int (1 : Int32)), .val (.int (0 : Int32)), .unset]) rfl k) ?_
          show Goes _ _ _ _ _ _ _ (T620.setTop (mkF m 92 #[.val (.int p0), .val (.long p1), .second, .val (.int p2), .val (.int (3 : Int32)), .val (.int (1 : Int32)), .val (.long u6), .second, .val (.ref r540_0_0), .val (.ref b546), .val (.int (1 : Int32)), .val (.int (0 : Int32)), .unset] []))
          refine Goes.step (fun _ k => XS.aload X620.here hx rfl (hb hby at_92) rfl rfl k) ?_
          show Goes _ _ _ _ _ _ _ (T620.setTop (mkF m 94 #[.val (.int p0), .val (.long p1), .second, .val (.int p2), .val (.int (3 : Int32)), .val (.int (1 : Int32)), .val (.long u6), .second, .val (.ref r540_0_0), .val (.ref b546), .val (.int (1 : Int32)), .val (.int (0 : Int32)), .unset] [(.ref b546)]))
          refine Goes.step (fun _ k => XS.lload X620.here hx rfl (hb hby at_94) rfl  k) ?_
          show Goes _ _ _ _ _ _ _ (T620.setTop (mkF m 96 #[.val (.int p0), .val (.long p1), .second, .val (.int p2), .val (.int (3 : Int32)), .val (.int (1 : Int32)), .val (.long u6), .second, .val (.ref r540_0_0), .val (.ref b546), .val (.int (1 : Int32)), .val (.int (0 : Int32)), .unset] [(.long u6), (.ref b546)]))
          obtain ⟨cq621, kq621, q621a, q621b, q621c⟩ := isOf hZ eh620 v605_0_2
          obtain ⟨_, _, ⟨T621, L621, k621, n621⟩, -, X621, ⟨Lc621, hQ621, l621, y621, z621⟩, st621⟩ := X620.virtualBack hx (y := (⟨"com/example/roles_to_grants/rolestogrants/input/ProblemList", "addUnnamed", "(J)V"⟩ : MethodName)) (z := (⟨"com/example/roles_to_grants/rolestogrants/input/ProblemList", "addUnnamed", "(J)V"⟩ : MethodName)) hown (mvT hZ (hw _ (List.mem_of_getElem? (i := 67) rfl))) (mvT hZ (hw _ (List.mem_of_getElem? (i := 68) rfl))) (notFace_of_selects (args := #[]) (mvT hZ (hw _ (List.mem_of_getElem? (i := 70) rfl)))) (mvT hZ (hw _ (List.mem_of_getElem? (i := 70) rfl))) (mvT hZ (hw _ (List.mem_of_getElem? (i := 69) rfl))) (by decide) (backOf (W := 0) (rm11 l Z a0 hw [] b546 u6 r556_0_0 (3 : Int64) T605.heap n0 Z619 v605_0_0 v605_0_1 v605_0_2 g_b546) hZ (hw _ (List.mem_of_getElem? (i := 71) rfl)) (hw _ (List.mem_of_getElem? (i := 29) rfl)) (by decide) (by decide)) q621a q621c (g := (mkF m 96 #[.val (.int p0), .val (.long p1), .second, .val (.int p2), .val (.int (3 : Int32)), .val (.int (1 : Int32)), .val (.long u6), .second, .val (.ref r540_0_0), .val (.ref b546), .val (.int (1 : Int32)), .val (.int (0 : Int32)), .unset] [(.long u6), (.ref b546)])) rfl (by rw [hml]; rfl) (Steps.refl _) (argsL := [(.long u6)]) (rest := []) (lenOf pd_6 rfl) rfl (by show 2 * 0 + _ ≤ _; exact Nat.le_of_eq rfl) (hb hby at_96) (fun _ _ => ⟨rfl, eh620, (by decide : 5 + 0 ≤ _), (by decide : 20 + 0 ≤ _)⟩)
          dsimp only [Pt.U, Pt.locs, Pt.cells, Pt.slots] at X621 l621 y621 z621 st621 hQ621
          subst l621 y621 z621
          obtain ⟨N621, KK621, hR621⟩ := hQ621
          have NA621 := Fr.app NA620 N621
          have XO622 : Old Z n0 T621.heap := XO606.keep KK621 (allS g_b546 all0)
          have f623 := f607.keep KK621 (ninS ne547 nin0)
          have f624 := f608.keep KK621
          have f625 := f609.keep KK621 (ninS ne549 nin0)
          have f626 := f610.keep KK621 (ninS ne548 nin0)
          have f627 := v605_0_2.keep KK621
          have f628 := v605_0_3.keep KK621
          have f631 := v605_0_4.keep KK621 (ninS (Ne.symm ne569) nin0)
          have f632 := v605_0_5.keep KK621 (ninS (Ne.symm ne569) nin0)
          have f633 := v605_0_6.keep KK621 (ninS (Ne.symm ne569) nin0)
          have f634 := v605_0_7.keep KK621 (ninS (Ne.symm ne588) nin0)
          have K635 : Keep h0 T621.heap [] := K619.trans KK621 (allS (Or.inr sz_b546) all0)
          have Z635 : n0 ≤ T621.heap.size := Nat.le_trans Z619 KK621.1
          obtain ⟨rfl, v621_0_0, v621_0_1, v621_0_2⟩ := hR621
          refine Goes.back st621 ?_
          show Goes _ _ _ _ _ _ _ (T621.setTop (mkF m 99 #[.val (.int p0), .val (.long p1), .second, .val (.int p2), .val (.int (3 : Int32)), .val (.int (1 : Int32)), .val (.long u6), .second, .val (.ref r540_0_0), .val (.ref b546), .val (.int (1 : Int32)), .val (.int (0 : Int32)), .unset] []))
          refine Goes.step (fun _ k => XS.iload X621.here hx rfl (hb hby at_99) rfl  k) ?_
          show Goes _ _ _ _ _ _ _ (T621.setTop (mkF m 101 #[.val (.int p0), .val (.long p1), .second, .val (.int p2), .val (.int (3 : Int32)), .val (.int (1 : Int32)), .val (.long u6), .second, .val (.ref r540_0_0), .val (.ref b546), .val (.int (1 : Int32)), .val (.int (0 : Int32)), .unset] [(.int (1 : Int32))]))
          refine Goes.step (fun _ k => XS.iconst X621.here hx rfl (hb hby at_101) k) ?_
          show Goes _ _ _ _ _ _ _ (T621.setTop (mkF m 102 #[.val (.int p0), .val (.long p1), .second, .val (.int p2), .val (.int (3 : Int32)), .val (.int (1 : Int32)), .val (.long u6), .second, .val (.ref r540_0_0), .val (.ref b546), .val (.int (1 : Int32)), .val (.int (0 : Int32)), .unset] [(.int (1 : Int32)), (.int (1 : Int32))]))
          refine Goes.step (fun _ k => XS.icmpNo X621.here hx rfl (hb hby at_102) rfl (teq (by decide : (1 : Int32) = (1 : Int32))).2 k) ?_
          show Goes _ _ _ _ _ _ _ (T621.setTop (mkF m 105 #[.val (.int p0), .val (.long p1), .second, .val (.int p2), .val (.int (3 : Int32)), .val (.int (1 : Int32)), .val (.long u6), .second, .val (.ref r540_0_0), .val (.ref b546), .val (.int (1 : Int32)), .val (.int (0 : Int32)), .unset] []))
          refine Goes.step (fun _ k => XS.aload X621.here hx rfl (hb hby at_105) rfl rfl k) ?_
          show Goes _ _ _ _ _ _ _ (T621.setTop (mkF m 107 #[.val (.int p0), .val (.long p1), .second, .val (.int p2), .val (.int (3 : Int32)), .val (.int (1 : Int32)), .val (.long u6), .second, .val (.ref r540_0_0), .val (.ref b546), .val (.int (1 : Int32)), .val (.int (0 : Int32)), .unset] [(.ref b546)]))
          refine Goes.step (fun _ k => XS.aload X621.here hx rfl (hb hby at_107) rfl rfl k) ?_
          show Goes _ _ _ _ _ _ _ (T621.setTop (mkF m 109 #[.val (.int p0), .val (.long p1), .second, .val (.int p2), .val (.int (3 : Int32)), .val (.int (1 : Int32)), .val (.long u6), .second, .val (.ref r540_0_0), .val (.ref b546), .val (.int (1 : Int32)), .val (.int (0 : Int32)), .unset] [(.ref r540_0_0), (.ref b546)]))
          obtain ⟨cq636, kq636, q636a, q636b, q636c⟩ := isOf hZ rfl v621_0_2
          obtain ⟨_, _, ⟨T636, L636, k636, n636⟩, -, X636, ⟨Lc636, hQ636, l636, y636, z636⟩, st636⟩ := X621.virtualBack hx (y := (⟨"com/example/roles_to_grants/rolestogrants/input/ProblemList", "add", "(Ljava/lang/String;)V"⟩ : MethodName)) (z := (⟨"com/example/roles_to_grants/rolestogrants/input/ProblemList", "add", "(Ljava/lang/String;)V"⟩ : MethodName)) hown (mvT hZ (hw _ (List.mem_of_getElem? (i := 72) rfl))) (mvT hZ (hw _ (List.mem_of_getElem? (i := 73) rfl))) (notFace_of_selects (args := #[]) (mvT hZ (hw _ (List.mem_of_getElem? (i := 75) rfl)))) (mvT hZ (hw _ (List.mem_of_getElem? (i := 75) rfl))) (mvT hZ (hw _ (List.mem_of_getElem? (i := 74) rfl))) (by decide) (backOf (W := 0) (rm12_3 l Z a0 hw [] b546 r540_0_0 r556_0_0 ((3 : Int64) + u6) (3 : Int32) r571_0_0 kk571_0_0 T621.heap n0 Z635 v621_0_0 v621_0_1 f631 f632 f633 v621_0_2 f628 f624 f634 oo571_0_0 g_b546 g_r556_0_0 g_r571_0_0 (Ne.symm ne588) (Ne.symm ne589) ne569) hZ (hw _ (List.mem_of_getElem? (i := 76) rfl)) (hw _ (List.mem_of_getElem? (i := 29) rfl)) (by decide) (by decide)) q636a q636c (g := (mkF m 109 #[.val (.int p0), .val (.long p1), .second, .val (.int p2), .val (.int (3 : Int32)), .val (.int (1 : Int32)), .val (.long u6), .second, .val (.ref r540_0_0), .val (.ref b546), .val (.int (1 : Int32)), .val (.int (0 : Int32)), .unset] [(.ref r540_0_0), (.ref b546)])) rfl (by rw [hml]; rfl) (Steps.refl _) (argsL := [(.ref r540_0_0)]) (rest := []) (lenOf pd_7 rfl) rfl (by show 2 * 0 + _ ≤ _; exact Nat.le_of_eq rfl) (hb hby at_109) (fun _ _ => ⟨rfl, rfl, (by decide : 5 + 0 ≤ _), (by decide : 20 + 0 ≤ _)⟩)
          dsimp only [Pt.U, Pt.locs, Pt.cells, Pt.slots] at X636 l636 y636 z636 st636 hQ636
          subst l636 y636 z636
          obtain ⟨N636, KK636, hR636⟩ := hQ636
          have NA636 := Fr.app NA621 N636
          have XO637 : Old Z n0 T636.heap := XO622.keep KK636 (allS g_b546 (allS g_r556_0_0 (allS g_r571_0_0 all0)))
          have f638 := f623.keep KK636 (ninS ne547 (ninS ne566 (ninS ne585 nin0)))
          have f639 := f624.keep KK636
          have f640 := f625.keep KK636 (ninS ne549 (ninS ne568 (ninS ne587 nin0)))
          have f641 := f626.keep KK636 (ninS ne548 (ninS ne567 (ninS ne586 nin0)))
          have f642 := v621_0_2.keep KK636
          have f643 := f628.keep KK636
          have K650 : Keep h0 T636.heap [] := K635.trans KK636 (allS (Or.inr sz_b546) (allS (Or.inr sz_r556_0_0) (allS (Or.inr sz_r571_0_0) all0)))
          have Z650 : n0 ≤ T636.heap.size := Nat.le_trans Z635 KK636.1
          obtain ⟨rfl, v636_0_0, v636_0_1, v636_0_2, v636_0_3, v636_0_4, v636_0_5, v636_0_6, v636_0_7⟩ := hR636
          refine Goes.back st636 ?_
          show Goes _ _ _ _ _ _ _ (T636.setTop (mkF m 112 #[.val (.int p0), .val (.long p1), .second, .val (.int p2), .val (.int (3 : Int32)), .val (.int (1 : Int32)), .val (.long u6), .second, .val (.ref r540_0_0), .val (.ref b546), .val (.int (1 : Int32)), .val (.int (0 : Int32)), .unset] []))
          refine Goes.step (fun _ k => XS.aload X636.here hx rfl (hb hby at_112) rfl rfl k) ?_
          show Goes _ _ _ _ _ _ _ (T636.setTop (mkF m 114 #[.val (.int p0), .val (.long p1), .second, .val (.int p2), .val (.int (3 : Int32)), .val (.int (1 : Int32)), .val (.long u6), .second, .val (.ref r540_0_0), .val (.ref b546), .val (.int (1 : Int32)), .val (.int (0 : Int32)), .unset] [(.ref b546)]))
          obtain ⟨cq651, kq651, q651a, q651b, q651c⟩ := isOf hZ rfl v636_0_2
          obtain ⟨_, _, ⟨T651, L651, k651, n651⟩, -, X651, ⟨Lc651, hQ651, l651, y651, z651⟩, st651⟩ := X636.virtualBack hx (y := (⟨"com/example/roles_to_grants/rolestogrants/input/ProblemList", "isEmpty", "()Z"⟩ : MethodName)) (z := (⟨"com/example/roles_to_grants/rolestogrants/input/ProblemList", "isEmpty", "()Z"⟩ : MethodName)) hown (mvT hZ (hw _ (List.mem_of_getElem? (i := 60) rfl))) (mvT hZ (hw _ (List.mem_of_getElem? (i := 61) rfl))) (notFace_of_selects (args := #[]) (mvT hZ (hw _ (List.mem_of_getElem? (i := 63) rfl)))) (mvT hZ (hw _ (List.mem_of_getElem? (i := 63) rfl))) (mvT hZ (hw _ (List.mem_of_getElem? (i := 62) rfl))) (by decide) (backOf (W := 0) (rm10 l Z a0 hw [] b546 (((3 : Int64) + u6) + (1 : Int64)) T636.heap n0 Z650 v636_0_1) hZ (hw _ (List.mem_of_getElem? (i := 64) rfl)) (hw _ (List.mem_of_getElem? (i := 29) rfl)) (by decide) (by decide)) q651a q651c (g := (mkF m 114 #[.val (.int p0), .val (.long p1), .second, .val (.int p2), .val (.int (3 : Int32)), .val (.int (1 : Int32)), .val (.long u6), .second, .val (.ref r540_0_0), .val (.ref b546), .val (.int (1 : Int32)), .val (.int (0 : Int32)), .unset] [(.ref b546)])) rfl (by rw [hml]; rfl) (Steps.refl _) (argsL := []) (rest := []) (lenOf pd_5 rfl) rfl (by show 2 * 0 + _ ≤ _; exact Nat.le_of_eq rfl) (hb hby at_114) (fun _ _ => ⟨rfl, rfl, (by decide : 5 + 0 ≤ _), (by decide : 20 + 0 ≤ _)⟩)
          dsimp only [Pt.U, Pt.locs, Pt.cells, Pt.slots] at X651 l651 y651 z651 st651 hQ651
          subst l651 y651 z651
          obtain ⟨N651, eh651, hR651⟩ := hQ651
          have NA651 := Fr.app NA636 N651
          rcases hR651 with ⟨rfl, u651_0_0⟩ | ⟨rfl, u651_1_0⟩
          · exact absurd u651_0_0 (own_nz1 hg_u6 (3 : Int64) (by decide) (by decide))
          · refine Goes.back st651 ?_
            show Goes _ _ _ _ _ _ _ (T651.setTop (mkF m 117 #[.val (.int p0), .val (.long p1), .second, .val (.int p2), .val (.int (3 : Int32)), .val (.int (1 : Int32)), .val (.long u6), .second, .val (.ref r540_0_0), .val (.ref b546), .val (.int (1 : Int32)), .val (.int (0 : Int32)), .unset] [(.int (0 : Int32))]))
            refine Goes.step (fun _ k => XS.istore X651.here hx rfl (hb hby at_117) rfl (l' := #[.val (.int p0), .val (.long p1), .second, .val (.int p2), .val (.int (3 : Int32)), .val (.int (1 : Int32)), .val (.long u6), .second, .val (.ref r540_0_0), .val (.ref b546), .val (.int (1 : Int32)), .val (.int (0 : Int32)), .val (.int (0 : Int32))]) rfl k) ?_
            show Goes _ _ _ _ _ _ _ (T651.setTop (mkF m 119 #[.val (.int p0), .val (.long p1), .second, .val (.int p2), .val (.int (3 : Int32)), .val (.int (1 : Int32)), .val (.long u6), .second, .val (.ref r540_0_0), .val (.ref b546), .val (.int (1 : Int32)), .val (.int (0 : Int32)), .val (.int (0 : Int32))] []))
            refine Goes.step (fun _ k => XS.iload X651.here hx rfl (hb hby at_119) rfl  k) ?_
            show Goes _ _ _ _ _ _ _ (T651.setTop (mkF m 121 #[.val (.int p0), .val (.long p1), .second, .val (.int p2), .val (.int (3 : Int32)), .val (.int (1 : Int32)), .val (.long u6), .second, .val (.ref r540_0_0), .val (.ref b546), .val (.int (1 : Int32)), .val (.int (0 : Int32)), .val (.int (0 : Int32))] [(.int (1 : Int32))]))
            refine Goes.step (fun _ k => XS.ifNo X651.here hx rfl (hb hby at_121) rfl ((if0 _ _).trans (feq (by decide : ¬ ((1 : Int32) = (0 : Int32)))).1) k) ?_
            show Goes _ _ _ _ _ _ _ (T651.setTop (mkF m 124 #[.val (.int p0), .val (.long p1), .second, .val (.int p2), .val (.int (3 : Int32)), .val (.int (1 : Int32)), .val (.long u6), .second, .val (.ref r540_0_0), .val (.ref b546), .val (.int (1 : Int32)), .val (.int (0 : Int32)), .val (.int (0 : Int32))] []))
            refine Goes.step (fun _ k => XS.iload X651.here hx rfl (hb hby at_124) rfl  k) ?_
            show Goes _ _ _ _ _ _ _ (T651.setTop (mkF m 126 #[.val (.int p0), .val (.long p1), .second, .val (.int p2), .val (.int (3 : Int32)), .val (.int (1 : Int32)), .val (.long u6), .second, .val (.ref r540_0_0), .val (.ref b546), .val (.int (1 : Int32)), .val (.int (0 : Int32)), .val (.int (0 : Int32))] [(.int (0 : Int32))]))
            refine Goes.step (fun _ k => XS.iload X651.here hx rfl (hb hby at_126) rfl  k) ?_
            show Goes _ _ _ _ _ _ _ (T651.setTop (mkF m 128 #[.val (.int p0), .val (.long p1), .second, .val (.int p2), .val (.int (3 : Int32)), .val (.int (1 : Int32)), .val (.long u6), .second, .val (.ref r540_0_0), .val (.ref b546), .val (.int (1 : Int32)), .val (.int (0 : Int32)), .val (.int (0 : Int32))] [(.int (3 : Int32)), (.int (0 : Int32))]))
            refine Goes.step (fun _ k => XS.ifYes X651.here hx rfl (pc0 := 128) (pc' := 135) rfl (hb hby at_128) rfl ((if0 _ _).trans (feq (by decide : ¬ ((3 : Int32) = (0 : Int32)))).2) (by decide) (by decide) k) ?_
            show Goes _ _ _ _ _ _ _ (T651.setTop (mkF m 135 #[.val (.int p0), .val (.long p1), .second, .val (.int p2), .val (.int (3 : Int32)), .val (.int (1 : Int32)), .val (.long u6), .second, .val (.ref r540_0_0), .val (.ref b546), .val (.int (1 : Int32)), .val (.int (0 : Int32)), .val (.int (0 : Int32))] [(.int (0 : Int32))]))
            refine Goes.step (fun _ k => XS.iconst X651.here hx rfl (hb hby at_135) k) ?_
            show Goes _ _ _ _ _ _ _ (T651.setTop (mkF m 136 #[.val (.int p0), .val (.long p1), .second, .val (.int p2), .val (.int (3 : Int32)), .val (.int (1 : Int32)), .val (.long u6), .second, .val (.ref r540_0_0), .val (.ref b546), .val (.int (1 : Int32)), .val (.int (0 : Int32)), .val (.int (0 : Int32))] [(.int (0 : Int32)), (.int (0 : Int32))]))
            refine Goes.step (fun _ k => XS.icmpNo X651.here hx rfl (hb hby at_136) rfl (teq (by decide : (0 : Int32) = (0 : Int32))).2 k) ?_
            show Goes _ _ _ _ _ _ _ (T651.setTop (mkF m 139 #[.val (.int p0), .val (.long p1), .second, .val (.int p2), .val (.int (3 : Int32)), .val (.int (1 : Int32)), .val (.long u6), .second, .val (.ref r540_0_0), .val (.ref b546), .val (.int (1 : Int32)), .val (.int (0 : Int32)), .val (.int (0 : Int32))] []))
            refine Goes.step (fun _ k => XS.iload X651.here hx rfl (hb hby at_139) rfl  k) ?_
            show Goes _ _ _ _ _ _ _ (T651.setTop (mkF m 141 #[.val (.int p0), .val (.long p1), .second, .val (.int p2), .val (.int (3 : Int32)), .val (.int (1 : Int32)), .val (.long u6), .second, .val (.ref r540_0_0), .val (.ref b546), .val (.int (1 : Int32)), .val (.int (0 : Int32)), .val (.int (0 : Int32))] [(.int (0 : Int32))]))
            refine Goes.step (fun _ k => XS.iload X651.here hx rfl (hb hby at_141) rfl  k) ?_
            show Goes _ _ _ _ _ _ _ (T651.setTop (mkF m 143 #[.val (.int p0), .val (.long p1), .second, .val (.int p2), .val (.int (3 : Int32)), .val (.int (1 : Int32)), .val (.long u6), .second, .val (.ref r540_0_0), .val (.ref b546), .val (.int (1 : Int32)), .val (.int (0 : Int32)), .val (.int (0 : Int32))] [(.int (3 : Int32)), (.int (0 : Int32))]))
            refine Goes.step (fun _ k => XS.ifYes X651.here hx rfl (pc0 := 143) (pc' := 162) rfl (hb hby at_143) rfl ((if0 _ _).trans (feq (by decide : ¬ ((3 : Int32) = (0 : Int32)))).2) (by decide) (by decide) k) ?_
            show Goes _ _ _ _ _ _ _ (T651.setTop (mkF m 162 #[.val (.int p0), .val (.long p1), .second, .val (.int p2), .val (.int (3 : Int32)), .val (.int (1 : Int32)), .val (.long u6), .second, .val (.ref r540_0_0), .val (.ref b546), .val (.int (1 : Int32)), .val (.int (0 : Int32)), .val (.int (0 : Int32))] [(.int (0 : Int32))]))
            refine Goes.step (fun _ k => XS.iconst X651.here hx rfl (hb hby at_162) k) ?_
            show Goes _ _ _ _ _ _ _ (T651.setTop (mkF m 163 #[.val (.int p0), .val (.long p1), .second, .val (.int p2), .val (.int (3 : Int32)), .val (.int (1 : Int32)), .val (.long u6), .second, .val (.ref r540_0_0), .val (.ref b546), .val (.int (1 : Int32)), .val (.int (0 : Int32)), .val (.int (0 : Int32))] [(.int (0 : Int32)), (.int (0 : Int32))]))
            refine Goes.step (fun _ k => XS.icmpNo X651.here hx rfl (hb hby at_163) rfl (teq (by decide : (0 : Int32) = (0 : Int32))).2 k) ?_
            show Goes _ _ _ _ _ _ _ (T651.setTop (mkF m 166 #[.val (.int p0), .val (.long p1), .second, .val (.int p2), .val (.int (3 : Int32)), .val (.int (1 : Int32)), .val (.long u6), .second, .val (.ref r540_0_0), .val (.ref b546), .val (.int (1 : Int32)), .val (.int (0 : Int32)), .val (.int (0 : Int32))] []))
            refine Goes.step (fun _ k => XS.iconst X651.here hx rfl (hb hby at_166) k) ?_
            show Goes _ _ _ _ _ _ _ (T651.setTop (mkF m 167 #[.val (.int p0), .val (.long p1), .second, .val (.int p2), .val (.int (3 : Int32)), .val (.int (1 : Int32)), .val (.long u6), .second, .val (.ref r540_0_0), .val (.ref b546), .val (.int (1 : Int32)), .val (.int (0 : Int32)), .val (.int (0 : Int32))] [(.int (1 : Int32))]))
            refine Goes.step (fun _ k => XS.goto X651.here hx rfl (pc0 := 167) (pc' := 171) rfl (hb hby at_167) (by decide) (by decide) k) ?_
            show Goes _ _ _ _ _ _ _ (T651.setTop (mkF m 171 #[.val (.int p0), .val (.long p1), .second, .val (.int p2), .val (.int (3 : Int32)), .val (.int (1 : Int32)), .val (.long u6), .second, .val (.ref r540_0_0), .val (.ref b546), .val (.int (1 : Int32)), .val (.int (0 : Int32)), .val (.int (0 : Int32))] [(.int (1 : Int32))]))
            exact Goes.ret X651 hx (BodyLoose.notSynchronized Bd) Bd.returns rfl (Or.inl ⟨rfl, by simp, _, rfl⟩) (hb hby at_171) (by show Q0 Z p0 p1 p2 zC de kde h0 n0 (some (.int (1 : Int32))) T651.heap _; rw [eh651]; exact ⟨rfl, NA651⟩) (by decide) (by decide)
      · exact absurd (by decide : (0 : Int64) = (0 : Int64)) u570_1_0
set_option maxRecDepth 65536 in
set_option maxHeartbeats 40000000 in
theorem comes_1 {Post : Tables → Env → Array Value → State → Outcome → State → Prop} (hpost : ∀ tb e args s v u, (limb_1_1.after args s (.returned v) u = true ∧ limb_1_2.after args s (.returned v) u = true ∧ True) → FrameEnd s (.returned v) u (Jvm.fieldLocs frame_1_writes args s ++ Jvm.arrayLocs frame_1_arrays args s ++ Jvm.staticLocs frame_1_statics s) 24 128 → Post tb e args s (.returned v) u) :
    ArmFor flags0 classFile x code maxLocals ret World_1 tables_1 room_1 Calls_1 rest_1 Pre_1 Post := by
  intro l hfl _ _ p e ha hc hk s m args below hf hA hF happ hP
  obtain ⟨hcalls, hrest, hpre⟩ := hP
  obtain ⟨-, -, -, hnamed, -, -, -, hat⟩ := (Spec.applies_iff hf).mp happ
  obtain ⟨hg, hn⟩ := and_e (Cond.before_iff.mp (show (Jvm.Cond.and given_1 narrow_1).before args s = true from hpre))
  obtain ⟨gg1, gg2⟩ := and_e hg
  obtain ⟨gg3, gg4⟩ := and_e gg2
  obtain ⟨gg5, gg6⟩ := and_e gg4
  obtain ⟨w0, w1, w2, rfl⟩ : ∃ w0 w1 w2 : Value, args = #[w0, w1, w2] := by
    have hs : args.size = 3 := by simpa [Cond.value, given_1] using gg1
    obtain ⟨L⟩ := args
    match L, hs with
    | [w0, w1, w2], _ => exact ⟨w0, w1, w2, rfl⟩
  have hw := fun d (hd : d ∈ tables_1) => atoms_spec (ws := Jvm.Cond.code x code maxLocals ret :: tables_1) hat d (List.mem_cons_of_mem _ hd)
  have hfit : Fit s := fun {y c} hc i hi => by
    obtain ⟨ha, rfl⟩ := Array.getElem?_eq_some_iff.mp hc
    have q := List.all_eq_true.mp ((Array.all_eq_true_iff_forall_mem.mp hF) _ (Array.getElem_mem ha)) i (List.mem_range.mpr hi)
    simpa [Array.getElem?_eq_getElem hi] using q
  obtain ⟨hsets, hown0⟩ := atoms_of _ (rest_1_c_eq ▸ (show rest_1_c.before _ s = true from hrest))
  have hr0 := Cond.before_iff.mp hown0
  obtain ⟨i0, ei0⟩ := is_v gg3
  obtain rfl : w0 = (.int i0) := Option.some.inj ei0
  obtain ⟨i1, ei1⟩ := isL_v gg5
  obtain rfl : w1 = (.long i1) := Option.some.inj ei1
  obtain ⟨i2, ei2⟩ := is_v gg6
  obtain rfl : w2 = (.int i2) := Option.some.inj ei2
  have sn := not_v (Cond.before_iff.mp (hsets _ (List.mem_of_getElem? (i := 0 + 2) rfl)))
  obtain ⟨zC, sC⟩ := is_v (Cond.before_iff.mp (hsets _ (List.mem_of_getElem? (i := 0 + 1) rfl)))
  have S_COMPACT_STRINGS : Sta s s.heap "java/lang/String" "COMPACT_STRINGS" "Z" (.int zC) := Sta.start sC (Or.inl (hsets _ (List.mem_of_getElem? (i := 0) rfl)))
  have P5 : ¬ (zC = (0 : Int32)) := gotF (Cond.eq_ints sC (Term.int_eval (0))) sn
  have jar := Cond.before_iff.mp (hsets _ (List.mem_of_getElem? (i := 15) rfl))
  obtain ⟨de, ede⟩ := arr_v jar
  have S_DE := Sta.start ede (Or.inr ⟨(hw _ (List.mem_of_getElem? (i := 36) rfl)), (hsets _ (List.mem_of_getElem? (i := 11) rfl))⟩)
  obtain ⟨cde, Ade⟩ := Arr.start ede jar
  have V_de := own_arx0 hfit ede Ade (own_eqInt (Cond.before_iff.mp (hsets _ (List.mem_of_getElem? (i := 17) rfl)))) (by decide)
  obtain ⟨n, o, h1, h2, h3, _, L, rfl, ⟨rfl, N⟩, hq⟩ := rm0 l s _ hw tables_1 i0 i1 i2 zC de _ s.heap s.heap.size (Nat.le_refl _) S_COMPACT_STRINGS P5 S_DE V_de (Old.start s) p e ha hc hk s m _ below hf ((Spec.applies_iff_loose hf).mp happ).1 ⟨rfl, State.Warmed39.refl s, rfl⟩ trivial
  refine ⟨n, _, h1, h2, h3, hpost _ _ _ _ _ _ ⟨Cond.after_iff.mpr rfl, Cond.after_iff.mpr (eq_i res_at (Term.int_eval (1)) rfl), trivial⟩ ⟨hq.1, hq.2.1, (hq.2.2.sift fun y hy => Or.inr (N y hy)).mono (by decide) (by decide)⟩⟩
theorem main_1_1 : Claimed_1_1 := comes_1 fun _ _ _ _ _ _ h hF => ⟨h.1, hF⟩
theorem main_1_2 : Claimed_1_2 := comes_1 fun _ _ _ _ _ _ h hF => ⟨h.2.1, hF⟩
end Jvm.Pilot.@@N@@
namespace Jvm.Pilot.@@N@@
open Jvm Jvm.ClassFile Sem Op Lib Jvm.Free Jvm.Stand Jvm.Pilot.@@N@@.Jvm.D
/-! MADE BY PROGRAM (witnessworld.py) out of the Statement's table words and the real class files: 27 classes; the members and pool entries that the words name. The judged class is class 1, her method 1. -/
namespace start1
open Jvm.ClassFile
def u (s : String) : CpInfo := .utf8 (stringToUtf16 s)
/-- a pool by its gaps: so many unusable entries, then the entry; so many at the end -/
def gap : Nat → List CpInfo → List CpInfo
  | 0, r => r
  | n + 1, r => .unusable :: gap n r
def poolList (es : List (Nat × CpInfo)) (last : Nat) : List CpInfo := es.foldr (fun e r => gap e.1 (e.2 :: r)) (gap last [])
def pool (es : List (Nat × CpInfo)) (last : Nat) : Array CpInfo := ⟨poolList es last⟩
def fileOf (pool : Array CpInfo) (this : Nat) (attrs : Array Attribute := #[]) (ms : Array MethodInfo := #[]) (fl : Nat := 33) (sup : Nat := 0) (ifs : Array Nat := #[]) (fds : Array FieldInfo := #[]) : ClassFile where
  minorVersion := 0
  majorVersion := 65
  constantPool := pool
  accessFlags := fl
  thisClass := this
  superClass := sup
  interfaces := ifs
  fields := fds
  methods := ms
  attributes := attrs
def plain (name : String) (sup : Option ClassId) : Class where
  name := name
  kind := .ordinary
  loader := none
  accessFlags := 33
  super := sup
  interfaces := #[]
  cf := none
  fields := #[]
  methods := #[]
  instanceTypes := #[]
  staticTypes := #[]
  resolved := #[]
  callSites := []
  init := .initialized
  statics := none
  mirror := none

def pool0 : Array CpInfo := pool [(5, u "<init>"), (0, u "()V"), (1, .class_ 10), (1, u "java/lang/Object")] 113

def k0c0 : Code := { maxStack := 0, maxLocals := 1, code := object_method_1_code, exceptionTable := #[], attributes := #[] }
def k0m0 : Method := { name := "<init>", desc := "()V", sig := { parameters := [], returnType := none }, accessFlags := 1, code := some k0c0 }
/-- java/lang/Object -/
def k0 : Class := { plain "java/lang/Object" none with
  accessFlags := 33
  interfaces := #[]
  cf := some (fileOf pool0 8 #[] #[{ accessFlags := 1, nameIndex := 5, descriptorIndex := 6, attributes := #[] }] 33 0 #[] #[])
  fields := #[]
  methods := #[k0m0]
  instanceTypes := #[]
  staticTypes := #[]
  resolved := Array.replicate 124 none
  statics := none }

def pool1 : Array CpInfo := pool [(2, .class_ 4), (0, .nameAndType 5 6), (0, u "java/lang/Object"), (0, u "<init>"), (0, u "()V"), (2, .long 9223372036854775807), (1, .methodref 12 13), (0, .class_ 14), (0, .nameAndType 15 16), (0, u "java/lang/String"), (0, u "valueOf"), (0, u "(C)Ljava/lang/String;"), (0, .class_ 18), (0, u "com/example/roles_to_grants/rolestogrants/input/ProblemList"), (0, .methodref 17 3), (0, .methodref 17 21), (0, .nameAndType 22 23), (0, u "isEmpty"), (0, u "()Z"), (0, .methodref 17 25), (0, .nameAndType 26 27), (0, u "add"), (0, u "(Ljava/lang/String;)V"), (0, .methodref 17 29), (0, .nameAndType 30 31), (0, u "addUnnamed"), (0, u "(J)V"), (0, .class_ 33), (0, u "com/example/roles_to_grants/rolestogrants/input/ProblemListIsEmptyPinLaw"), (2, u "law"), (0, u "(IJI)Z")] 3

def k1m0 : Method := { name := "<init>", desc := "()V", sig := { parameters := [], returnType := none }, accessFlags := 1, code := none }
def k1c1 : Code := { maxStack := 5, maxLocals := 13, code := code, exceptionTable := #[], attributes := #[] }
def k1m1 : Method := { name := "law", desc := "(IJI)Z", sig := { parameters := [.int, .long, .int], returnType := some .boolean }, accessFlags := 9, code := some k1c1 }
/-- com/example/roles_to_grants/rolestogrants/input/ProblemListIsEmptyPinLaw -/
def k1 : Class := { plain "com/example/roles_to_grants/rolestogrants/input/ProblemListIsEmptyPinLaw" (some 0) with
  accessFlags := 49
  interfaces := #[]
  cf := some (fileOf pool1 32 #[] #[{ accessFlags := 1, nameIndex := 5, descriptorIndex := 6, attributes := #[] }, { accessFlags := 9, nameIndex := 36, descriptorIndex := 37, attributes := #[] }] 49 2 #[] #[])
  fields := #[]
  methods := #[k1m0, k1m1]
  instanceTypes := #[]
  staticTypes := #[]
  resolved := Array.replicate 41 none
  statics := none }

def pool2 : Array CpInfo := pool [(1, .class_ 2), (0, u "java/io/Serializable"), (0, .class_ 4), (0, u "java/lang/Object")] 2

/-- java/io/Serializable -/
def k2 : Class := { plain "java/io/Serializable" (some 0) with
  accessFlags := 1537
  interfaces := #[]
  cf := some (fileOf pool2 1 #[] #[] 1537 3 #[] #[])
  fields := #[]
  methods := #[]
  instanceTypes := #[]
  staticTypes := #[]
  resolved := Array.replicate 7 none
  statics := none }

def pool3 : Array CpInfo := pool [(1, .class_ 2), (0, u "java/lang/Comparable"), (0, .class_ 4), (0, u "java/lang/Object")] 7

/-- java/lang/Comparable -/
def k3 : Class := { plain "java/lang/Comparable" (some 0) with
  accessFlags := 1537
  interfaces := #[]
  cf := some (fileOf pool3 1 #[] #[] 1537 3 #[] #[])
  fields := #[]
  methods := #[]
  instanceTypes := #[]
  staticTypes := #[]
  resolved := Array.replicate 12 none
  statics := none }

def pool4 : Array CpInfo := pool [(2, .class_ 4), (1, u "java/lang/CharSequence"), (42, .class_ 48), (0, u "java/lang/CharSequence$1CodePointIterator"), (10, .class_ 60), (0, u "java/lang/CharSequence$1CharIterator"), (5, .class_ 67), (0, u "java/lang/Object")] 63

/-- java/lang/CharSequence -/
def k4 : Class := { plain "java/lang/CharSequence" (some 0) with
  accessFlags := 1537
  interfaces := #[]
  cf := some (fileOf pool4 2 #[.nestMembers #[47, 59]] #[] 1537 66 #[] #[])
  fields := #[]
  methods := #[]
  instanceTypes := #[]
  staticTypes := #[]
  resolved := Array.replicate 131 none
  statics := none }

def pool5 : Array CpInfo := pool [(1, .class_ 2), (0, u "java/lang/constant/Constable"), (0, .class_ 4), (0, u "java/lang/Object")] 6

/-- java/lang/constant/Constable -/
def k5 : Class := { plain "java/lang/constant/Constable" (some 0) with
  accessFlags := 1537
  interfaces := #[]
  cf := some (fileOf pool5 1 #[] #[] 1537 3 #[] #[])
  fields := #[]
  methods := #[]
  instanceTypes := #[]
  staticTypes := #[]
  resolved := Array.replicate 11 none
  statics := none }

def pool6 : Array CpInfo := pool [(1, .class_ 2), (0, u "java/lang/constant/ConstantDesc"), (0, .class_ 4), (0, u "java/lang/Object")] 32

/-- java/lang/constant/ConstantDesc -/
def k6 : Class := { plain "java/lang/constant/ConstantDesc" (some 0) with
  accessFlags := 1537
  interfaces := #[]
  cf := some (fileOf pool6 1 #[] #[] 1537 3 #[] #[])
  fields := #[]
  methods := #[]
  instanceTypes := #[]
  staticTypes := #[]
  resolved := Array.replicate 37 none
  statics := none }

def pool7 : Array CpInfo := pool [(1, .methodref 2 3), (0, .class_ 4), (0, .nameAndType 5 6), (0, u "java/lang/Object"), (0, u "<init>"), (0, u "()V"), (2, .fieldref 10 11), (0, .class_ 12), (0, .nameAndType 13 14), (0, u "java/lang/String"), (0, u "value"), (0, u "[B"), (0, .fieldref 10 16), (0, .nameAndType 17 18), (0, u "coder"), (0, u "B"), (2, u "hash"), (0, u "I"), (2, u "hashIsZero"), (0, u "Z"), (11, .fieldref 10 39), (0, .nameAndType 40 26), (0, u "COMPACT_STRINGS"), (12, u "toBytes"), (53, .class_ 109), (1, u "java/lang/StringLatin1"), (99, .methodref 10 210), (0, .nameAndType 5 211), (0, u "([BB)V"), (157, u "(C)Z"), (205, .class_ 576), (0, u "java/lang/CharSequence"), (22, u "CASE_INSENSITIVE_ORDER"), (0, u "Ljava/util/Comparator;"), (181, u "valueOf"), (0, u "(C)Ljava/lang/String;"), (231, .methodref 107 1016), (0, .nameAndType 1017 369), (0, u "canEncode"), (0, .methodref 107 1019), (0, .nameAndType 53 1020), (0, u "(C)[B"), (80, u "serialPersistentFields"), (0, u "[Ljava/io/ObjectStreamField;"), (0, .class_ 1104), (0, u "java/lang/String$CaseInsensitiveComparator"), (1, .class_ 1107), (0, u "java/io/Serializable"), (0, .class_ 1109), (0, u "java/lang/Comparable"), (0, .class_ 1111), (0, u "java/lang/constant/Constable"), (0, .class_ 1113), (0, u "java/lang/constant/ConstantDesc"), (2, u "serialVersionUID"), (0, u "J"), (3, u "REPL"), (0, u "C"), (2, u "LATIN1"), (1, u "UTF16")] 323

def k7m0 : Method := { name := "<init>", desc := "()V", sig := { parameters := [], returnType := none }, accessFlags := 1, code := none }
def k7c1 : Code := { maxStack := 4, maxLocals := 1, code := jdk_42_method_139_code, exceptionTable := #[], attributes := #[] }
def k7m1 : Method := { name := "valueOf", desc := "(C)Ljava/lang/String;", sig := { parameters := [.char], returnType := some (.object "java/lang/String") }, accessFlags := 9, code := some k7c1 }
def k7c2 : Code := { maxStack := 2, maxLocals := 3, code := jdk_42_method_151_code, exceptionTable := #[], attributes := #[] }
def k7m2 : Method := { name := "<init>", desc := "([BB)V", sig := { parameters := [(.array .byte), .byte], returnType := none }, accessFlags := 0, code := some k7c2 }
/-- java/lang/String -/
def k7 : Class := { plain "java/lang/String" (some 0) with
  accessFlags := 49
  interfaces := #[2, 3, 4, 5, 6]
  cf := some (fileOf pool7 10 #[.nestMembers #[1103]] #[{ accessFlags := 1, nameIndex := 5, descriptorIndex := 6, attributes := #[] }, { accessFlags := 9, nameIndex := 782, descriptorIndex := 783, attributes := #[] }, { accessFlags := 0, nameIndex := 5, descriptorIndex := 211, attributes := #[] }] 49 2 #[1106, 1108, 575, 1110, 1112] #[{ accessFlags := 18, nameIndex := 13, descriptorIndex := 14, attributes := #[] }, { accessFlags := 18, nameIndex := 17, descriptorIndex := 18, attributes := #[] }, { accessFlags := 2, nameIndex := 21, descriptorIndex := 22, attributes := #[] }, { accessFlags := 2, nameIndex := 25, descriptorIndex := 26, attributes := #[] }, { accessFlags := 26, nameIndex := 1116, descriptorIndex := 1117, attributes := #[] }, { accessFlags := 24, nameIndex := 40, descriptorIndex := 26, attributes := #[] }, { accessFlags := 26, nameIndex := 1101, descriptorIndex := 1102, attributes := #[] }, { accessFlags := 26, nameIndex := 1121, descriptorIndex := 1122, attributes := #[] }, { accessFlags := 25, nameIndex := 599, descriptorIndex := 600, attributes := #[] }, { accessFlags := 24, nameIndex := 1125, descriptorIndex := 18, attributes := #[] }, { accessFlags := 24, nameIndex := 1127, descriptorIndex := 18, attributes := #[] }])
  fields := #[{ name := "value", type := (.array .byte), accessFlags := 18, slot := 0, constantValue := 0 }, { name := "coder", type := .byte, accessFlags := 18, slot := 1, constantValue := 0 }, { name := "hash", type := .int, accessFlags := 2, slot := 2, constantValue := 0 }, { name := "hashIsZero", type := .boolean, accessFlags := 2, slot := 3, constantValue := 0 }, { name := "serialVersionUID", type := .long, accessFlags := 26, slot := 0, constantValue := 0 }, { name := "COMPACT_STRINGS", type := .boolean, accessFlags := 24, slot := 1, constantValue := 0 }, { name := "serialPersistentFields", type := (.array (.object "java/io/ObjectStreamField")), accessFlags := 26, slot := 2, constantValue := 0 }, { name := "REPL", type := .char, accessFlags := 26, slot := 3, constantValue := 0 }, { name := "CASE_INSENSITIVE_ORDER", type := (.object "java/util/Comparator"), accessFlags := 25, slot := 4, constantValue := 0 }, { name := "LATIN1", type := .byte, accessFlags := 24, slot := 5, constantValue := 0 }, { name := "UTF16", type := .byte, accessFlags := 24, slot := 6, constantValue := 0 }]
  methods := #[k7m0, k7m1, k7m2]
  instanceTypes := #[(.array .byte), .byte, .int, .boolean]
  staticTypes := #[.long, .boolean, (.array (.object "java/io/ObjectStreamField")), .char, (.object "java/util/Comparator"), .byte, .byte]
  resolved := Array.replicate 1451 none
  statics := some 0 }

def pool8 : Array CpInfo := pool [(4, .class_ 6), (1, u "java/lang/Object"), (0, u "<init>"), (0, u "()V"), (5, .class_ 16), (1, u "java/lang/StringLatin1"), (73, u "canEncode"), (14, u "(C)Z"), (15, u "$assertionsDisabled"), (0, u "Z"), (98, .class_ 223), (1, u "java/lang/StringLatin1$LinesSpliterator"), (156, u "toBytes"), (1, u "(C)[B"), (7, .class_ 391), (0, u "java/lang/StringLatin1$CharsSpliterator")] 3

def k8m0 : Method := { name := "<init>", desc := "()V", sig := { parameters := [], returnType := none }, accessFlags := 0, code := none }
def k8c1 : Code := { maxStack := 2, maxLocals := 1, code := jdk_43_method_3_code, exceptionTable := #[], attributes := #[] }
def k8m1 : Method := { name := "canEncode", desc := "(C)Z", sig := { parameters := [.char], returnType := some .boolean }, accessFlags := 9, code := some k8c1 }
def k8c2 : Code := { maxStack := 4, maxLocals := 1, code := jdk_43_method_46_code, exceptionTable := #[], attributes := #[] }
def k8m2 : Method := { name := "toBytes", desc := "(C)[B", sig := { parameters := [.char], returnType := some (.array .byte) }, accessFlags := 9, code := some k8c2 }
/-- java/lang/StringLatin1 -/
def k8 : Class := { plain "java/lang/StringLatin1" (some 0) with
  accessFlags := 48
  interfaces := #[]
  cf := some (fileOf pool8 14 #[.nestMembers #[390, 221]] #[{ accessFlags := 0, nameIndex := 7, descriptorIndex := 8, attributes := #[] }, { accessFlags := 9, nameIndex := 90, descriptorIndex := 105, attributes := #[] }, { accessFlags := 9, nameIndex := 380, descriptorIndex := 382, attributes := #[] }] 48 4 #[] #[{ accessFlags := 4120, nameIndex := 121, descriptorIndex := 122, attributes := #[] }])
  fields := #[{ name := "$assertionsDisabled", type := .boolean, accessFlags := 4120, slot := 0, constantValue := 0 }]
  methods := #[k8m0, k8m1, k8m2]
  instanceTypes := #[]
  staticTypes := #[.boolean]
  resolved := Array.replicate 395 none
  statics := none }

def pool9 : Array CpInfo := pool [(1, .methodref 2 3), (0, .class_ 4), (0, .nameAndType 5 6), (0, u "java/lang/Object"), (0, u "<init>"), (0, u "()V"), (0, .class_ 8), (0, u "java/util/ArrayList"), (0, .methodref 7 3), (0, .fieldref 11 12), (0, .class_ 13), (0, .nameAndType 14 15), (0, u "com/example/roles_to_grants/rolestogrants/input/ProblemList"), (0, u "named"), (0, u "Ljava/util/List;"), (0, .interfaceMethodref 17 18), (0, .class_ 19), (0, .nameAndType 20 21), (0, u "java/util/List"), (0, u "size"), (0, u "()I"), (0, .interfaceMethodref 17 23), (0, .nameAndType 24 25), (0, u "add"), (0, u "(Ljava/lang/Object;)Z"), (0, .fieldref 11 27), (0, .nameAndType 28 29), (0, u "count"), (0, u "J"), (15, u "NAMED"), (0, u "I"), (6, u "(Ljava/lang/String;)V"), (1, u "addUnnamed"), (0, u "(J)V"), (0, u "isEmpty"), (0, u "()Z")] 23

def k9c0 : Code := { maxStack := 3, maxLocals := 1, code := prog_17_method_1_code, exceptionTable := #[], attributes := #[] }
def k9m0 : Method := { name := "<init>", desc := "()V", sig := { parameters := [], returnType := none }, accessFlags := 1, code := some k9c0 }
def k9c1 : Code := { maxStack := 5, maxLocals := 2, code := prog_17_method_2_code, exceptionTable := #[], attributes := #[] }
def k9m1 : Method := { name := "add", desc := "(Ljava/lang/String;)V", sig := { parameters := [(.object "java/lang/String")], returnType := none }, accessFlags := 1, code := some k9c1 }
def k9c2 : Code := { maxStack := 5, maxLocals := 3, code := prog_17_method_3_code, exceptionTable := #[], attributes := #[] }
def k9m2 : Method := { name := "addUnnamed", desc := "(J)V", sig := { parameters := [.long], returnType := none }, accessFlags := 1, code := some k9c2 }
def k9c3 : Code := { maxStack := 4, maxLocals := 1, code := prog_17_method_4_code, exceptionTable := #[], attributes := #[] }
def k9m3 : Method := { name := "isEmpty", desc := "()Z", sig := { parameters := [], returnType := some .boolean }, accessFlags := 1, code := some k9c3 }
/-- com/example/roles_to_grants/rolestogrants/input/ProblemList -/
def k9 : Class := { plain "com/example/roles_to_grants/rolestogrants/input/ProblemList" (some 0) with
  accessFlags := 49
  interfaces := #[]
  cf := some (fileOf pool9 11 #[] #[{ accessFlags := 1, nameIndex := 5, descriptorIndex := 6, attributes := #[] }, { accessFlags := 1, nameIndex := 24, descriptorIndex := 53, attributes := #[] }, { accessFlags := 1, nameIndex := 55, descriptorIndex := 56, attributes := #[] }, { accessFlags := 1, nameIndex := 57, descriptorIndex := 58, attributes := #[] }] 49 2 #[] #[{ accessFlags := 25, nameIndex := 45, descriptorIndex := 46, attributes := #[] }, { accessFlags := 18, nameIndex := 14, descriptorIndex := 15, attributes := #[] }, { accessFlags := 2, nameIndex := 28, descriptorIndex := 29, attributes := #[] }])
  fields := #[{ name := "NAMED", type := .int, accessFlags := 25, slot := 0, constantValue := 0 }, { name := "named", type := (.object "java/util/List"), accessFlags := 18, slot := 0, constantValue := 0 }, { name := "count", type := .long, accessFlags := 2, slot := 1, constantValue := 0 }]
  methods := #[k9m0, k9m1, k9m2, k9m3]
  instanceTypes := #[(.object "java/util/List"), .long]
  staticTypes := #[.int]
  resolved := Array.replicate 82 none
  statics := none }

def pool10 : Array CpInfo := pool [(8, .class_ 10), (1, u "java/lang/Iterable"), (24, .class_ 36), (0, u "java/lang/Object")] 25

/-- java/lang/Iterable -/
def k10 : Class := { plain "java/lang/Iterable" (some 0) with
  accessFlags := 1537
  interfaces := #[]
  cf := some (fileOf pool10 8 #[] #[] 1537 35 #[] #[])
  fields := #[]
  methods := #[]
  instanceTypes := #[]
  staticTypes := #[]
  resolved := Array.replicate 62 none
  statics := none }

def pool11 : Array CpInfo := pool [(10, .class_ 12), (1, u "java/util/Collection"), (47, .class_ 61), (0, u "java/lang/Object"), (0, .class_ 63), (0, u "java/lang/Iterable")] 51

/-- java/util/Collection -/
def k11 : Class := { plain "java/util/Collection" (some 0) with
  accessFlags := 1537
  interfaces := #[10]
  cf := some (fileOf pool11 10 #[] #[] 1537 60 #[62] #[])
  fields := #[]
  methods := #[]
  instanceTypes := #[]
  staticTypes := #[]
  resolved := Array.replicate 115 none
  statics := none }

def pool12 : Array CpInfo := pool [(1, .methodref 2 3), (0, .class_ 4), (0, .nameAndType 5 6), (0, u "java/lang/Object"), (0, u "<init>"), (0, u "()V"), (1, .class_ 10), (1, u "java/util/AbstractCollection"), (66, .class_ 78), (0, u "java/util/Collection")] 81

def k12c0 : Code := { maxStack := 1, maxLocals := 1, code := jdk_22_method_1_code, exceptionTable := #[], attributes := #[] }
def k12m0 : Method := { name := "<init>", desc := "()V", sig := { parameters := [], returnType := none }, accessFlags := 4, code := some k12c0 }
/-- java/util/AbstractCollection -/
def k12 : Class := { plain "java/util/AbstractCollection" (some 0) with
  accessFlags := 1057
  interfaces := #[11]
  cf := some (fileOf pool12 8 #[] #[{ accessFlags := 4, nameIndex := 5, descriptorIndex := 6, attributes := #[] }] 1057 2 #[77] #[])
  fields := #[]
  methods := #[k12m0]
  instanceTypes := #[]
  staticTypes := #[]
  resolved := Array.replicate 160 none
  statics := none }

def pool13 : Array CpInfo := pool [(8, .class_ 10), (1, u "java/util/SequencedCollection"), (15, .class_ 27), (0, u "java/lang/Object"), (0, .class_ 29), (0, u "java/util/Collection")] 27

/-- java/util/SequencedCollection -/
def k13 : Class := { plain "java/util/SequencedCollection" (some 0) with
  accessFlags := 1537
  interfaces := #[11]
  cf := some (fileOf pool13 8 #[] #[] 1537 26 #[28] #[])
  fields := #[]
  methods := #[]
  instanceTypes := #[]
  staticTypes := #[]
  resolved := Array.replicate 57 none
  statics := none }

def pool14 : Array CpInfo := pool [(8, .class_ 10), (1, u "java/util/List"), (49, u "add"), (3, u "(Ljava/lang/Object;)Z"), (14, u "size"), (0, u "()I"), (22, .class_ 104), (0, u "java/lang/Object"), (15, .class_ 121), (0, u "java/util/SequencedCollection")] 129

def k14m0 : Method := { name := "size", desc := "()I", sig := { parameters := [], returnType := some .int }, accessFlags := 1025, code := none }
def k14m1 : Method := { name := "add", desc := "(Ljava/lang/Object;)Z", sig := { parameters := [(.object "java/lang/Object")], returnType := some .boolean }, accessFlags := 1025, code := none }
/-- java/util/List -/
def k14 : Class := { plain "java/util/List" (some 0) with
  accessFlags := 1537
  interfaces := #[13]
  cf := some (fileOf pool14 8 #[] #[{ accessFlags := 1025, nameIndex := 79, descriptorIndex := 80, attributes := #[] }, { accessFlags := 1025, nameIndex := 60, descriptorIndex := 64, attributes := #[] }] 1537 103 #[120] #[])
  fields := #[]
  methods := #[k14m0, k14m1]
  instanceTypes := #[]
  staticTypes := #[]
  resolved := Array.replicate 251 none
  statics := none }

def pool15 : Array CpInfo := pool [(1, .methodref 2 3), (0, .class_ 4), (0, .nameAndType 5 6), (0, u "java/util/AbstractCollection"), (0, u "<init>"), (0, u "()V"), (0, .fieldref 8 9), (0, .class_ 10), (0, .nameAndType 11 12), (0, u "java/util/AbstractList"), (0, u "modCount"), (0, u "I"), (64, .class_ 78), (0, u "java/util/AbstractList$Itr"), (3, .class_ 83), (0, u "java/util/AbstractList$ListItr"), (9, .class_ 94), (0, u "java/util/AbstractList$RandomAccessSubList"), (3, .class_ 99), (0, u "java/util/AbstractList$SubList"), (33, .class_ 134), (0, u "java/util/List"), (73, .class_ 209), (0, u "java/util/AbstractList$SubList$1"), (0, .class_ 211), (0, u "java/util/AbstractList$RandomAccessSpliterator")] 6

def k15c0 : Code := { maxStack := 2, maxLocals := 1, code := jdk_39_method_1_code, exceptionTable := #[], attributes := #[] }
def k15m0 : Method := { name := "<init>", desc := "()V", sig := { parameters := [], returnType := none }, accessFlags := 4, code := some k15c0 }
/-- java/util/AbstractList -/
def k15 : Class := { plain "java/util/AbstractList" (some 12) with
  accessFlags := 1057
  interfaces := #[14]
  cf := some (fileOf pool15 8 #[.nestMembers #[93, 98, 208, 210, 82, 77]] #[{ accessFlags := 4, nameIndex := 5, descriptorIndex := 6, attributes := #[] }] 1057 2 #[133] #[{ accessFlags := 132, nameIndex := 11, descriptorIndex := 12, attributes := #[] }])
  fields := #[{ name := "modCount", type := .int, accessFlags := 132, slot := 0, constantValue := 0 }]
  methods := #[k15m0]
  instanceTypes := #[.int]
  staticTypes := #[]
  resolved := Array.replicate 218 none
  statics := none }

def pool16 : Array CpInfo := pool [(1, .class_ 2), (0, u "java/util/RandomAccess"), (0, .class_ 4), (0, u "java/lang/Object")] 2

/-- java/util/RandomAccess -/
def k16 : Class := { plain "java/util/RandomAccess" (some 0) with
  accessFlags := 1537
  interfaces := #[]
  cf := some (fileOf pool16 1 #[] #[] 1537 3 #[] #[])
  fields := #[]
  methods := #[]
  instanceTypes := #[]
  staticTypes := #[]
  resolved := Array.replicate 7 none
  statics := none }

def pool17 : Array CpInfo := pool [(1, .class_ 2), (0, u "java/lang/Cloneable"), (0, .class_ 4), (0, u "java/lang/Object")] 2

/-- java/lang/Cloneable -/
def k17 : Class := { plain "java/lang/Cloneable" (some 0) with
  accessFlags := 1537
  interfaces := #[]
  cf := some (fileOf pool17 1 #[] #[] 1537 3 #[] #[])
  fields := #[]
  methods := #[]
  instanceTypes := #[]
  staticTypes := #[]
  resolved := Array.replicate 7 none
  statics := none }

def pool18 : Array CpInfo := pool [(1, .methodref 2 3), (0, .class_ 4), (0, .nameAndType 5 6), (0, u "java/util/AbstractList"), (0, u "<init>"), (0, u "()V"), (0, .class_ 8), (0, u "java/lang/Object"), (0, .fieldref 10 11), (0, .class_ 12), (0, .nameAndType 13 14), (0, u "java/util/ArrayList"), (0, u "elementData"), (0, u "[Ljava/lang/Object;"), (2, u "EMPTY_ELEMENTDATA"), (21, .fieldref 10 40), (0, .nameAndType 41 14), (0, u "DEFAULTCAPACITY_EMPTY_ELEMENTDATA"), (5, u "()[Ljava/lang/Object;"), (0, .fieldref 10 49), (0, .nameAndType 50 51), (0, u "size"), (0, u "I"), (11, .fieldref 10 64), (0, .nameAndType 65 51), (0, u "modCount"), (3, .methodref 10 70), (0, .nameAndType 71 72), (0, u "grow"), (0, u "(I)[Ljava/lang/Object;"), (6, .methodref 80 81), (0, .class_ 82), (0, .nameAndType 83 84), (0, u "java/lang/Math"), (0, u "max"), (0, u "(II)I"), (11, u "(Ljava/lang/Object;)Z"), (32, .methodref 10 130), (0, .nameAndType 71 47), (0, .methodref 10 132), (0, .nameAndType 133 134), (0, u "add"), (0, u "(Ljava/lang/Object;[Ljava/lang/Object;I)V"), (13, .class_ 149), (0, u "java/util/List"), (36, u "()I"), (75, .class_ 263), (0, u "java/util/ArrayList$ListItr"), (3, .class_ 268), (0, u "java/util/ArrayList$Itr"), (7, .class_ 277), (0, u "java/util/ArrayList$SubList"), (12, .class_ 291), (0, u "java/util/ArrayList$ArrayListSpliterator"), (37, .class_ 330), (0, u "java/util/RandomAccess"), (0, .class_ 332), (0, u "java/lang/Cloneable"), (0, .class_ 334), (0, u "java/io/Serializable"), (0, u "serialVersionUID"), (0, u "J"), (3, u "DEFAULT_CAPACITY"), (159, .class_ 501), (0, u "java/util/ArrayList$SubList$2"), (0, .class_ 503), (0, u "java/util/ArrayList$SubList$1")] 5

def k18c0 : Code := { maxStack := 2, maxLocals := 1, code := jdk_38_method_2_code, exceptionTable := #[], attributes := #[] }
def k18m0 : Method := { name := "<init>", desc := "()V", sig := { parameters := [], returnType := none }, accessFlags := 1, code := some k18c0 }
def k18c1 : Code := { maxStack := 4, maxLocals := 4, code := jdk_38_method_6_code, exceptionTable := #[], attributes := #[] }
def k18m1 : Method := { name := "grow", desc := "(I)[Ljava/lang/Object;", sig := { parameters := [.int], returnType := some (.array (.object "java/lang/Object")) }, accessFlags := 2, code := some k18c1 }
def k18c2 : Code := { maxStack := 3, maxLocals := 1, code := jdk_38_method_7_code, exceptionTable := #[], attributes := #[] }
def k18m2 : Method := { name := "grow", desc := "()[Ljava/lang/Object;", sig := { parameters := [], returnType := some (.array (.object "java/lang/Object")) }, accessFlags := 2, code := some k18c2 }
def k18c3 : Code := { maxStack := 1, maxLocals := 1, code := jdk_38_method_8_code, exceptionTable := #[], attributes := #[] }
def k18m3 : Method := { name := "size", desc := "()I", sig := { parameters := [], returnType := some .int }, accessFlags := 1, code := some k18c3 }
def k18c4 : Code := { maxStack := 3, maxLocals := 4, code := jdk_38_method_24_code, exceptionTable := #[], attributes := #[] }
def k18m4 : Method := { name := "add", desc := "(Ljava/lang/Object;[Ljava/lang/Object;I)V", sig := { parameters := [(.object "java/lang/Object"), (.array (.object "java/lang/Object")), .int], returnType := none }, accessFlags := 2, code := some k18c4 }
def k18c5 : Code := { maxStack := 4, maxLocals := 2, code := jdk_38_method_25_code, exceptionTable := #[], attributes := #[] }
def k18m5 : Method := { name := "add", desc := "(Ljava/lang/Object;)Z", sig := { parameters := [(.object "java/lang/Object")], returnType := some .boolean }, accessFlags := 1, code := some k18c5 }
/-- java/util/ArrayList -/
def k18 : Class := { plain "java/util/ArrayList" (some 15) with
  accessFlags := 33
  interfaces := #[14, 16, 17, 2]
  cf := some (fileOf pool18 10 #[.nestMembers #[290, 276, 500, 502, 262, 267]] #[{ accessFlags := 1, nameIndex := 5, descriptorIndex := 6, attributes := #[] }, { accessFlags := 2, nameIndex := 71, descriptorIndex := 72, attributes := #[] }, { accessFlags := 2, nameIndex := 71, descriptorIndex := 47, attributes := #[] }, { accessFlags := 1, nameIndex := 50, descriptorIndex := 186, attributes := #[] }, { accessFlags := 2, nameIndex := 133, descriptorIndex := 134, attributes := #[] }, { accessFlags := 1, nameIndex := 133, descriptorIndex := 96, attributes := #[] }] 33 2 #[148, 329, 331, 333] #[{ accessFlags := 26, nameIndex := 335, descriptorIndex := 336, attributes := #[] }, { accessFlags := 26, nameIndex := 340, descriptorIndex := 51, attributes := #[] }, { accessFlags := 26, nameIndex := 17, descriptorIndex := 14, attributes := #[] }, { accessFlags := 26, nameIndex := 41, descriptorIndex := 14, attributes := #[] }, { accessFlags := 128, nameIndex := 13, descriptorIndex := 14, attributes := #[] }, { accessFlags := 2, nameIndex := 50, descriptorIndex := 51, attributes := #[] }])
  fields := #[{ name := "serialVersionUID", type := .long, accessFlags := 26, slot := 0, constantValue := 0 }, { name := "DEFAULT_CAPACITY", type := .int, accessFlags := 26, slot := 1, constantValue := 0 }, { name := "EMPTY_ELEMENTDATA", type := (.array (.object "java/lang/Object")), accessFlags := 26, slot := 2, constantValue := 0 }, { name := "DEFAULTCAPACITY_EMPTY_ELEMENTDATA", type := (.array (.object "java/lang/Object")), accessFlags := 26, slot := 3, constantValue := 0 }, { name := "elementData", type := (.array (.object "java/lang/Object")), accessFlags := 128, slot := 1, constantValue := 0 }, { name := "size", type := .int, accessFlags := 2, slot := 2, constantValue := 0 }]
  methods := #[k18m0, k18m1, k18m2, k18m3, k18m4, k18m5]
  instanceTypes := #[.int, (.array (.object "java/lang/Object")), .int]
  staticTypes := #[.long, .int, (.array (.object "java/lang/Object")), (.array (.object "java/lang/Object"))]
  resolved := Array.replicate 509 none
  statics := some 1 }

def pool19 : Array CpInfo := pool [(1, .class_ 2), (0, u "java/lang/Math"), (1, .class_ 6), (1, u "java/lang/Object"), (0, u "<init>"), (0, u "()V"), (89, .class_ 100), (1, u "java/lang/Math$RandomNumberGeneratorHolder"), (71, u "negativeZeroFloatBits"), (0, u "J"), (2, u "negativeZeroDoubleBits"), (21, u "max"), (46, u "$assertionsDisabled"), (0, u "Z"), (88, u "(II)I"), (2, u "twoToTheDoubleScaleDown"), (0, u "D"), (4, u "twoToTheDoubleScaleUp"), (9, u "E"), (3, u "PI"), (2, u "TAU"), (2, u "DEGREES_TO_RADIANS"), (0, u "RADIANS_TO_DEGREES")] 94

def k19m0 : Method := { name := "<init>", desc := "()V", sig := { parameters := [], returnType := none }, accessFlags := 2, code := none }
def k19c1 : Code := { maxStack := 2, maxLocals := 2, code := jdk_29_method_65_code, exceptionTable := #[], attributes := #[] }
def k19m1 : Method := { name := "max", desc := "(II)I", sig := { parameters := [.int, .int], returnType := some .int }, accessFlags := 9, code := some k19c1 }
/-- java/lang/Math -/
def k19 : Class := { plain "java/lang/Math" (some 0) with
  accessFlags := 49
  interfaces := #[]
  cf := some (fileOf pool19 1 #[.nestMembers #[98]] #[{ accessFlags := 2, nameIndex := 7, descriptorIndex := 8, attributes := #[] }, { accessFlags := 9, nameIndex := 198, descriptorIndex := 335, attributes := #[] }] 49 4 #[] #[{ accessFlags := 25, nameIndex := 354, descriptorIndex := 339, attributes := #[] }, { accessFlags := 25, nameIndex := 358, descriptorIndex := 339, attributes := #[] }, { accessFlags := 25, nameIndex := 361, descriptorIndex := 339, attributes := #[] }, { accessFlags := 26, nameIndex := 364, descriptorIndex := 339, attributes := #[] }, { accessFlags := 26, nameIndex := 365, descriptorIndex := 339, attributes := #[] }, { accessFlags := 26, nameIndex := 172, descriptorIndex := 173, attributes := #[] }, { accessFlags := 26, nameIndex := 176, descriptorIndex := 173, attributes := #[] }, { accessFlags := 8, nameIndex := 344, descriptorIndex := 339, attributes := #[] }, { accessFlags := 8, nameIndex := 338, descriptorIndex := 339, attributes := #[] }, { accessFlags := 4120, nameIndex := 245, descriptorIndex := 246, attributes := #[] }])
  fields := #[{ name := "E", type := .double, accessFlags := 25, slot := 0, constantValue := 0 }, { name := "PI", type := .double, accessFlags := 25, slot := 1, constantValue := 0 }, { name := "TAU", type := .double, accessFlags := 25, slot := 2, constantValue := 0 }, { name := "DEGREES_TO_RADIANS", type := .double, accessFlags := 26, slot := 3, constantValue := 0 }, { name := "RADIANS_TO_DEGREES", type := .double, accessFlags := 26, slot := 4, constantValue := 0 }, { name := "negativeZeroFloatBits", type := .long, accessFlags := 26, slot := 5, constantValue := 0 }, { name := "negativeZeroDoubleBits", type := .long, accessFlags := 26, slot := 6, constantValue := 0 }, { name := "twoToTheDoubleScaleUp", type := .double, accessFlags := 8, slot := 7, constantValue := 0 }, { name := "twoToTheDoubleScaleDown", type := .double, accessFlags := 8, slot := 8, constantValue := 0 }, { name := "$assertionsDisabled", type := .boolean, accessFlags := 4120, slot := 9, constantValue := 0 }]
  methods := #[k19m0, k19m1]
  instanceTypes := #[]
  staticTypes := #[.double, .double, .double, .double, .double, .long, .long, .double, .double, .boolean]
  resolved := Array.replicate 460 none
  statics := none }

def pool20 : Array CpInfo := pool [(2, .class_ 4), (1, u "java/lang/Object"), (0, u "<init>"), (0, u "()V"), (17, .class_ 26), (1, u "jdk/internal/util/Preconditions"), (28, .class_ 56), (0, u "jdk/internal/util/Preconditions$4"), (57, .class_ 115), (0, u "jdk/internal/util/Preconditions$1"), (7, u "SIOOBE_FORMATTER"), (0, u "Ljava/util/function/BiFunction;"), (0, .class_ 126), (0, u "jdk/internal/util/Preconditions$2"), (3, u "AIOOBE_FORMATTER"), (0, .class_ 132), (0, u "jdk/internal/util/Preconditions$3"), (3, u "IOOBE_FORMATTER")] 57

def k20m0 : Method := { name := "<init>", desc := "()V", sig := { parameters := [], returnType := none }, accessFlags := 1, code := none }
/-- jdk/internal/util/Preconditions -/
def k20 : Class := { plain "jdk/internal/util/Preconditions" (some 0) with
  accessFlags := 33
  interfaces := #[]
  cf := some (fileOf pool20 24 #[.nestMembers #[55, 131, 125, 114]] #[{ accessFlags := 1, nameIndex := 5, descriptorIndex := 6, attributes := #[] }] 33 2 #[] #[{ accessFlags := 25, nameIndex := 123, descriptorIndex := 124, attributes := #[] }, { accessFlags := 25, nameIndex := 130, descriptorIndex := 124, attributes := #[] }, { accessFlags := 25, nameIndex := 136, descriptorIndex := 124, attributes := #[] }])
  fields := #[{ name := "SIOOBE_FORMATTER", type := (.object "java/util/function/BiFunction"), accessFlags := 25, slot := 0, constantValue := 0 }, { name := "AIOOBE_FORMATTER", type := (.object "java/util/function/BiFunction"), accessFlags := 25, slot := 1, constantValue := 0 }, { name := "IOOBE_FORMATTER", type := (.object "java/util/function/BiFunction"), accessFlags := 25, slot := 2, constantValue := 0 }]
  methods := #[k20m0]
  instanceTypes := #[]
  staticTypes := #[(.object "java/util/function/BiFunction"), (.object "java/util/function/BiFunction"), (.object "java/util/function/BiFunction")]
  resolved := Array.replicate 194 none
  statics := some 2 }

def pool21 : Array CpInfo := pool [(9, u "<init>"), (6, .class_ 18), (1, u "java/lang/Object"), (0, u "()V"), (1, .class_ 23), (1, u "jdk/internal/util/ArraysSupport"), (0, u "LOG2_ARRAY_LONG_INDEX_SCALE"), (0, u "I"), (2, u "U"), (0, u "Ljdk/internal/misc/Unsafe;"), (8, u "BIG_ENDIAN"), (0, u "Z"), (8, u "LOG2_BYTE_BIT_SIZE"), (4, u "LOG2_ARRAY_INT_INDEX_SCALE"), (54, u "JLA"), (0, u "Ljdk/internal/access/JavaLangAccess;"), (11, u "LOG2_ARRAY_BOOLEAN_INDEX_SCALE"), (9, u "LOG2_ARRAY_BYTE_INDEX_SCALE"), (5, u "LOG2_ARRAY_CHAR_INDEX_SCALE"), (5, u "LOG2_ARRAY_SHORT_INDEX_SCALE"), (18, u "LOG2_ARRAY_FLOAT_INDEX_SCALE"), (24, u "LOG2_ARRAY_DOUBLE_INDEX_SCALE"), (89, u "T_BOOLEAN"), (2, u "T_CHAR"), (1, u "T_FLOAT"), (1, u "T_DOUBLE"), (1, u "T_BYTE"), (1, u "T_SHORT"), (1, u "T_INT"), (1, u "T_LONG"), (1, u "SOFT_MAX_ARRAY_LENGTH")] 83

def k21m0 : Method := { name := "<init>", desc := "()V", sig := { parameters := [], returnType := none }, accessFlags := 2, code := none }
/-- jdk/internal/util/ArraysSupport -/
def k21 : Class := { plain "jdk/internal/util/ArraysSupport" (some 0) with
  accessFlags := 33
  interfaces := #[]
  cf := some (fileOf pool21 21 #[] #[{ accessFlags := 2, nameIndex := 9, descriptorIndex := 19, attributes := #[] }] 33 16 #[] #[{ accessFlags := 24, nameIndex := 28, descriptorIndex := 29, attributes := #[] }, { accessFlags := 26, nameIndex := 38, descriptorIndex := 39, attributes := #[] }, { accessFlags := 25, nameIndex := 121, descriptorIndex := 25, attributes := #[] }, { accessFlags := 25, nameIndex := 131, descriptorIndex := 25, attributes := #[] }, { accessFlags := 25, nameIndex := 137, descriptorIndex := 25, attributes := #[] }, { accessFlags := 25, nameIndex := 143, descriptorIndex := 25, attributes := #[] }, { accessFlags := 25, nameIndex := 53, descriptorIndex := 25, attributes := #[] }, { accessFlags := 25, nameIndex := 24, descriptorIndex := 25, attributes := #[] }, { accessFlags := 25, nameIndex := 162, descriptorIndex := 25, attributes := #[] }, { accessFlags := 25, nameIndex := 187, descriptorIndex := 25, attributes := #[] }, { accessFlags := 26, nameIndex := 48, descriptorIndex := 25, attributes := #[] }, { accessFlags := 25, nameIndex := 277, descriptorIndex := 25, attributes := #[] }, { accessFlags := 25, nameIndex := 280, descriptorIndex := 25, attributes := #[] }, { accessFlags := 25, nameIndex := 282, descriptorIndex := 25, attributes := #[] }, { accessFlags := 25, nameIndex := 284, descriptorIndex := 25, attributes := #[] }, { accessFlags := 25, nameIndex := 286, descriptorIndex := 25, attributes := #[] }, { accessFlags := 25, nameIndex := 288, descriptorIndex := 25, attributes := #[] }, { accessFlags := 25, nameIndex := 290, descriptorIndex := 25, attributes := #[] }, { accessFlags := 25, nameIndex := 292, descriptorIndex := 25, attributes := #[] }, { accessFlags := 26, nameIndex := 108, descriptorIndex := 109, attributes := #[] }, { accessFlags := 25, nameIndex := 294, descriptorIndex := 25, attributes := #[] }])
  fields := #[{ name := "U", type := (.object "jdk/internal/misc/Unsafe"), accessFlags := 24, slot := 0, constantValue := 0 }, { name := "BIG_ENDIAN", type := .boolean, accessFlags := 26, slot := 1, constantValue := 0 }, { name := "LOG2_ARRAY_BOOLEAN_INDEX_SCALE", type := .int, accessFlags := 25, slot := 2, constantValue := 0 }, { name := "LOG2_ARRAY_BYTE_INDEX_SCALE", type := .int, accessFlags := 25, slot := 3, constantValue := 0 }, { name := "LOG2_ARRAY_CHAR_INDEX_SCALE", type := .int, accessFlags := 25, slot := 4, constantValue := 0 }, { name := "LOG2_ARRAY_SHORT_INDEX_SCALE", type := .int, accessFlags := 25, slot := 5, constantValue := 0 }, { name := "LOG2_ARRAY_INT_INDEX_SCALE", type := .int, accessFlags := 25, slot := 6, constantValue := 0 }, { name := "LOG2_ARRAY_LONG_INDEX_SCALE", type := .int, accessFlags := 25, slot := 7, constantValue := 0 }, { name := "LOG2_ARRAY_FLOAT_INDEX_SCALE", type := .int, accessFlags := 25, slot := 8, constantValue := 0 }, { name := "LOG2_ARRAY_DOUBLE_INDEX_SCALE", type := .int, accessFlags := 25, slot := 9, constantValue := 0 }, { name := "LOG2_BYTE_BIT_SIZE", type := .int, accessFlags := 26, slot := 10, constantValue := 0 }, { name := "T_BOOLEAN", type := .int, accessFlags := 25, slot := 11, constantValue := 0 }, { name := "T_CHAR", type := .int, accessFlags := 25, slot := 12, constantValue := 0 }, { name := "T_FLOAT", type := .int, accessFlags := 25, slot := 13, constantValue := 0 }, { name := "T_DOUBLE", type := .int, accessFlags := 25, slot := 14, constantValue := 0 }, { name := "T_BYTE", type := .int, accessFlags := 25, slot := 15, constantValue := 0 }, { name := "T_SHORT", type := .int, accessFlags := 25, slot := 16, constantValue := 0 }, { name := "T_INT", type := .int, accessFlags := 25, slot := 17, constantValue := 0 }, { name := "T_LONG", type := .int, accessFlags := 25, slot := 18, constantValue := 0 }, { name := "JLA", type := (.object "jdk/internal/access/JavaLangAccess"), accessFlags := 26, slot := 19, constantValue := 0 }, { name := "SOFT_MAX_ARRAY_LENGTH", type := .int, accessFlags := 25, slot := 20, constantValue := 0 }]
  methods := #[k21m0]
  instanceTypes := #[]
  staticTypes := #[(.object "jdk/internal/misc/Unsafe"), .boolean, .int, .int, .int, .int, .int, .int, .int, .int, .int, .int, .int, .int, .int, .int, .int, .int, .int, (.object "jdk/internal/access/JavaLangAccess"), .int]
  resolved := Array.replicate 378 none
  statics := none }

/-- the primitive byte -/
def k22 : Class := { plain "byte" none with kind := .primitive 'B', accessFlags := 0x411 }
/-- [B -/
def k23 : Class := { plain "[B" (some 0) with kind := .array 22 .byte, interfaces := #[17, 2], accessFlags := 1041 }

/-- the primitive int -/
def k24 : Class := { plain "int" none with kind := .primitive 'I', accessFlags := 0x411 }
/-- [I -/
def k25 : Class := { plain "[I" (some 0) with kind := .array 24 .int, interfaces := #[17, 2], accessFlags := 1041 }

/-- [Ljava/lang/Object; -/
def k26 : Class := { plain "[Ljava/lang/Object;" (some 0) with kind := .array 0 (.object "java/lang/Object"), interfaces := #[17, 2], accessFlags := 1041 }

def heap : Heap := #[{ cls := 7, slots := #[.long 0, .int 1, .null, .int 0, .null, .int 0, .int 0], vm := .statics 7 },
  { cls := 18, slots := #[.long 0, .int 0, .ref 3, .ref 4], vm := .statics 18 },
  { cls := 20, slots := #[.null, .null, .null], vm := .statics 20 },
  { cls := 26, slots := #[], vm := .none },
  { cls := 26, slots := #[], vm := .none }]
def classes : Array Class := #[k0, k1, k2, k3, k4, k5, k6, k7, k8, k9, k10, k11, k12, k13, k14, k15, k16, k17, k18, k19, k20, k21, k22, k23, k24, k25, k26]
def interned : List (Array UInt16 × Addr) := []
def slotsUsed : Nat := 14
def theMethod : MethodId := ⟨1, 1⟩
def args0 : Array Value := #[.int 5, .long 5, .int 5]
def aboutOver (below : List Frame) : State where
  vm := { classes := classes, interned := interned.toArray }
  heap := heap
  slotsUsed := slotsUsed
  threads := #[{ frames := .invoking theMethod args0 :: below }]
def below0 : List Frame := [.native { method := ⟨0, 0⟩, args := #[] }]
def about1 : State := aboutOver below0
def p0 : Program := .bare "" "" ""
def e0 : Env := launch0.env 0 0 0
theorem w_frames : about1.frames = Frame.invoking theMethod args0 :: below0 := rfl
set_option maxRecDepth 65536 in
theorem w_args : argsFit about1.vm theMethod args0 = true := by decide +kernel
set_option maxRecDepth 65536 in
theorem w_heap : heapFits about1 = true := by decide +kernel
set_option maxRecDepth 65536 in
theorem w_runnable : about1.curStatus? = some .runnable := by decide +kernel
set_option maxRecDepth 65536 in
theorem w_alone : about1.alone = true := by decide +kernel
set_option maxRecDepth 65536 in
theorem w_named : about1.methodNamed? x = some theMethod := by decide +kernel
set_option maxRecDepth 65536 in
theorem w_hears : about1.hears theMethod below0 = true := by decide +kernel
set_option maxRecDepth 65536 in
theorem w_ripe : about1.ripe theMethod args0 below0 = true := by decide +kernel
theorem w_running : about1.status = .running := rfl
set_option maxRecDepth 65536 in
theorem w_room : about1.hasRoom e0.platform room_1 = true :=
  launch0.hasRoom_least _ room_1 (by decide +kernel) (by decide +kernel) (by decide +kernel) (by decide +kernel) (by decide +kernel) (by decide +kernel)
theorem allAtoms_all (ts : List Jvm.Cond) (a : Array Jvm.Value) (st : Jvm.State) : (allAtoms ts).before a st = ts.all (fun c => c.before a st) := by
  induction ts with
  | nil => rfl
  | cons c t ih =>
    show (Jvm.Cond.and c (allAtoms t)).before a st = _
    rw [Jvm.Cond.before_and, ih, List.all_cons]
def words1 : List Jvm.Cond := Jvm.Cond.code x code maxLocals ret :: tables_1
/-- a 'code' word, met by the world's own term for the bytes: nothing is compared byte by byte -/
theorem code_word {y : MethodName} {bytes : ByteArray} {mx : Nat} {rt : Option FieldType} {a : Array Value} {s : State} {m : MethodId} {meth : Method} {c : Code} (h1 : s.methodNamed? y = some m) (h2 : s.vm.method? m = some meth) (h3 : meth.code = some c) (h4 : c.code = bytes)
    (h5 : (c.maxLocals == mx && c.exceptionTable.isEmpty && decide (c.maxStack ≤ mostOperands) && decide (meth.sig.returnType = rt) && !meth.locks && decide (parseMethodDescriptor y.desc = some meth.sig)) = true) : (Jvm.Cond.code y bytes mx rt).before a s = true := by
  simp only [Bool.and_eq_true, beq_iff_eq, Bool.not_eq_true', decide_eq_true_eq] at h5
  obtain ⟨⟨⟨⟨⟨g1, g2⟩, g3⟩, g4⟩, g5⟩, g6⟩ := h5
  simp [Cond.before, Cond.holds, Cond.value, h1, h2, h3, h4, g1, g2, g3, g4, g5, g6]
def isCode : Jvm.Cond → Bool
  | .code _ _ _ _ => true
  | _ => false
theorem all_split {L : List Jvm.Cond} {P : Jvm.Cond → Bool} (h1 : L.all (fun c => isCode c || P c) = true) (h2 : ∀ c ∈ L.filter isCode, P c = true) : L.all P = true := by
  refine List.all_eq_true.mpr fun c hc => ?_
  have h := List.all_eq_true.mp h1 c hc
  rcases Bool.eq_false_or_eq_true (isCode c) with hi | hi
  · exact h2 c (List.mem_filter.mpr ⟨hc, hi⟩)
  · simpa [hi] using h
set_option maxRecDepth 65536 in
theorem w_c0 : (Jvm.Cond.code x code maxLocals ret).before args0 about1 = true := code_word (m := ⟨1, 1⟩) (meth := k1m1) (c := k1c1) (by decide +kernel) rfl rfl rfl (by decide +kernel)
set_option maxRecDepth 65536 in
theorem w_c1 : (Jvm.Cond.code ({ cls := "java/lang/String", name := "valueOf", desc := "(C)Ljava/lang/String;" } : Jvm.MethodName) jdk_42_method_139_code (1 : Nat) (Option.some (Jvm.ClassFile.FieldType.object "java/lang/String"))).before args0 about1 = true := code_word (m := ⟨7, 1⟩) (meth := k7m1) (c := k7c1) (by decide +kernel) rfl rfl rfl (by decide +kernel)
set_option maxRecDepth 65536 in
theorem w_c2 : (Jvm.Cond.code ({ cls := "java/lang/StringLatin1", name := "canEncode", desc := "(C)Z" } : Jvm.MethodName) jdk_43_method_3_code (1 : Nat) (Option.some Jvm.ClassFile.FieldType.boolean)).before args0 about1 = true := code_word (m := ⟨8, 1⟩) (meth := k8m1) (c := k8c1) (by decide +kernel) rfl rfl rfl (by decide +kernel)
set_option maxRecDepth 65536 in
theorem w_c3 : (Jvm.Cond.code ({ cls := "java/lang/StringLatin1", name := "toBytes", desc := "(C)[B" } : Jvm.MethodName) jdk_43_method_46_code (1 : Nat) (Option.some (Jvm.ClassFile.FieldType.array Jvm.ClassFile.FieldType.byte))).before args0 about1 = true := code_word (m := ⟨8, 2⟩) (meth := k8m2) (c := k8c2) (by decide +kernel) rfl rfl rfl (by decide +kernel)
set_option maxRecDepth 65536 in
theorem w_c4 : (Jvm.Cond.code ({ cls := "java/lang/String", name := "<init>", desc := "([BB)V" } : Jvm.MethodName) jdk_42_method_151_code (3 : Nat) (Option.none : Option Jvm.ClassFile.FieldType)).before args0 about1 = true := code_word (m := ⟨7, 2⟩) (meth := k7m2) (c := k7c2) (by decide +kernel) rfl rfl rfl (by decide +kernel)
set_option maxRecDepth 65536 in
theorem w_c5 : (Jvm.Cond.code ({ cls := "java/lang/Object", name := "<init>", desc := "()V" } : Jvm.MethodName) object_method_1_code (1 : Nat) (Option.none : Option Jvm.ClassFile.FieldType)).before args0 about1 = true := code_word (m := ⟨0, 0⟩) (meth := k0m0) (c := k0c0) (by decide +kernel) rfl rfl rfl (by decide +kernel)
set_option maxRecDepth 65536 in
theorem w_c6 : (Jvm.Cond.code ({ cls := "com/example/roles_to_grants/rolestogrants/input/ProblemList", name := "<init>", desc := "()V" } : Jvm.MethodName) prog_17_method_1_code (1 : Nat) (Option.none : Option Jvm.ClassFile.FieldType)).before args0 about1 = true := code_word (m := ⟨9, 0⟩) (meth := k9m0) (c := k9c0) (by decide +kernel) rfl rfl rfl (by decide +kernel)
set_option maxRecDepth 65536 in
theorem w_c7 : (Jvm.Cond.code ({ cls := "java/util/ArrayList", name := "<init>", desc := "()V" } : Jvm.MethodName) jdk_38_method_2_code (1 : Nat) (Option.none : Option Jvm.ClassFile.FieldType)).before args0 about1 = true := code_word (m := ⟨18, 0⟩) (meth := k18m0) (c := k18c0) (by decide +kernel) rfl rfl rfl (by decide +kernel)
set_option maxRecDepth 65536 in
theorem w_c8 : (Jvm.Cond.code ({ cls := "java/util/AbstractList", name := "<init>", desc := "()V" } : Jvm.MethodName) jdk_39_method_1_code (1 : Nat) (Option.none : Option Jvm.ClassFile.FieldType)).before args0 about1 = true := code_word (m := ⟨15, 0⟩) (meth := k15m0) (c := k15c0) (by decide +kernel) rfl rfl rfl (by decide +kernel)
set_option maxRecDepth 65536 in
theorem w_c9 : (Jvm.Cond.code ({ cls := "java/util/AbstractCollection", name := "<init>", desc := "()V" } : Jvm.MethodName) jdk_22_method_1_code (1 : Nat) (Option.none : Option Jvm.ClassFile.FieldType)).before args0 about1 = true := code_word (m := ⟨12, 0⟩) (meth := k12m0) (c := k12c0) (by decide +kernel) rfl rfl rfl (by decide +kernel)
set_option maxRecDepth 65536 in
theorem w_c10 : (Jvm.Cond.code ({ cls := "com/example/roles_to_grants/rolestogrants/input/ProblemList", name := "isEmpty", desc := "()Z" } : Jvm.MethodName) prog_17_method_4_code (1 : Nat) (Option.some Jvm.ClassFile.FieldType.boolean)).before args0 about1 = true := code_word (m := ⟨9, 3⟩) (meth := k9m3) (c := k9c3) (by decide +kernel) rfl rfl rfl (by decide +kernel)
set_option maxRecDepth 65536 in
theorem w_c11 : (Jvm.Cond.code ({ cls := "com/example/roles_to_grants/rolestogrants/input/ProblemList", name := "addUnnamed", desc := "(J)V" } : Jvm.MethodName) prog_17_method_3_code (3 : Nat) (Option.none : Option Jvm.ClassFile.FieldType)).before args0 about1 = true := code_word (m := ⟨9, 2⟩) (meth := k9m2) (c := k9c2) (by decide +kernel) rfl rfl rfl (by decide +kernel)
set_option maxRecDepth 65536 in
theorem w_c12 : (Jvm.Cond.code ({ cls := "com/example/roles_to_grants/rolestogrants/input/ProblemList", name := "add", desc := "(Ljava/lang/String;)V" } : Jvm.MethodName) prog_17_method_2_code (2 : Nat) (Option.none : Option Jvm.ClassFile.FieldType)).before args0 about1 = true := code_word (m := ⟨9, 1⟩) (meth := k9m1) (c := k9c1) (by decide +kernel) rfl rfl rfl (by decide +kernel)
set_option maxRecDepth 65536 in
theorem w_c13 : (Jvm.Cond.code ({ cls := "java/util/ArrayList", name := "size", desc := "()I" } : Jvm.MethodName) jdk_38_method_8_code (1 : Nat) (Option.some Jvm.ClassFile.FieldType.int)).before args0 about1 = true := code_word (m := ⟨18, 3⟩) (meth := k18m3) (c := k18c3) (by decide +kernel) rfl rfl rfl (by decide +kernel)
set_option maxRecDepth 65536 in
theorem w_c14 : (Jvm.Cond.code ({ cls := "java/util/ArrayList", name := "add", desc := "(Ljava/lang/Object;)Z" } : Jvm.MethodName) jdk_38_method_25_code (2 : Nat) (Option.some Jvm.ClassFile.FieldType.boolean)).before args0 about1 = true := code_word (m := ⟨18, 5⟩) (meth := k18m5) (c := k18c5) (by decide +kernel) rfl rfl rfl (by decide +kernel)
set_option maxRecDepth 65536 in
theorem w_c15 : (Jvm.Cond.code ({ cls := "java/util/ArrayList", name := "add", desc := "(Ljava/lang/Object;[Ljava/lang/Object;I)V" } : Jvm.MethodName) jdk_38_method_24_code (4 : Nat) (Option.none : Option Jvm.ClassFile.FieldType)).before args0 about1 = true := code_word (m := ⟨18, 4⟩) (meth := k18m4) (c := k18c4) (by decide +kernel) rfl rfl rfl (by decide +kernel)
set_option maxRecDepth 65536 in
theorem w_c16 : (Jvm.Cond.code ({ cls := "java/util/ArrayList", name := "grow", desc := "()[Ljava/lang/Object;" } : Jvm.MethodName) jdk_38_method_7_code (1 : Nat) (Option.some (Jvm.ClassFile.FieldType.array (Jvm.ClassFile.FieldType.object "java/lang/Object")))).before args0 about1 = true := code_word (m := ⟨18, 2⟩) (meth := k18m2) (c := k18c2) (by decide +kernel) rfl rfl rfl (by decide +kernel)
set_option maxRecDepth 65536 in
theorem w_c17 : (Jvm.Cond.code ({ cls := "java/util/ArrayList", name := "grow", desc := "(I)[Ljava/lang/Object;" } : Jvm.MethodName) jdk_38_method_6_code (4 : Nat) (Option.some (Jvm.ClassFile.FieldType.array (Jvm.ClassFile.FieldType.object "java/lang/Object")))).before args0 about1 = true := code_word (m := ⟨18, 1⟩) (meth := k18m1) (c := k18c1) (by decide +kernel) rfl rfl rfl (by decide +kernel)
set_option maxRecDepth 65536 in
theorem w_c18 : (Jvm.Cond.code ({ cls := "java/lang/Math", name := "max", desc := "(II)I" } : Jvm.MethodName) jdk_29_method_65_code (2 : Nat) (Option.some Jvm.ClassFile.FieldType.int)).before args0 about1 = true := code_word (m := ⟨19, 1⟩) (meth := k19m1) (c := k19c1) (by decide +kernel) rfl rfl rfl (by decide +kernel)
def codes1 : List Jvm.Cond := [Jvm.Cond.code x code maxLocals ret, Jvm.Cond.code ({ cls := "java/lang/String", name := "valueOf", desc := "(C)Ljava/lang/String;" } : Jvm.MethodName) jdk_42_method_139_code (1 : Nat) (Option.some (Jvm.ClassFile.FieldType.object "java/lang/String")), Jvm.Cond.code ({ cls := "java/lang/StringLatin1", name := "canEncode", desc := "(C)Z" } : Jvm.MethodName) jdk_43_method_3_code (1 : Nat) (Option.some Jvm.ClassFile.FieldType.boolean), Jvm.Cond.code ({ cls := "java/lang/StringLatin1", name := "toBytes", desc := "(C)[B" } : Jvm.MethodName) jdk_43_method_46_code (1 : Nat) (Option.some (Jvm.ClassFile.FieldType.array Jvm.ClassFile.FieldType.byte)), Jvm.Cond.code ({ cls := "java/lang/String", name := "<init>", desc := "([BB)V" } : Jvm.MethodName) jdk_42_method_151_code (3 : Nat) (Option.none : Option Jvm.ClassFile.FieldType), Jvm.Cond.code ({ cls := "java/lang/Object", name := "<init>", desc := "()V" } : Jvm.MethodName) object_method_1_code (1 : Nat) (Option.none : Option Jvm.ClassFile.FieldType), Jvm.Cond.code ({ cls := "com/example/roles_to_grants/rolestogrants/input/ProblemList", name := "<init>", desc := "()V" } : Jvm.MethodName) prog_17_method_1_code (1 : Nat) (Option.none : Option Jvm.ClassFile.FieldType), Jvm.Cond.code ({ cls := "java/util/ArrayList", name := "<init>", desc := "()V" } : Jvm.MethodName) jdk_38_method_2_code (1 : Nat) (Option.none : Option Jvm.ClassFile.FieldType), Jvm.Cond.code ({ cls := "java/util/AbstractList", name := "<init>", desc := "()V" } : Jvm.MethodName) jdk_39_method_1_code (1 : Nat) (Option.none : Option Jvm.ClassFile.FieldType), Jvm.Cond.code ({ cls := "java/util/AbstractCollection", name := "<init>", desc := "()V" } : Jvm.MethodName) jdk_22_method_1_code (1 : Nat) (Option.none : Option Jvm.ClassFile.FieldType), Jvm.Cond.code ({ cls := "com/example/roles_to_grants/rolestogrants/input/ProblemList", name := "isEmpty", desc := "()Z" } : Jvm.MethodName) prog_17_method_4_code (1 : Nat) (Option.some Jvm.ClassFile.FieldType.boolean), Jvm.Cond.code ({ cls := "com/example/roles_to_grants/rolestogrants/input/ProblemList", name := "addUnnamed", desc := "(J)V" } : Jvm.MethodName) prog_17_method_3_code (3 : Nat) (Option.none : Option Jvm.ClassFile.FieldType), Jvm.Cond.code ({ cls := "com/example/roles_to_grants/rolestogrants/input/ProblemList", name := "add", desc := "(Ljava/lang/String;)V" } : Jvm.MethodName) prog_17_method_2_code (2 : Nat) (Option.none : Option Jvm.ClassFile.FieldType), Jvm.Cond.code ({ cls := "java/util/ArrayList", name := "size", desc := "()I" } : Jvm.MethodName) jdk_38_method_8_code (1 : Nat) (Option.some Jvm.ClassFile.FieldType.int), Jvm.Cond.code ({ cls := "java/util/ArrayList", name := "add", desc := "(Ljava/lang/Object;)Z" } : Jvm.MethodName) jdk_38_method_25_code (2 : Nat) (Option.some Jvm.ClassFile.FieldType.boolean), Jvm.Cond.code ({ cls := "java/util/ArrayList", name := "add", desc := "(Ljava/lang/Object;[Ljava/lang/Object;I)V" } : Jvm.MethodName) jdk_38_method_24_code (4 : Nat) (Option.none : Option Jvm.ClassFile.FieldType), Jvm.Cond.code ({ cls := "java/util/ArrayList", name := "grow", desc := "()[Ljava/lang/Object;" } : Jvm.MethodName) jdk_38_method_7_code (1 : Nat) (Option.some (Jvm.ClassFile.FieldType.array (Jvm.ClassFile.FieldType.object "java/lang/Object"))), Jvm.Cond.code ({ cls := "java/util/ArrayList", name := "grow", desc := "(I)[Ljava/lang/Object;" } : Jvm.MethodName) jdk_38_method_6_code (4 : Nat) (Option.some (Jvm.ClassFile.FieldType.array (Jvm.ClassFile.FieldType.object "java/lang/Object"))), Jvm.Cond.code ({ cls := "java/lang/Math", name := "max", desc := "(II)I" } : Jvm.MethodName) jdk_29_method_65_code (2 : Nat) (Option.some Jvm.ClassFile.FieldType.int)]
set_option maxRecDepth 65536 in
theorem codes_eq : words1.filter isCode = codes1 := rfl
theorem w_codes : ∀ c ∈ words1.filter isCode, c.before args0 about1 = true := by
  rw [codes_eq]
  intro c hc
  simp only [codes1, List.mem_cons, List.not_mem_nil, or_false] at hc
  rcases hc with rfl | rfl | rfl | rfl | rfl | rfl | rfl | rfl | rfl | rfl | rfl | rfl | rfl | rfl | rfl | rfl | rfl | rfl | rfl
  · exact w_c0
  · exact w_c1
  · exact w_c2
  · exact w_c3
  · exact w_c4
  · exact w_c5
  · exact w_c6
  · exact w_c7
  · exact w_c8
  · exact w_c9
  · exact w_c10
  · exact w_c11
  · exact w_c12
  · exact w_c13
  · exact w_c14
  · exact w_c15
  · exact w_c16
  · exact w_c17
  · exact w_c18
set_option maxRecDepth 65536 in
theorem w_t1 : (words1.take 24).all (fun c => isCode c || c.before args0 about1) = true := by decide +kernel
set_option maxRecDepth 65536 in
theorem w_t2 : ((words1.drop 24).take 24).all (fun c => isCode c || c.before args0 about1) = true := by decide +kernel
set_option maxRecDepth 65536 in
theorem w_t3 : (((words1.drop 24).drop 24).take 24).all (fun c => isCode c || c.before args0 about1) = true := by decide +kernel
set_option maxRecDepth 65536 in
theorem w_t4 : ((((words1.drop 24).drop 24).drop 24).take 24).all (fun c => isCode c || c.before args0 about1) = true := by decide +kernel
set_option maxRecDepth 65536 in
theorem w_t5 : (((((words1.drop 24).drop 24).drop 24).drop 24).take 24).all (fun c => isCode c || c.before args0 about1) = true := by decide +kernel
set_option maxRecDepth 65536 in
theorem w_t6 : (((((words1.drop 24).drop 24).drop 24).drop 24).drop 24).all (fun c => isCode c || c.before args0 about1) = true := by decide +kernel
theorem w_tables : (allAtoms (Jvm.Cond.code x code maxLocals ret :: tables_1)).before args0 about1 = true := by
  rw [allAtoms_all]
  show words1.all (fun c => c.before args0 about1) = true
  refine all_split ?_ w_codes
  rw [← List.take_append_drop 24 words1, List.all_append, w_t1, ← List.take_append_drop 24 (words1.drop 24), List.all_append, w_t2, ← List.take_append_drop 24 ((words1.drop 24).drop 24), List.all_append, w_t3, ← List.take_append_drop 24 (((words1.drop 24).drop 24).drop 24), List.all_append, w_t4, ← List.take_append_drop 24 ((((words1.drop 24).drop 24).drop 24).drop 24), List.all_append, w_t5, w_t6]
  rfl
set_option maxRecDepth 65536 in
theorem w_rest : rest_1_c.before args0 about1 = true := by decide +kernel
set_option maxRecDepth 65536 in
theorem w_case : (Jvm.Cond.and given_1 narrow_1).before args0 about1 = true := by decide +kernel
theorem w_applies : (headSpec (Jvm.Cond.code x code maxLocals ret :: tables_1) room_1).applies x e0.platform about1 = true :=
  (Spec.applies_iff w_frames).mpr ⟨w_running, w_runnable, w_alone, w_named, w_hears, w_ripe, w_room, w_tables⟩
theorem atStart : AtStart classFile x code maxLocals ret World_1 tables_1 room_1 Calls_1 rest_1 Pre_1 launch0 p0 e0 about1 theMethod args0 below0 :=
  ⟨lists_1, trivial, launch0.admits_env _ _ _, launch0.least_env, fairChoices_fair.cas, fairChoices_fair.clock, w_frames, w_args, w_heap, w_applies, trivial, w_rest, w_case⟩
end start1
theorem witness_1 : WitnessClaimed_1 := ⟨start1.p0, start1.e0, start1.about1, start1.theMethod, start1.args0, start1.below0, start1.atStart⟩
end Jvm.Pilot.@@N@@
