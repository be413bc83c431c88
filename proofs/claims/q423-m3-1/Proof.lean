import JvmDerived
import JvmDerived.Pilot.@@N@@Statement
import JvmDerived.Pilot.@@N@@Code
set_option linter.unusedVariables false
set_option linter.unusedSimpArgs false
namespace Jvm.RoadKit
open Sem ClassFile Op Lib Jvm.Stand Jvm.Free Jvm.LawKit
section OwnKit
variable {p : Program} {l : Launch} {e : Env} {R : Room} {s : State} {m : MethodId} {args : Array Value} {below : List Frame} {meth : Method} {c : Code} {T : State} {locs : List Loc} {cells slots : Nat}
/-- a run that stands in S comes to an end of the invocation, of which Q is said -/
def own_G (tb : Tables) (e : Env) (below : List Frame) (s : State) (Q : Option Value → Heap → List Loc → Prop) (k n : Nat) (S : State) : Prop :=
  ∃ s₂ o, Steps tb e below S s₂ ∧ s₂.status = .running ∧ Ended s₂ below o ∧ ∃ v L, o = .returned v ∧ Q v s₂.heap L ∧ FrameEnd s o s₂ L k n
variable {tb : Tables} {Q : Option Value → Heap → List Loc → Prop} {k n : Nat}
theorem own_go {A B : State} (st : ∀ t, Steps tb e below A t → Steps tb e below B t) (h : own_G tb e below s Q k n A) : own_G tb e below s Q k n B := by
  obtain ⟨s₂, o, h1, h2⟩ := h
  exact ⟨s₂, o, st _ h1, h2⟩
theorem own_ret (X : Stand p l e R s m args below meth c T locs cells slots) {v : Option Value} (hv : meth.sig.returnType = none → v = none) (hlk : meth.locks = false) (hQ : Q v T.heap locs) (hk : cells ≤ k) (hn : slots ≤ n) {S : State}
    (st : ∀ fs, (∀ (f : JFrame) (acts : List Action), f.method = m → f.locked = none → f.entered = [] → (doReturn e (T.setTop f) acts v).1 = T.setFrames fs) → Steps p.tables e below S (T.setFrames fs)) : own_G p.tables e below s Q k n S := by
  obtain ⟨fs, hr, hrun, hended, hW, hsame⟩ := X.leave hv hlk
  exact ⟨_, _, st fs hr, hrun, hended, _, _, rfl, hQ, ⟨_, rfl⟩, hW, hsame.mono hk hn⟩
variable {pc : Nat} {Ls : Array Slot} {rest : List Value}
theorem own_retN (X : Stand p l e R s m args below meth c T locs cells slots) (hx : p.tables.exec = Jvm.exec) (hlk : meth.locks = false) {t : FieldType} {z z' : Int32} (hret : meth.sig.returnType = some t) (ht : t = .boolean ∨ t = .byte ∨ t = .char ∨ t = .short) (hd : decode c.code pc = .ok (.ireturn, 1)) (hz : nar t z = z') (hQ : Q (some (.int z')) T.heap locs) (hk : cells ≤ k) (hn : slots ≤ n) :
    own_G p.tables e below s Q k n (T.setTop (mkF m pc Ls (.int z :: rest))) := by
  subst hz
  exact own_ret X (fun h => by rw [hret] at h; cases h) hlk hQ hk hn fun fs hr => retN X hx hret ht hd hr
theorem own_retI (X : Stand p l e R s m args below meth c T locs cells slots) (hx : p.tables.exec = Jvm.exec) (hlk : meth.locks = false) {z : Int32} (hret : meth.sig.returnType = some .int) (hd : decode c.code pc = .ok (.ireturn, 1)) (hQ : Q (some (.int z)) T.heap locs) (hk : cells ≤ k) (hn : slots ≤ n) :
    own_G p.tables e below s Q k n (T.setTop (mkF m pc Ls (.int z :: rest))) :=
  own_ret X (fun h => by rw [hret] at h; cases h) hlk hQ hk hn fun fs hr => retOut X hx hret rfl (Or.inl ⟨rfl, Or.inl rfl, _, rfl⟩) hd hr
theorem own_retJ (X : Stand p l e R s m args below meth c T locs cells slots) (hx : p.tables.exec = Jvm.exec) (hlk : meth.locks = false) {z : Int64} (hret : meth.sig.returnType = some .long) (hd : decode c.code pc = .ok (.lreturn, 1)) (hQ : Q (some (.long z)) T.heap locs) (hk : cells ≤ k) (hn : slots ≤ n) :
    own_G p.tables e below s Q k n (T.setTop (mkF m pc Ls (.long z :: rest))) :=
  own_ret X (fun h => by rw [hret] at h; cases h) hlk hQ hk hn fun fs hr => retOut X hx hret rfl (Or.inr (Or.inl ⟨rfl, rfl, _, rfl⟩)) hd hr
theorem own_retA (X : Stand p l e R s m args below meth c T locs cells slots) (hx : p.tables.exec = Jvm.exec) (hlk : meth.locks = false) {t : FieldType} {w : Value} (hret : meth.sig.returnType = some t) (ht : t.isReference = true) (hv : w.isRef = true) (hd : decode c.code pc = .ok (.areturn, 1)) (hQ : Q (some w) T.heap locs) (hk : cells ≤ k) (hn : slots ≤ n) :
    own_G p.tables e below s Q k n (T.setTop (mkF m pc Ls (w :: rest))) :=
  own_ret X (fun h => by rw [hret] at h; cases h) hlk hQ hk hn fun fs hr => retOut X hx hret (by rcases ref_cases hv with rfl | ⟨_, rfl⟩ <;> cases t <;> first | rfl | cases ht) (Or.inr (Or.inr (Or.inr (Or.inr ⟨rfl, ht, hv⟩)))) hd hr
theorem own_cat {v : Value} (h : v.isRef = true) : v.category = 1 := by rcases ref_cases h with rfl | ⟨_, rfl⟩ <;> rfl
theorem own_retV (X : Stand p l e R s m args below meth c T locs cells slots) (hx : p.tables.exec = Jvm.exec) (hlk : meth.locks = false) (hret : meth.sig.returnType = none) (hd : decode c.code pc = .ok (.return_, 1)) (hQ : Q none T.heap locs) (hk : cells ≤ k) (hn : slots ≤ n) :
    own_G p.tables e below s Q k n (T.setTop (mkF m pc Ls [])) :=
  own_ret X (fun _ => rfl) hlk hQ hk hn fun fs hr => X.returnOut hx hret hd hr
end OwnKit
end Jvm.RoadKit
namespace Jvm.Pilot.@@N@@
open Jvm Jvm.ClassFile Sem Op Lib Jvm.Free Jvm.Stand Jvm.LawKit Jvm.RoadKit Bundle Jvm.Pilot.@@N@@.Jvm.D
def own_C (Z : State) (h : Heap) (ca : Addr) (cl : Cell) : Prop := Sta Z h "java/lang/Integer$IntegerCache" "high" "I" (.int (127 : Int32)) ∧ Sta Z h "java/lang/Integer$IntegerCache" "cache" "[Ljava/lang/Integer;" (.ref ca) ∧ Arr Z h ca cl (.object "java/lang/Integer") ∧ cl.slots.size = 256 ∧ ∀ j : Int32, ¬ (j < 0 ∨ cl.slots.size ≤ j.toNatClampNeg) → ∃ w, cl.slots[j.toNatClampNeg]? = some w ∧ w.isRef = true
theorem own_C_ext {Z : State} {h h' : Heap} {ca : Addr} {cl : Cell} (E : Ext h h') (C : own_C Z h ca cl) : own_C Z h' ca cl := ⟨Sta.ext E C.1, Sta.ext E C.2.1, Arr.ext E C.2.2.1, C.2.2.2⟩
theorem own_eqI {args : Array Value} {first s : State} {o : Option Outcome} {idx : List Nat} {t : Term} {k : Int32} (h : (Jvm.Cond.eq t (.int k)).value args first o s idx = some true) : t.eval args first o idx s = some (.int k) := by
  simp only [Jvm.Cond.value, Term.eval] at h
  cases ht : t.eval args first o idx s with
  | none => simp [ht] at h
  | some x => cases x <;> simp [ht] at h ⊢; exact h
theorem own_len {s : State} {args : Array Value} {t : Term} {a : Addr} {cl : Cell} {ty : FieldType} {k : Int32} (ht : t.eval args s none [] s = some (.ref a)) (A : Arr s s.heap a cl ty) (h : (Term.length t).eval args s none [] s = some (.int k)) : cl.slots.size < 2 ^ 31 ∧ cl.slots.size.toInt32 = k := by
  have ha := A.fin (Vm.Alike.refl _)
  by_cases hl : cl.slots.size < 2 ^ 31
  · refine ⟨hl, ?_⟩
    rw [len_f ht ha hl] at h
    exact Value.int.inj (Option.some.inj h)
  · simp [Term.eval, ht, ha, hl] at h
theorem own_idx {p : Int32} {n : Nat} (h1 : ¬ p < (-128 : Int32)) (h2 : ¬ (127 : Int32) < p) (hn : n = 256) : ¬ (p + (128 : Int32) < 0 ∨ n ≤ (p + (128 : Int32)).toNatClampNeg) := by
  rw [Int32.lt_iff_toInt_lt] at h1 h2
  have e1 : (-128 : Int32).toInt = -128 := rfl
  have e2 : (127 : Int32).toInt = 127 := rfl
  have e3 : (128 : Int32).toInt = 128 := rfl
  have e4 : (0 : Int32).toInt = 0 := rfl
  have e : (p + (128 : Int32)).toInt = p.toInt + 128 := by rw [Jvm.Free.XT.add32 (by rw [e3]; exact ⟨by omega, by omega⟩), e3]
  rw [Int32.lt_iff_toInt_lt, Int32.toNatClampNeg, e, e4]
  omega
/-- the number of leading zeros of a positive int, as the code reckons it -/
def own_u (x y : Int32) : Int32 := (x.toUInt32 >>> (y &&& 31).toUInt32).toInt32
def own_nlz (x : Int32) : Int32 :=
  let x1 := if x < (65536 : Int32) then x else own_u x 16
  let n1 : Int32 := if x < (65536 : Int32) then 31 else 31 + -16
  let x2 := if x1 < (256 : Int32) then x1 else own_u x1 8
  let n2 := if x1 < (256 : Int32) then n1 else n1 + -8
  let x3 := if x2 < (16 : Int32) then x2 else own_u x2 4
  let n3 := if x2 < (16 : Int32) then n2 else n2 + -4
  let x4 := if x3 < (4 : Int32) then x3 else own_u x3 2
  let n4 := if x3 < (4 : Int32) then n3 else n3 + -2
  n4 - own_u x4 1
def own_ht (x : Int32) : Int32 := (2 : Int32) * ((64 : Int32) - ((32 : Int32) + own_nlz ((((1 : Int32) + x).toInt64 + (1 : Int64)).toInt32)))
def own_ok (x : Int32) : Bool := decide ((((((1 : Int32) + x).toInt64 + (1 : Int64)).toUInt64 >>> ((32 : Int32) &&& 0x3f).toInt64.toUInt64).toInt64).toInt32 = 0) && decide ((0 : Int32) < (((1 : Int32) + x).toInt64 + (1 : Int64)).toInt32) && decide ((1 : Int32) < own_ht x) && decide (own_ht x ≤ (22 : Int32))
set_option maxRecDepth 65536 in
theorem own_all : ∀ n : Fin 1024, own_ok (Int32.ofNat n.val) = true := by decide +kernel
theorem own_low (s : Int32) : own_ok (s &&& (1023 : Int32)) = true := by
  have h2 : (s &&& (1023 : Int32)).toBitVec.toNat ≤ 1023 := by
    rw [Int32.toBitVec_and, BitVec.toNat_and]
    exact Nat.and_le_right
  have h := own_all ⟨(s &&& (1023 : Int32)).toBitVec.toNat, by omega⟩
  have e : Int32.ofNat (s &&& (1023 : Int32)).toBitVec.toNat = s &&& (1023 : Int32) := Int32.toBitVec_inj.mp (by
    apply BitVec.eq_of_toNat_eq
    simp [Int32.toBitVec_ofNat'])
  rw [e] at h
  exact h
theorem own_facts (s : Int32) : (((((1 : Int32) + (s &&& (1023 : Int32))).toInt64 + (1 : Int64)).toUInt64 >>> ((32 : Int32) &&& 0x3f).toInt64.toUInt64).toInt64).toInt32 = 0 ∧ (0 : Int32) < (((1 : Int32) + (s &&& (1023 : Int32))).toInt64 + (1 : Int64)).toInt32 ∧ (1 : Int32) < own_ht (s &&& (1023 : Int32)) ∧ own_ht (s &&& (1023 : Int32)) ≤ (22 : Int32) := by
  have h := own_low s
  simp only [own_ok, Bool.and_eq_true, decide_eq_true_eq] at h
  exact ⟨h.1.1.1, h.1.1.2, h.1.2, h.2⟩
theorem own_z {z : Int32} (h1 : (1 : Int32) < z) (h2 : z ≤ (22 : Int32)) : ¬ z < 0 ∧ (0 : Int32) < z ∧ z.toNatClampNeg ≤ 22 := by
  rw [Int32.lt_iff_toInt_lt] at h1
  rw [Int32.le_iff_toInt_le] at h2
  have e1 : (1 : Int32).toInt = 1 := rfl
  have e2 : (22 : Int32).toInt = 22 := rfl
  have e4 : (0 : Int32).toInt = 0 := rfl
  refine ⟨?_, ?_, ?_⟩
  · rw [Int32.lt_iff_toInt_lt]; omega
  · rw [Int32.lt_iff_toInt_lt]; omega
  · rw [Int32.toNatClampNeg]; omega
theorem dn_0 : decode jdk_18_method_1_code 0 = .ok (.aload_n 0, 1) := by decide +kernel
theorem dn_1 : decode jdk_18_method_1_code 1 = .ok (.invokespecial 1, 3) := by decide +kernel
theorem dn_4 : decode jdk_18_method_1_code 4 = .ok (.return_, 1) := by decide +kernel
theorem pn_java_lang_Number : plainName "java/lang/Number" = true := by first | (simp [plainName, overriddenIn]; done) | decide +kernel
theorem ef_n (m : MethodId) (x0 : Addr) : entryFrame m #[(.ref x0)] 1 = mkF m 0 #[.val (.ref x0)] [] := by first | (simp [entryFrame, mkF, argsToLocals, Value.category]; done) | rfl
def Qn (Z : State) (a1 : Addr) (h0 : Heap) (n0 : Nat) (v : Option Value) (h : Heap) (L : List Loc) : Prop := v = none ∧ Fr n0 L ∧ h = h0
set_option maxRecDepth 65536 in
set_option maxHeartbeats 40000000 in
theorem rmn (l : Launch) (Z : State) (a0 : Array Value) (hw : ∀ d ∈ tables_1, d.before a0 Z = true) (ws : List Jvm.Cond) (a1 : Addr) (h0 : Heap) (n0 : Nat) (Z0 : n0 ≤ h0.size)  :
    MetFree l (⟨"java/lang/Number", "<init>", "()V"⟩ : MethodName) (head1 (Jvm.Cond.code (⟨"java/lang/Number", "<init>", "()V"⟩ : MethodName) jdk_18_method_1_code 1 none :: ws) ({ frames := 1, cells := 0, slots := 0, locals := 12 } : Room)) (fun a U => a = #[(.ref a1)] ∧ Z.Warmed39 U.vm ∧ U.heap = h0) (fun _ _ _ _ _ => True) (fun _ U o U' => ∃ v L, o = .returned v ∧ Qn Z a1 h0 n0 v U'.heap L ∧ FrameEnd U o U' L ({ frames := 1, cells := 0, slots := 0, locals := 12 } : Room).cells ({ frames := 1, cells := 0, slots := 0, locals := 12 } : Room).slots) := by
  refine MetFree.of_bodySF (plainFor_of_name pn_java_lang_Number) hisR ?_
  intro p e s m args below meth c s₁ Bd hml0 hP hK
  obtain ⟨rfl, hZ, hh⟩ := hP
  have hx := Bd.exec
  have hby := Bd.bytes
  have hlk : meth.locks = false := BodyLoose.notSynchronized Bd
  have hml : c.maxLocals = 1 := hml0
  have hown : s.vm.findClass "java/lang/Number" = some m.cls := findClass_of_methodNamed Bd.named
  have hnm := (name_of_methodNamed Bd.named Bd.method).1
  have X0 : Stand p l e ({ frames := 1, cells := 0, slots := 0, locals := 12 } : Room) s m #[(.ref a1)] below meth c s₁ [] 0 0 := Stand.of_body Bd
  have e0 : s₁.heap = h0 := by rw [← hh, Bd.state]; rfl
  have N0 := Fr.nil n0
  show own_G p.tables e below s (Qn Z a1 h0 n0) ({ frames := 1, cells := 0, slots := 0, locals := 12 } : Room).cells ({ frames := 1, cells := 0, slots := 0, locals := 12 } : Room).slots (s₁.setTop (entryFrame m #[(.ref a1)] 1))
  refine own_go (fun t k => castTop (ef_n m a1) k) ?_
  show own_G p.tables e below s _ _ _ (s₁.setTop (mkF m 0 #[.val (.ref a1)] []))
  refine own_go (fun t k => XS.aloadN X0.here hx rfl (hb hby dn_0) rfl rfl k) ?_
  show own_G p.tables e below s _ _ _ (s₁.setTop (mkF m 1 #[.val (.ref a1)] [(.ref a1)]))
  obtain ⟨T1, X1, e1, st1⟩ := initO X0 hx hZ hown (hw _ (List.mem_of_getElem? (i := 96) rfl)) (hw _ (List.mem_of_getElem? (i := 14) rfl)) (hw _ (List.mem_of_getElem? (i := 15) rfl)) e0 (g := (mkF m 1 #[.val (.ref a1)] [(.ref a1)])) rfl (by rw [hml]; rfl) rfl (hb hby dn_1) (by decide) (W := 0) (by show 2 * 0 + _ ≤ _; exact Nat.le_of_eq rfl) (by decide)
  refine own_go st1 ?_
  show own_G p.tables e below s _ _ _ (T1.setTop (mkF m 4 #[.val (.ref a1)] []))
  exact own_retV X1 hx hlk Bd.returns (hb hby dn_4) (by rw [e1]; exact ⟨rfl, N0, rfl⟩) (by decide) (by decide)
theorem di_0 : decode jdk_33_method_23_code 0 = .ok (.aload_n 0, 1) := by decide +kernel
theorem pd___V : parseMethodDescriptor "()V" = some ⟨[], none⟩ := by decide +kernel
theorem di_1 : decode jdk_33_method_23_code 1 = .ok (.invokespecial 202, 3) := by decide +kernel
theorem di_4 : decode jdk_33_method_23_code 4 = .ok (.aload_n 0, 1) := by decide +kernel
theorem di_5 : decode jdk_33_method_23_code 5 = .ok (.iload_n 1, 1) := by decide +kernel
theorem di_6 : decode jdk_33_method_23_code 6 = .ok (.putfield 205, 3) := by decide +kernel
theorem di_9 : decode jdk_33_method_23_code 9 = .ok (.return_, 1) := by decide +kernel
theorem pn_java_lang_Integer : plainName "java/lang/Integer" = true := by first | (simp [plainName, overriddenIn]; done) | decide +kernel
theorem ef_i (m : MethodId) (x0 : Addr) (x1 : Int32) : entryFrame m #[(.ref x0), (.int x1)] 2 = mkF m 0 #[.val (.ref x0), .val (.int x1)] [] := by first | (simp [entryFrame, mkF, argsToLocals, Value.category]; done) | rfl
def Qi (Z : State) (a1 : Addr) (p2 : Int32) (h0 : Heap) (n0 : Nat) (v : Option Value) (h : Heap) (L : List Loc) : Prop := v = none ∧ Fr n0 L ∧ Keep h0 h [a1]
set_option maxRecDepth 65536 in
set_option maxHeartbeats 40000000 in
theorem rmi (l : Launch) (Z : State) (a0 : Array Value) (hw : ∀ d ∈ tables_1, d.before a0 Z = true) (ws : List Jvm.Cond) (a1 : Addr) (p2 : Int32) (h0 : Heap) (n0 : Nat) (Z0 : n0 ≤ h0.size) (E1 : Exa Z h0 a1 "java/lang/Integer") (F1 : Fld Z h0 a1 "java/lang/Integer" "value" "I" (.int (0 : Int32))) (g1 : n0 ≤ a1) :
    MetFree l (⟨"java/lang/Integer", "<init>", "(I)V"⟩ : MethodName) (head1 (Jvm.Cond.code (⟨"java/lang/Integer", "<init>", "(I)V"⟩ : MethodName) jdk_33_method_23_code 2 none :: ws) ({ frames := 2, cells := 0, slots := 0, locals := 24 } : Room)) (fun a U => a = #[(.ref a1), (.int p2)] ∧ Z.Warmed39 U.vm ∧ U.heap = h0) (fun _ _ _ _ _ => True) (fun _ U o U' => ∃ v L, o = .returned v ∧ Qi Z a1 p2 h0 n0 v U'.heap L ∧ FrameEnd U o U' L ({ frames := 2, cells := 0, slots := 0, locals := 24 } : Room).cells ({ frames := 2, cells := 0, slots := 0, locals := 24 } : Room).slots) := by
  refine MetFree.of_bodySF (plainFor_of_name pn_java_lang_Integer) hisR ?_
  intro p e s m args below meth c s₁ Bd hml0 hP hK
  obtain ⟨rfl, hZ, hh⟩ := hP
  have hx := Bd.exec
  have hby := Bd.bytes
  have hlk : meth.locks = false := BodyLoose.notSynchronized Bd
  have hml : c.maxLocals = 2 := hml0
  have hown : s.vm.findClass "java/lang/Integer" = some m.cls := findClass_of_methodNamed Bd.named
  have hnm := (name_of_methodNamed Bd.named Bd.method).1
  have X0 : Stand p l e ({ frames := 2, cells := 0, slots := 0, locals := 24 } : Room) s m #[(.ref a1), (.int p2)] below meth c s₁ [] 0 0 := Stand.of_body Bd
  have e0 : s₁.heap = h0 := by rw [← hh, Bd.state]; rfl
  have N0 := Fr.nil n0
  show own_G p.tables e below s (Qi Z a1 p2 h0 n0) ({ frames := 2, cells := 0, slots := 0, locals := 24 } : Room).cells ({ frames := 2, cells := 0, slots := 0, locals := 24 } : Room).slots (s₁.setTop (entryFrame m #[(.ref a1), (.int p2)] 2))
  refine own_go (fun t k => castTop (ef_i m a1 p2) k) ?_
  show own_G p.tables e below s _ _ _ (s₁.setTop (mkF m 0 #[.val (.ref a1), .val (.int p2)] []))
  refine own_go (fun t k => XS.aloadN X0.here hx rfl (hb hby di_0) rfl rfl k) ?_
  show own_G p.tables e below s _ _ _ (s₁.setTop (mkF m 1 #[.val (.ref a1), .val (.int p2)] [(.ref a1)]))
  obtain ⟨_, _, ⟨T2, L2, k2, n2⟩, -, X2, ⟨Lc2, hQ2, l2, y2, z2⟩, st2⟩ := X0.specialBack hx (y := (⟨"java/lang/Number", "<init>", "()V"⟩ : MethodName)) rfl hown (mvT hZ (hw _ (List.mem_of_getElem? (i := 90) rfl))) (mvT hZ (hw _ (List.mem_of_getElem? (i := 91) rfl))) (mvT hZ (hw _ (List.mem_of_getElem? (i := 95) rfl))) (by decide) (backOf (W := 0) (rmn l Z a0 hw [] a1 h0 n0 Z0) hZ (hw _ (List.mem_of_getElem? (i := 95) rfl)) (hw _ (List.mem_of_getElem? (i := 94) rfl)) (by decide) (by decide)) (g := (mkF m 1 #[.val (.ref a1), .val (.int p2)] [(.ref a1)])) rfl (by rw [hml]; rfl) (Steps.refl _) (a := a1) (argsL := []) (rest := []) (lenOf pd___V rfl) rfl (by show 2 * 0 + _ ≤ _; exact Nat.le_of_eq rfl) (hb hby di_1) (fun _ _ => ⟨rfl, e0, (by decide : 0 + 0 ≤ _), (by decide : 0 + 0 ≤ _)⟩)
  dsimp only [Pt.U, Pt.locs, Pt.cells, Pt.slots] at X2 l2 y2 z2 st2 hQ2
  subst l2 y2 z2
  obtain ⟨rfl, N2q, hh2⟩ := hQ2
  have N2 := Fr.app N0 N2q
  refine own_go (fun t k => st2.trans k) ?_
  show own_G p.tables e below s _ _ _ (T2.setTop (mkF m 4 #[.val (.ref a1), .val (.int p2)] []))
  refine own_go (fun t k => XS.aloadN X2.here hx rfl (hb hby di_4) rfl rfl k) ?_
  show own_G p.tables e below s _ _ _ (T2.setTop (mkF m 5 #[.val (.ref a1), .val (.int p2)] [(.ref a1)]))
  refine own_go (fun t k => XS.iloadN X2.here hx rfl (hb hby di_5) rfl k) ?_
  show own_G p.tables e below s _ _ _ (T2.setTop (mkF m 6 #[.val (.ref a1), .val (.int p2)] [(.int p2), (.ref a1)]))
  obtain ⟨T3, h3, X3, e3, W3, st3⟩ := putF X2 hx hZ hown (host := "") (Or.inl (hw _ (List.mem_of_getElem? (i := 97) rfl))) Via.refl hh2 F1 E1 (Or.inr ⟨(hw _ (List.mem_of_getElem? (i := 98) rfl)), rfl, hnm⟩) (hw _ (List.mem_of_getElem? (i := 85) rfl)) (ty := .int) (by decide) rfl rfl (g := (mkF m 6 #[.val (.ref a1), .val (.int p2)] [(.int p2), (.ref a1)])) rfl rfl (hb hby di_6)
  have N3 := Fr.snoc X3 N2 g1
  refine own_go st3 ?_
  have f4 := Fld.same W3 F1
  have f5 := Exa.wr W3 E1
  have z6 := Nat.le_trans Z0 (Keep.of_wr W3).1
  have k7 := (Keep.refl h0 [a1]).wr W3 (Or.inl (List.mem_of_getElem? (i := 0) rfl))
  show own_G p.tables e below s _ _ _ (T3.setTop (mkF m 9 #[.val (.ref a1), .val (.int p2)] []))
  exact own_retV X3 hx hlk Bd.returns (hb hby di_9) (by rw [e3]; exact ⟨rfl, N3, k7⟩) (by decide) (by decide)
theorem db_0 : decode jdk_33_method_22_code 0 = .ok (.iload_n 0, 1) := by decide +kernel
theorem db_1 : decode jdk_33_method_22_code 1 = .ok (.bipush (-128), 2) := by decide +kernel
theorem db_3 : decode jdk_33_method_22_code 3 = .ok (.if_icmp .lt 20, 3) := by decide +kernel
theorem db_23 : decode jdk_33_method_22_code 23 = .ok (.new 1, 3) := by decide +kernel
theorem db_26 : decode jdk_33_method_22_code 26 = .ok (.dup, 1) := by decide +kernel
theorem db_27 : decode jdk_33_method_22_code 27 = .ok (.iload_n 0, 1) := by decide +kernel
theorem pd__I_V : parseMethodDescriptor "(I)V" = some ⟨[.int], none⟩ := by decide +kernel
theorem db_28 : decode jdk_33_method_22_code 28 = .ok (.invokespecial 199, 3) := by decide +kernel
theorem db_31 : decode jdk_33_method_22_code 31 = .ok (.areturn, 1) := by decide +kernel
theorem db_6 : decode jdk_33_method_22_code 6 = .ok (.iload_n 0, 1) := by decide +kernel
theorem db_7 : decode jdk_33_method_22_code 7 = .ok (.getstatic 191, 3) := by decide +kernel
theorem db_10 : decode jdk_33_method_22_code 10 = .ok (.if_icmp .gt 13, 3) := by decide +kernel
theorem db_13 : decode jdk_33_method_22_code 13 = .ok (.getstatic 195, 3) := by decide +kernel
theorem db_16 : decode jdk_33_method_22_code 16 = .ok (.iload_n 0, 1) := by decide +kernel
theorem db_17 : decode jdk_33_method_22_code 17 = .ok (.sipush 128, 3) := by decide +kernel
theorem db_20 : decode jdk_33_method_22_code 20 = .ok (.iadd, 1) := by decide +kernel
theorem db_21 : decode jdk_33_method_22_code 21 = .ok (.aaload, 1) := by decide +kernel
theorem db_22 : decode jdk_33_method_22_code 22 = .ok (.areturn, 1) := by decide +kernel
theorem ef_b (m : MethodId) (x0 : Int32) : entryFrame m #[(.int x0)] 1 = mkF m 0 #[.val (.int x0)] [] := by first | (simp [entryFrame, mkF, argsToLocals, Value.category]; done) | rfl
def Qb (Z : State) (p1 : Int32) (ca : Addr) (cl : Cell) (h0 : Heap) (n0 : Nat) (v : Option Value) (h : Heap) (L : List Loc) : Prop := (∃ w : Value, v = some w ∧ w.isRef = true) ∧ Fr n0 L ∧ Keep h0 h []
set_option maxRecDepth 65536 in
set_option maxHeartbeats 40000000 in
theorem rmb (l : Launch) (Z : State) (a0 : Array Value) (hw : ∀ d ∈ tables_1, d.before a0 Z = true) (ws : List Jvm.Cond) (p1 : Int32) (ca : Addr) (cl : Cell) (h0 : Heap) (n0 : Nat) (Z0 : n0 ≤ h0.size) (C1 : own_C Z h0 ca cl) :
    MetFree l (⟨"java/lang/Integer", "valueOf", "(I)Ljava/lang/Integer;"⟩ : MethodName) (head1 (Jvm.Cond.code (⟨"java/lang/Integer", "valueOf", "(I)Ljava/lang/Integer;"⟩ : MethodName) jdk_33_method_22_code 1 (some (.object "java/lang/Integer")) :: ws) ({ frames := 3, cells := 1, slots := 1, locals := 38 } : Room)) (fun a U => a = #[(.int p1)] ∧ Z.Warmed39 U.vm ∧ U.heap = h0) (fun _ _ _ _ _ => True) (fun _ U o U' => ∃ v L, o = .returned v ∧ Qb Z p1 ca cl h0 n0 v U'.heap L ∧ FrameEnd U o U' L ({ frames := 3, cells := 1, slots := 1, locals := 38 } : Room).cells ({ frames := 3, cells := 1, slots := 1, locals := 38 } : Room).slots) := by
  refine MetFree.of_bodySF (plainFor_of_name pn_java_lang_Integer) hisR ?_
  intro p e s m args below meth c s₁ Bd hml0 hP hK
  obtain ⟨rfl, hZ, hh⟩ := hP
  have hx := Bd.exec
  have hby := Bd.bytes
  have hlk : meth.locks = false := BodyLoose.notSynchronized Bd
  have hml : c.maxLocals = 1 := hml0
  have hown : s.vm.findClass "java/lang/Integer" = some m.cls := findClass_of_methodNamed Bd.named
  have hnm := (name_of_methodNamed Bd.named Bd.method).1
  have X0 : Stand p l e ({ frames := 3, cells := 1, slots := 1, locals := 38 } : Room) s m #[(.int p1)] below meth c s₁ [] 0 0 := Stand.of_body Bd
  have e0 : s₁.heap = h0 := by rw [← hh, Bd.state]; rfl
  have N0 := Fr.nil n0
  show own_G p.tables e below s (Qb Z p1 ca cl h0 n0) ({ frames := 3, cells := 1, slots := 1, locals := 38 } : Room).cells ({ frames := 3, cells := 1, slots := 1, locals := 38 } : Room).slots (s₁.setTop (entryFrame m #[(.int p1)] 1))
  refine own_go (fun t k => castTop (ef_b m p1) k) ?_
  show own_G p.tables e below s _ _ _ (s₁.setTop (mkF m 0 #[.val (.int p1)] []))
  refine own_go (fun t k => XS.iloadN X0.here hx rfl (hb hby db_0) rfl k) ?_
  show own_G p.tables e below s _ _ _ (s₁.setTop (mkF m 1 #[.val (.int p1)] [(.int p1)]))
  refine own_go (fun t k => XS.bipush X0.here hx rfl (hb hby db_1) k) ?_
  show own_G p.tables e below s _ _ _ (s₁.setTop (mkF m 3 #[.val (.int p1)] [(.int (-128 : Int32)), (.int p1)]))
  by_cases h3 : p1 < (-128 : Int32)
  · refine own_go (fun t k => XS.icmpYes X0.here hx rfl (pc0 := 3) (pc' := 23) rfl (hb hby db_3) rfl (Jvm.Free.XT.ii_lt_t h3) (by decide) (by decide) k) ?_
    show own_G p.tables e below s _ _ _ (s₁.setTop (mkF m 23 #[.val (.int p1)] []))
    obtain ⟨T8, h8, X8, e8, E8, A8, D8, -, st8⟩ := newO X0 hx hZ hown (hw _ (List.mem_of_getElem? (i := 84) rfl)) (hw _ (List.mem_of_getElem? (i := 85) rfl)) (hw _ (List.mem_of_getElem? (i := 5) rfl)) e0 (g := (mkF m 23 #[.val (.int p1)] [])) rfl (hb hby db_23) (by decide) (by decide)
    obtain ⟨b8, g8⟩ : ∃ z, z = h0.size := ⟨_, rfl⟩
    rw [← g8] at A8 D8 st8
    refine own_go st8 ?_
    have g9 := Nat.le_trans Z0 (Nat.le_of_eq g8.symm)
    have s10 := Nat.le_trans (Keep.refl h0 []).1 (Nat.le_of_eq g8.symm)
    have z11 := Nat.le_trans Z0 E8.1
    have k12 := (Keep.refl h0 []).ext E8
    have f13 : Fld Z h8 b8 "java/lang/Integer" "value" "I" (.int (0 : Int32)) := D8 (Or.inr (hw _ (List.mem_of_getElem? (i := 98) rfl))) (ty := .int) (by decide)
    show own_G p.tables e below s _ _ _ (T8.setTop (mkF m 26 #[.val (.int p1)] [(.ref b8)]))
    refine own_go (fun t k => XS.dup X8.here hx rfl (hb hby db_26) rfl rfl k) ?_
    show own_G p.tables e below s _ _ _ (T8.setTop (mkF m 27 #[.val (.int p1)] [(.ref b8), (.ref b8)]))
    refine own_go (fun t k => XS.iloadN X8.here hx rfl (hb hby db_27) rfl k) ?_
    show own_G p.tables e below s _ _ _ (T8.setTop (mkF m 28 #[.val (.int p1)] [(.int p1), (.ref b8), (.ref b8)]))
    obtain ⟨_, _, ⟨T14, L14, k14, n14⟩, -, X14, ⟨Lc14, hQ14, l14, y14, z14⟩, st14⟩ := X8.specialBack hx (y := (⟨"java/lang/Integer", "<init>", "(I)V"⟩ : MethodName)) rfl hown (mvT hZ (hw _ (List.mem_of_getElem? (i := 86) rfl))) (mvT hZ (hw _ (List.mem_of_getElem? (i := 87) rfl))) (mvT hZ (hw _ (List.mem_of_getElem? (i := 89) rfl))) (by decide) (backOf (W := 1) (rmi l Z a0 hw [] b8 p1 h8 n0 z11 A8 f13 g9) hZ (hw _ (List.mem_of_getElem? (i := 89) rfl)) (hw _ (List.mem_of_getElem? (i := 5) rfl)) (by decide) (by decide)) (g := (mkF m 28 #[.val (.int p1)] [(.int p1), (.ref b8), (.ref b8)])) rfl (by rw [hml]; rfl) (Steps.refl _) (a := b8) (argsL := [(.int p1)]) (rest := [(.ref b8)]) (lenOf pd__I_V rfl) rfl (by show 2 * 0 + _ ≤ _; exact Nat.le_of_eq rfl) (hb hby db_28) (fun _ _ => ⟨rfl, e8, (by decide : 1 + 0 ≤ _), (by decide : 1 + 0 ≤ _)⟩)
    dsimp only [Pt.U, Pt.locs, Pt.cells, Pt.slots] at X14 l14 y14 z14 st14 hQ14
    subst l14 y14 z14
    obtain ⟨rfl, N14q, K14⟩ := hQ14
    have N14 := Fr.app N0 N14q
    refine own_go (fun t k => st14.trans k) ?_
    have f15 := A8.keep K14
    have z16 := Nat.le_trans z11 K14.1
    have k17 := k12.trans K14 (fun x => (fun q => (List.mem_cons.mp q).elim (fun e => e ▸ Or.inr s10) (fun q => nomatch q)))
    show own_G p.tables e below s _ _ _ (T14.setTop (mkF m 31 #[.val (.int p1)] [(.ref b8)]))
    exact own_retA X14 hx hlk Bd.returns rfl rfl (hb hby db_31) (⟨⟨_, rfl, rfl⟩, N14, k17⟩) (by decide) (by decide)
  · refine own_go (fun t k => XS.icmpNo X0.here hx rfl (hb hby db_3) rfl (Jvm.Free.XT.ii_lt_f h3) k) ?_
    show own_G p.tables e below s _ _ _ (s₁.setTop (mkF m 6 #[.val (.int p1)] []))
    refine own_go (fun t k => XS.iloadN X0.here hx rfl (hb hby db_6) rfl k) ?_
    show own_G p.tables e below s _ _ _ (s₁.setTop (mkF m 7 #[.val (.int p1)] [(.int p1)]))
    obtain ⟨T18, X18, e18, st18⟩ := getS X0 hx hZ hown (host := "") (hw _ (List.mem_of_getElem? (i := 7) rfl)) Via.refl e0 C1.1 (g := (mkF m 7 #[.val (.int p1)] [(.int p1)])) rfl (hb hby db_7)
    refine own_go st18 ?_
    show own_G p.tables e below s _ _ _ (T18.setTop (mkF m 10 #[.val (.int p1)] [(.int (127 : Int32)), (.int p1)]))
    by_cases h10 : (127 : Int32) < p1
    · refine own_go (fun t k => XS.icmpYes X18.here hx rfl (pc0 := 10) (pc' := 23) rfl (hb hby db_10) rfl (Jvm.Free.XT.ii_gt_t h10) (by decide) (by decide) k) ?_
      show own_G p.tables e below s _ _ _ (T18.setTop (mkF m 23 #[.val (.int p1)] []))
      obtain ⟨T19, h19, X19, e19, E19, A19, D19, -, st19⟩ := newO X18 hx hZ hown (hw _ (List.mem_of_getElem? (i := 84) rfl)) (hw _ (List.mem_of_getElem? (i := 85) rfl)) (hw _ (List.mem_of_getElem? (i := 5) rfl)) e18 (g := (mkF m 23 #[.val (.int p1)] [])) rfl (hb hby db_23) (by decide) (by decide)
      obtain ⟨b19, g19⟩ : ∃ z, z = h0.size := ⟨_, rfl⟩
      rw [← g19] at A19 D19 st19
      refine own_go st19 ?_
      have g20 := Nat.le_trans Z0 (Nat.le_of_eq g19.symm)
      have s21 := Nat.le_trans (Keep.refl h0 []).1 (Nat.le_of_eq g19.symm)
      have z22 := Nat.le_trans Z0 E19.1
      have k23 := (Keep.refl h0 []).ext E19
      have f24 : Fld Z h19 b19 "java/lang/Integer" "value" "I" (.int (0 : Int32)) := D19 (Or.inr (hw _ (List.mem_of_getElem? (i := 98) rfl))) (ty := .int) (by decide)
      show own_G p.tables e below s _ _ _ (T19.setTop (mkF m 26 #[.val (.int p1)] [(.ref b19)]))
      refine own_go (fun t k => XS.dup X19.here hx rfl (hb hby db_26) rfl rfl k) ?_
      show own_G p.tables e below s _ _ _ (T19.setTop (mkF m 27 #[.val (.int p1)] [(.ref b19), (.ref b19)]))
      refine own_go (fun t k => XS.iloadN X19.here hx rfl (hb hby db_27) rfl k) ?_
      show own_G p.tables e below s _ _ _ (T19.setTop (mkF m 28 #[.val (.int p1)] [(.int p1), (.ref b19), (.ref b19)]))
      obtain ⟨_, _, ⟨T25, L25, k25, n25⟩, -, X25, ⟨Lc25, hQ25, l25, y25, z25⟩, st25⟩ := X19.specialBack hx (y := (⟨"java/lang/Integer", "<init>", "(I)V"⟩ : MethodName)) rfl hown (mvT hZ (hw _ (List.mem_of_getElem? (i := 86) rfl))) (mvT hZ (hw _ (List.mem_of_getElem? (i := 87) rfl))) (mvT hZ (hw _ (List.mem_of_getElem? (i := 89) rfl))) (by decide) (backOf (W := 1) (rmi l Z a0 hw [] b19 p1 h19 n0 z22 A19 f24 g20) hZ (hw _ (List.mem_of_getElem? (i := 89) rfl)) (hw _ (List.mem_of_getElem? (i := 5) rfl)) (by decide) (by decide)) (g := (mkF m 28 #[.val (.int p1)] [(.int p1), (.ref b19), (.ref b19)])) rfl (by rw [hml]; rfl) (Steps.refl _) (a := b19) (argsL := [(.int p1)]) (rest := [(.ref b19)]) (lenOf pd__I_V rfl) rfl (by show 2 * 0 + _ ≤ _; exact Nat.le_of_eq rfl) (hb hby db_28) (fun _ _ => ⟨rfl, e19, (by decide : 1 + 0 ≤ _), (by decide : 1 + 0 ≤ _)⟩)
      dsimp only [Pt.U, Pt.locs, Pt.cells, Pt.slots] at X25 l25 y25 z25 st25 hQ25
      subst l25 y25 z25
      obtain ⟨rfl, N25q, K25⟩ := hQ25
      have N25 := Fr.app N0 N25q
      refine own_go (fun t k => st25.trans k) ?_
      have f26 := A19.keep K25
      have z27 := Nat.le_trans z22 K25.1
      have k28 := k23.trans K25 (fun x => (fun q => (List.mem_cons.mp q).elim (fun e => e ▸ Or.inr s21) (fun q => nomatch q)))
      show own_G p.tables e below s _ _ _ (T25.setTop (mkF m 31 #[.val (.int p1)] [(.ref b19)]))
      exact own_retA X25 hx hlk Bd.returns rfl rfl (hb hby db_31) (⟨⟨_, rfl, rfl⟩, N25, k28⟩) (by decide) (by decide)
    · refine own_go (fun t k => XS.icmpNo X18.here hx rfl (hb hby db_10) rfl (Jvm.Free.XT.ii_gt_f h10) k) ?_
      show own_G p.tables e below s _ _ _ (T18.setTop (mkF m 13 #[.val (.int p1)] []))
      obtain ⟨T29, X29, e29, st29⟩ := getS X18 hx hZ hown (host := "") (hw _ (List.mem_of_getElem? (i := 9) rfl)) Via.refl e18 C1.2.1 (g := (mkF m 13 #[.val (.int p1)] [])) rfl (hb hby db_13)
      refine own_go st29 ?_
      show own_G p.tables e below s _ _ _ (T29.setTop (mkF m 16 #[.val (.int p1)] [(.ref ca)]))
      refine own_go (fun t k => XS.iloadN X29.here hx rfl (hb hby db_16) rfl k) ?_
      show own_G p.tables e below s _ _ _ (T29.setTop (mkF m 17 #[.val (.int p1)] [(.int p1), (.ref ca)]))
      refine own_go (fun t k => XS.sipush X29.here hx rfl (hb hby db_17) k) ?_
      show own_G p.tables e below s _ _ _ (T29.setTop (mkF m 20 #[.val (.int p1)] [(.int (128 : Int32)), (.int p1), (.ref ca)]))
      refine own_go (fun t k => XS.iadd X29.here hx rfl (hb hby db_20) rfl k) ?_
      show own_G p.tables e below s _ _ _ (T29.setTop (mkF m 21 #[.val (.int p1)] [(.int (p1 + (128 : Int32))), (.ref ca)]))
      have hin := own_idx h3 h10 C1.2.2.2.1
      obtain ⟨w, hat, hwr⟩ := C1.2.2.2.2 _ hin
      refine own_go (fun t k => X29.aaload hx (j := (p1 + (128 : Int32))) (v := w) (by rw [e29]; exact C1.2.2.1.1) (State.isArrayOf_alike hZ.alike C1.2.2.1.2.1) rfl C1.2.2.1.2.2 hin hat (g := (mkF m 21 #[.val (.int p1)] [(.int (p1 + (128 : Int32))), (.ref ca)])) rfl rfl (hb hby db_21) _ k) ?_
      show own_G p.tables e below s _ _ _ (T29.setTop (mkF m 22 #[.val (.int p1)] [w]))
      exact own_retA X29 hx hlk Bd.returns rfl hwr (hb hby db_22) (by rw [e29]; exact ⟨⟨_, rfl, hwr⟩, N0, Keep.refl _ _⟩) (by decide) (by decide)
theorem dd_0 : decode prog_6_method_1_code 0 = .ok (.aload_n 0, 1) := by decide +kernel
theorem dd_1 : decode prog_6_method_1_code 1 = .ok (.invokespecial 3, 3) := by decide +kernel
theorem dd_4 : decode prog_6_method_1_code 4 = .ok (.aload_n 0, 1) := by decide +kernel
theorem dd_5 : decode prog_6_method_1_code 5 = .ok (.aload_n 1, 1) := by decide +kernel
theorem dd_6 : decode prog_6_method_1_code 6 = .ok (.putfield 9, 3) := by decide +kernel
theorem dd_9 : decode prog_6_method_1_code 9 = .ok (.aload_n 0, 1) := by decide +kernel
theorem dd_10 : decode prog_6_method_1_code 10 = .ok (.aload_n 2, 1) := by decide +kernel
theorem dd_11 : decode prog_6_method_1_code 11 = .ok (.putfield 15, 3) := by decide +kernel
theorem dd_14 : decode prog_6_method_1_code 14 = .ok (.aload_n 0, 1) := by decide +kernel
theorem dd_15 : decode prog_6_method_1_code 15 = .ok (.iload_n 3, 1) := by decide +kernel
theorem dd_16 : decode prog_6_method_1_code 16 = .ok (.ifCond .eq 8, 3) := by decide +kernel
theorem dd_24 : decode prog_6_method_1_code 24 = .ok (.iconst 1, 1) := by decide +kernel
theorem dd_25 : decode prog_6_method_1_code 25 = .ok (.putfield 19, 3) := by decide +kernel
theorem dd_28 : decode prog_6_method_1_code 28 = .ok (.return_, 1) := by decide +kernel
theorem dd_19 : decode prog_6_method_1_code 19 = .ok (.ldc 18, 2) := by decide +kernel
theorem dd_21 : decode prog_6_method_1_code 21 = .ok (.goto 4, 3) := by decide +kernel
theorem pn_com_example_sumac_sumac_RedBlackTreeMap_Node : plainName "com/example/sumac/sumac/RedBlackTreeMap$Node" = true := by first | (simp [plainName, overriddenIn]; done) | decide +kernel
theorem ef_d (m : MethodId) (x0 : Addr) (x1 : Value) (h1 : x1.isRef = true) (x2 : Value) (h2 : x2.isRef = true) (x3 : Int32) : entryFrame m #[(.ref x0), x1, x2, (.int x3)] 4 = mkF m 0 #[.val (.ref x0), .val x1, .val x2, .val (.int x3)] [] := by rcases ref_cases h1 with rfl | ⟨_, rfl⟩ <;> rcases ref_cases h2 with rfl | ⟨_, rfl⟩ <;> first | (simp [entryFrame, mkF, argsToLocals, Value.category]; done) | rfl
def Qd (Z : State) (a1 : Addr) (k2 k3 : Value) (p4 : Int32) (h0 : Heap) (n0 : Nat) (v : Option Value) (h : Heap) (L : List Loc) : Prop := v = none ∧ Fr n0 L ∧ Keep h0 h [a1] ∧ Fld Z h a1 "com/example/sumac/sumac/RedBlackTreeMap$Node" "left" "Lcom/example/sumac/sumac/RedBlackTreeMap$Node;" .null ∧ Fld Z h a1 "com/example/sumac/sumac/RedBlackTreeMap$Node" "right" "Lcom/example/sumac/sumac/RedBlackTreeMap$Node;" .null
set_option maxRecDepth 65536 in
set_option maxHeartbeats 40000000 in
theorem rmd (l : Launch) (Z : State) (a0 : Array Value) (hw : ∀ d ∈ tables_1, d.before a0 Z = true) (ws : List Jvm.Cond) (a1 : Addr) (k2 k3 : Value) (p4 : Int32) (h0 : Heap) (n0 : Nat) (Z0 : n0 ≤ h0.size) (hk2 : k2.isRef = true) (hk3 : k3.isRef = true) (E1 : Exa Z h0 a1 "com/example/sumac/sumac/RedBlackTreeMap$Node") (Fkey : Fld Z h0 a1 "com/example/sumac/sumac/RedBlackTreeMap$Node" "key" "Ljava/lang/Object;" .null) (Fvalue : Fld Z h0 a1 "com/example/sumac/sumac/RedBlackTreeMap$Node" "value" "Ljava/lang/Object;" .null) (Fleft : Fld Z h0 a1 "com/example/sumac/sumac/RedBlackTreeMap$Node" "left" "Lcom/example/sumac/sumac/RedBlackTreeMap$Node;" .null) (Fright : Fld Z h0 a1 "com/example/sumac/sumac/RedBlackTreeMap$Node" "right" "Lcom/example/sumac/sumac/RedBlackTreeMap$Node;" .null) (Fs : Fld Z h0 a1 "com/example/sumac/sumac/RedBlackTreeMap$Node" "sizeAndColour" "I" (.int (0 : Int32))) (g1 : n0 ≤ a1) :
    MetFree l (⟨"com/example/sumac/sumac/RedBlackTreeMap$Node", "<init>", "(Ljava/lang/Object;Ljava/lang/Object;Z)V"⟩ : MethodName) (head1 (Jvm.Cond.code (⟨"com/example/sumac/sumac/RedBlackTreeMap$Node", "<init>", "(Ljava/lang/Object;Ljava/lang/Object;Z)V"⟩ : MethodName) prog_6_method_1_code 4 none :: ws) ({ frames := 1, cells := 0, slots := 0, locals := 12 } : Room)) (fun a U => a = #[(.ref a1), k2, k3, (.int p4)] ∧ Z.Warmed39 U.vm ∧ U.heap = h0) (fun _ _ _ _ _ => True) (fun _ U o U' => ∃ v L, o = .returned v ∧ Qd Z a1 k2 k3 p4 h0 n0 v U'.heap L ∧ FrameEnd U o U' L ({ frames := 1, cells := 0, slots := 0, locals := 12 } : Room).cells ({ frames := 1, cells := 0, slots := 0, locals := 12 } : Room).slots) := by
  refine MetFree.of_bodySF (plainFor_of_name pn_com_example_sumac_sumac_RedBlackTreeMap_Node) hisR ?_
  intro p e s m args below meth c s₁ Bd hml0 hP hK
  obtain ⟨rfl, hZ, hh⟩ := hP
  have hx := Bd.exec
  have hby := Bd.bytes
  have hlk : meth.locks = false := BodyLoose.notSynchronized Bd
  have hml : c.maxLocals = 4 := hml0
  have hown : s.vm.findClass "com/example/sumac/sumac/RedBlackTreeMap$Node" = some m.cls := findClass_of_methodNamed Bd.named
  have hnm := (name_of_methodNamed Bd.named Bd.method).1
  have X0 : Stand p l e ({ frames := 1, cells := 0, slots := 0, locals := 12 } : Room) s m #[(.ref a1), k2, k3, (.int p4)] below meth c s₁ [] 0 0 := Stand.of_body Bd
  have e0 : s₁.heap = h0 := by rw [← hh, Bd.state]; rfl
  have N0 := Fr.nil n0
  show own_G p.tables e below s (Qd Z a1 k2 k3 p4 h0 n0) ({ frames := 1, cells := 0, slots := 0, locals := 12 } : Room).cells ({ frames := 1, cells := 0, slots := 0, locals := 12 } : Room).slots (s₁.setTop (entryFrame m #[(.ref a1), k2, k3, (.int p4)] 4))
  refine own_go (fun t k => castTop (ef_d m a1 k2 hk2 k3 hk3 p4) k) ?_
  show own_G p.tables e below s _ _ _ (s₁.setTop (mkF m 0 #[.val (.ref a1), .val k2, .val k3, .val (.int p4)] []))
  refine own_go (fun t k => XS.aloadN X0.here hx rfl (hb hby dd_0) rfl rfl k) ?_
  show own_G p.tables e below s _ _ _ (s₁.setTop (mkF m 1 #[.val (.ref a1), .val k2, .val k3, .val (.int p4)] [(.ref a1)]))
  obtain ⟨T30, X30, e30, st30⟩ := initO X0 hx hZ hown (hw _ (List.mem_of_getElem? (i := 13) rfl)) (hw _ (List.mem_of_getElem? (i := 14) rfl)) (hw _ (List.mem_of_getElem? (i := 15) rfl)) e0 (g := (mkF m 1 #[.val (.ref a1), .val k2, .val k3, .val (.int p4)] [(.ref a1)])) rfl (by rw [hml]; rfl) rfl (hb hby dd_1) (by decide) (W := 0) (by show 2 * 0 + _ ≤ _; exact Nat.le_of_eq rfl) (by decide)
  refine own_go st30 ?_
  show own_G p.tables e below s _ _ _ (T30.setTop (mkF m 4 #[.val (.ref a1), .val k2, .val k3, .val (.int p4)] []))
  refine own_go (fun t k => XS.aloadN X30.here hx rfl (hb hby dd_4) rfl rfl k) ?_
  show own_G p.tables e below s _ _ _ (T30.setTop (mkF m 5 #[.val (.ref a1), .val k2, .val k3, .val (.int p4)] [(.ref a1)]))
  refine own_go (fun t k => XS.aloadN X30.here hx rfl (hb hby dd_5) rfl hk2 k) ?_
  show own_G p.tables e below s _ _ _ (T30.setTop (mkF m 6 #[.val (.ref a1), .val k2, .val k3, .val (.int p4)] [k2, (.ref a1)]))
  obtain ⟨T31, h31, X31, e31, W31, st31⟩ := putF X30 hx hZ hown (host := "") (Or.inl (hw _ (List.mem_of_getElem? (i := 16) rfl))) Via.refl e30 Fkey E1 (Or.inl (hw _ (List.mem_of_getElem? (i := 17) rfl))) (hw _ (List.mem_of_getElem? (i := 1) rfl)) (ty := (.object "java/lang/Object")) (by decide) (by rcases ref_cases hk2 with rfl | ⟨_, rfl⟩ <;> rfl) (by rcases ref_cases hk2 with rfl | ⟨_, rfl⟩ <;> rfl) (g := (mkF m 6 #[.val (.ref a1), .val k2, .val k3, .val (.int p4)] [k2, (.ref a1)])) rfl rfl (hb hby dd_6)
  have N31 := Fr.snoc X31 N0 g1
  refine own_go st31 ?_
  have f32 := Fld.same W31 Fkey
  have f33 := Exa.wr W31 E1
  have f34 := Fld.other W31 Fvalue (Or.inr (slot_ne (Or.inl (hw _ (List.mem_of_getElem? (i := 19) rfl))) (Or.inl (hw _ (List.mem_of_getElem? (i := 17) rfl))) (by decide) (t := (.object "java/lang/Object")) (t' := (.object "java/lang/Object")) (by decide) (by decide)))
  have f35 := Fld.other W31 Fleft (Or.inr (slot_ne (Or.inl (hw _ (List.mem_of_getElem? (i := 75) rfl))) (Or.inl (hw _ (List.mem_of_getElem? (i := 17) rfl))) (by decide) (t := (.object "com/example/sumac/sumac/RedBlackTreeMap$Node")) (t' := (.object "java/lang/Object")) (by decide) (by decide)))
  have f36 := Fld.other W31 Fright (Or.inr (slot_ne (Or.inl (hw _ (List.mem_of_getElem? (i := 83) rfl))) (Or.inl (hw _ (List.mem_of_getElem? (i := 17) rfl))) (by decide) (t := (.object "com/example/sumac/sumac/RedBlackTreeMap$Node")) (t' := (.object "java/lang/Object")) (by decide) (by decide)))
  have f37 := Fld.other W31 Fs (Or.inr (slot_ne (Or.inl (hw _ (List.mem_of_getElem? (i := 21) rfl))) (Or.inl (hw _ (List.mem_of_getElem? (i := 17) rfl))) (by decide) (t := .int) (t' := (.object "java/lang/Object")) (by decide) (by decide)))
  have z38 := Nat.le_trans Z0 (Keep.of_wr W31).1
  have k39 := (Keep.refl h0 [a1]).wr W31 (Or.inl (List.mem_of_getElem? (i := 0) rfl))
  show own_G p.tables e below s _ _ _ (T31.setTop (mkF m 9 #[.val (.ref a1), .val k2, .val k3, .val (.int p4)] []))
  refine own_go (fun t k => XS.aloadN X31.here hx rfl (hb hby dd_9) rfl rfl k) ?_
  show own_G p.tables e below s _ _ _ (T31.setTop (mkF m 10 #[.val (.ref a1), .val k2, .val k3, .val (.int p4)] [(.ref a1)]))
  refine own_go (fun t k => XS.aloadN X31.here hx rfl (hb hby dd_10) rfl hk3 k) ?_
  show own_G p.tables e below s _ _ _ (T31.setTop (mkF m 11 #[.val (.ref a1), .val k2, .val k3, .val (.int p4)] [k3, (.ref a1)]))
  obtain ⟨T40, h40, X40, e40, W40, st40⟩ := putF X31 hx hZ hown (host := "") (Or.inl (hw _ (List.mem_of_getElem? (i := 18) rfl))) Via.refl e31 f34 f33 (Or.inl (hw _ (List.mem_of_getElem? (i := 19) rfl))) (hw _ (List.mem_of_getElem? (i := 1) rfl)) (ty := (.object "java/lang/Object")) (by decide) (by rcases ref_cases hk3 with rfl | ⟨_, rfl⟩ <;> rfl) (by rcases ref_cases hk3 with rfl | ⟨_, rfl⟩ <;> rfl) (g := (mkF m 11 #[.val (.ref a1), .val k2, .val k3, .val (.int p4)] [k3, (.ref a1)])) rfl rfl (hb hby dd_11)
  have N40 := Fr.snoc X40 N31 g1
  refine own_go st40 ?_
  have f41 := Fld.same W40 f34
  have f42 := Exa.wr W40 f33
  have f43 := Fld.other W40 f32 (Or.inr (slot_ne (Or.inl (hw _ (List.mem_of_getElem? (i := 17) rfl))) (Or.inl (hw _ (List.mem_of_getElem? (i := 19) rfl))) (by decide) (t := (.object "java/lang/Object")) (t' := (.object "java/lang/Object")) (by decide) (by decide)))
  have f44 := Fld.other W40 f35 (Or.inr (slot_ne (Or.inl (hw _ (List.mem_of_getElem? (i := 75) rfl))) (Or.inl (hw _ (List.mem_of_getElem? (i := 19) rfl))) (by decide) (t := (.object "com/example/sumac/sumac/RedBlackTreeMap$Node")) (t' := (.object "java/lang/Object")) (by decide) (by decide)))
  have f45 := Fld.other W40 f36 (Or.inr (slot_ne (Or.inl (hw _ (List.mem_of_getElem? (i := 83) rfl))) (Or.inl (hw _ (List.mem_of_getElem? (i := 19) rfl))) (by decide) (t := (.object "com/example/sumac/sumac/RedBlackTreeMap$Node")) (t' := (.object "java/lang/Object")) (by decide) (by decide)))
  have f46 := Fld.other W40 f37 (Or.inr (slot_ne (Or.inl (hw _ (List.mem_of_getElem? (i := 21) rfl))) (Or.inl (hw _ (List.mem_of_getElem? (i := 19) rfl))) (by decide) (t := .int) (t' := (.object "java/lang/Object")) (by decide) (by decide)))
  have z47 := Nat.le_trans z38 (Keep.of_wr W40).1
  have k48 := k39.wr W40 (Or.inl (List.mem_of_getElem? (i := 0) rfl))
  show own_G p.tables e below s _ _ _ (T40.setTop (mkF m 14 #[.val (.ref a1), .val k2, .val k3, .val (.int p4)] []))
  refine own_go (fun t k => XS.aloadN X40.here hx rfl (hb hby dd_14) rfl rfl k) ?_
  show own_G p.tables e below s _ _ _ (T40.setTop (mkF m 15 #[.val (.ref a1), .val k2, .val k3, .val (.int p4)] [(.ref a1)]))
  refine own_go (fun t k => XS.iloadN X40.here hx rfl (hb hby dd_15) rfl k) ?_
  show own_G p.tables e below s _ _ _ (T40.setTop (mkF m 16 #[.val (.ref a1), .val k2, .val k3, .val (.int p4)] [(.int p4), (.ref a1)]))
  by_cases h16 : p4 = (0 : Int32)
  · refine own_go (fun t k => XS.ifYes X40.here hx rfl (pc0 := 16) (pc' := 24) rfl (hb hby dd_16) rfl (Jvm.Free.XT.i0_eq_t h16) (by decide) (by decide) k) ?_
    show own_G p.tables e below s _ _ _ (T40.setTop (mkF m 24 #[.val (.ref a1), .val k2, .val k3, .val (.int p4)] [(.ref a1)]))
    refine own_go (fun t k => XS.iconst X40.here hx rfl (hb hby dd_24) k) ?_
    show own_G p.tables e below s _ _ _ (T40.setTop (mkF m 25 #[.val (.ref a1), .val k2, .val k3, .val (.int p4)] [(.int (1 : Int32)), (.ref a1)]))
    obtain ⟨T49, h49, X49, e49, W49, st49⟩ := putF X40 hx hZ hown (host := "") (Or.inl (hw _ (List.mem_of_getElem? (i := 20) rfl))) Via.refl e40 f46 f42 (Or.inl (hw _ (List.mem_of_getElem? (i := 21) rfl))) (hw _ (List.mem_of_getElem? (i := 1) rfl)) (ty := .int) (by decide) rfl rfl (g := (mkF m 25 #[.val (.ref a1), .val k2, .val k3, .val (.int p4)] [(.int (1 : Int32)), (.ref a1)])) rfl rfl (hb hby dd_25)
    have N49 := Fr.snoc X49 N40 g1
    refine own_go st49 ?_
    have f50 := Fld.same W49 f46
    have f51 := Exa.wr W49 f42
    have f52 := Fld.other W49 f43 (Or.inr (slot_ne (Or.inl (hw _ (List.mem_of_getElem? (i := 17) rfl))) (Or.inl (hw _ (List.mem_of_getElem? (i := 21) rfl))) (by decide) (t := (.object "java/lang/Object")) (t' := .int) (by decide) (by decide)))
    have f53 := Fld.other W49 f41 (Or.inr (slot_ne (Or.inl (hw _ (List.mem_of_getElem? (i := 19) rfl))) (Or.inl (hw _ (List.mem_of_getElem? (i := 21) rfl))) (by decide) (t := (.object "java/lang/Object")) (t' := .int) (by decide) (by decide)))
    have f54 := Fld.other W49 f44 (Or.inr (slot_ne (Or.inl (hw _ (List.mem_of_getElem? (i := 75) rfl))) (Or.inl (hw _ (List.mem_of_getElem? (i := 21) rfl))) (by decide) (t := (.object "com/example/sumac/sumac/RedBlackTreeMap$Node")) (t' := .int) (by decide) (by decide)))
    have f55 := Fld.other W49 f45 (Or.inr (slot_ne (Or.inl (hw _ (List.mem_of_getElem? (i := 83) rfl))) (Or.inl (hw _ (List.mem_of_getElem? (i := 21) rfl))) (by decide) (t := (.object "com/example/sumac/sumac/RedBlackTreeMap$Node")) (t' := .int) (by decide) (by decide)))
    have z56 := Nat.le_trans z47 (Keep.of_wr W49).1
    have k57 := k48.wr W49 (Or.inl (List.mem_of_getElem? (i := 0) rfl))
    show own_G p.tables e below s _ _ _ (T49.setTop (mkF m 28 #[.val (.ref a1), .val k2, .val k3, .val (.int p4)] []))
    exact own_retV X49 hx hlk Bd.returns (hb hby dd_28) (by rw [e49]; exact ⟨rfl, N49, k57, f54, f55⟩) (by decide) (by decide)
  · refine own_go (fun t k => XS.ifNo X40.here hx rfl (hb hby dd_16) rfl (Jvm.Free.XT.i0_eq_f h16) k) ?_
    show own_G p.tables e below s _ _ _ (T40.setTop (mkF m 19 #[.val (.ref a1), .val k2, .val k3, .val (.int p4)] [(.ref a1)]))
    refine own_go (fun t k => X40.ldcInt hx hown (mvT hZ (hw _ (List.mem_of_getElem? (i := 81) rfl))) (g := (mkF m 19 #[.val (.ref a1), .val k2, .val k3, .val (.int p4)] [(.ref a1)])) rfl (hb hby dd_19) _ k) ?_
    show own_G p.tables e below s _ _ _ (T40.setTop (mkF m 21 #[.val (.ref a1), .val k2, .val k3, .val (.int p4)] [(.int (-2147483647 : Int32)), (.ref a1)]))
    refine own_go (fun t k => XS.goto X40.here hx rfl (pc0 := 21) (pc' := 25) rfl (hb hby dd_21) (by decide) (by decide) k) ?_
    show own_G p.tables e below s _ _ _ (T40.setTop (mkF m 25 #[.val (.ref a1), .val k2, .val k3, .val (.int p4)] [(.int (-2147483647 : Int32)), (.ref a1)]))
    obtain ⟨T58, h58, X58, e58, W58, st58⟩ := putF X40 hx hZ hown (host := "") (Or.inl (hw _ (List.mem_of_getElem? (i := 20) rfl))) Via.refl e40 f46 f42 (Or.inl (hw _ (List.mem_of_getElem? (i := 21) rfl))) (hw _ (List.mem_of_getElem? (i := 1) rfl)) (ty := .int) (by decide) rfl rfl (g := (mkF m 25 #[.val (.ref a1), .val k2, .val k3, .val (.int p4)] [(.int (-2147483647 : Int32)), (.ref a1)])) rfl rfl (hb hby dd_25)
    have N58 := Fr.snoc X58 N40 g1
    refine own_go st58 ?_
    have f59 := Fld.same W58 f46
    have f60 := Exa.wr W58 f42
    have f61 := Fld.other W58 f43 (Or.inr (slot_ne (Or.inl (hw _ (List.mem_of_getElem? (i := 17) rfl))) (Or.inl (hw _ (List.mem_of_getElem? (i := 21) rfl))) (by decide) (t := (.object "java/lang/Object")) (t' := .int) (by decide) (by decide)))
    have f62 := Fld.other W58 f41 (Or.inr (slot_ne (Or.inl (hw _ (List.mem_of_getElem? (i := 19) rfl))) (Or.inl (hw _ (List.mem_of_getElem? (i := 21) rfl))) (by decide) (t := (.object "java/lang/Object")) (t' := .int) (by decide) (by decide)))
    have f63 := Fld.other W58 f44 (Or.inr (slot_ne (Or.inl (hw _ (List.mem_of_getElem? (i := 75) rfl))) (Or.inl (hw _ (List.mem_of_getElem? (i := 21) rfl))) (by decide) (t := (.object "com/example/sumac/sumac/RedBlackTreeMap$Node")) (t' := .int) (by decide) (by decide)))
    have f64 := Fld.other W58 f45 (Or.inr (slot_ne (Or.inl (hw _ (List.mem_of_getElem? (i := 83) rfl))) (Or.inl (hw _ (List.mem_of_getElem? (i := 21) rfl))) (by decide) (t := (.object "com/example/sumac/sumac/RedBlackTreeMap$Node")) (t' := .int) (by decide) (by decide)))
    have z65 := Nat.le_trans z47 (Keep.of_wr W58).1
    have k66 := k48.wr W58 (Or.inl (List.mem_of_getElem? (i := 0) rfl))
    show own_G p.tables e below s _ _ _ (T58.setTop (mkF m 28 #[.val (.ref a1), .val k2, .val k3, .val (.int p4)] []))
    exact own_retV X58 hx hlk Bd.returns (hb hby dd_28) (by rw [e58]; exact ⟨rfl, N58, k66, f63, f64⟩) (by decide) (by decide)
theorem dz_0 : decode jdk_33_method_47_code 0 = .ok (.iload_n 0, 1) := by decide +kernel
theorem dz_1 : decode jdk_33_method_47_code 1 = .ok (.ifCond .gt 14, 3) := by decide +kernel
theorem dz_15 : decode jdk_33_method_47_code 15 = .ok (.bipush 31, 2) := by decide +kernel
theorem dz_17 : decode jdk_33_method_47_code 17 = .ok (.istore_n 1, 1) := by decide +kernel
theorem dz_18 : decode jdk_33_method_47_code 18 = .ok (.iload_n 0, 1) := by decide +kernel
theorem dz_19 : decode jdk_33_method_47_code 19 = .ok (.ldc_w 264, 3) := by decide +kernel
theorem dz_22 : decode jdk_33_method_47_code 22 = .ok (.if_icmp .lt 11, 3) := by decide +kernel
theorem dz_25 : decode jdk_33_method_47_code 25 = .ok (.iinc 1 (-16), 3) := by decide +kernel
theorem dz_28 : decode jdk_33_method_47_code 28 = .ok (.iload_n 0, 1) := by decide +kernel
theorem dz_29 : decode jdk_33_method_47_code 29 = .ok (.bipush 16, 2) := by decide +kernel
theorem dz_31 : decode jdk_33_method_47_code 31 = .ok (.iushr, 1) := by decide +kernel
theorem dz_32 : decode jdk_33_method_47_code 32 = .ok (.istore_n 0, 1) := by decide +kernel
theorem dz_33 : decode jdk_33_method_47_code 33 = .ok (.iload_n 0, 1) := by decide +kernel
theorem dz_34 : decode jdk_33_method_47_code 34 = .ok (.sipush 256, 3) := by decide +kernel
theorem dz_37 : decode jdk_33_method_47_code 37 = .ok (.if_icmp .lt 11, 3) := by decide +kernel
theorem dz_40 : decode jdk_33_method_47_code 40 = .ok (.iinc 1 (-8), 3) := by decide +kernel
theorem dz_43 : decode jdk_33_method_47_code 43 = .ok (.iload_n 0, 1) := by decide +kernel
theorem dz_44 : decode jdk_33_method_47_code 44 = .ok (.bipush 8, 2) := by decide +kernel
theorem dz_46 : decode jdk_33_method_47_code 46 = .ok (.iushr, 1) := by decide +kernel
theorem dz_47 : decode jdk_33_method_47_code 47 = .ok (.istore_n 0, 1) := by decide +kernel
theorem dz_48 : decode jdk_33_method_47_code 48 = .ok (.iload_n 0, 1) := by decide +kernel
theorem dz_49 : decode jdk_33_method_47_code 49 = .ok (.bipush 16, 2) := by decide +kernel
theorem dz_51 : decode jdk_33_method_47_code 51 = .ok (.if_icmp .lt 10, 3) := by decide +kernel
theorem dz_54 : decode jdk_33_method_47_code 54 = .ok (.iinc 1 (-4), 3) := by decide +kernel
theorem dz_57 : decode jdk_33_method_47_code 57 = .ok (.iload_n 0, 1) := by decide +kernel
theorem dz_58 : decode jdk_33_method_47_code 58 = .ok (.iconst 4, 1) := by decide +kernel
theorem dz_59 : decode jdk_33_method_47_code 59 = .ok (.iushr, 1) := by decide +kernel
theorem dz_60 : decode jdk_33_method_47_code 60 = .ok (.istore_n 0, 1) := by decide +kernel
theorem dz_61 : decode jdk_33_method_47_code 61 = .ok (.iload_n 0, 1) := by decide +kernel
theorem dz_62 : decode jdk_33_method_47_code 62 = .ok (.iconst 4, 1) := by decide +kernel
theorem dz_63 : decode jdk_33_method_47_code 63 = .ok (.if_icmp .lt 10, 3) := by decide +kernel
theorem dz_66 : decode jdk_33_method_47_code 66 = .ok (.iinc 1 (-2), 3) := by decide +kernel
theorem dz_69 : decode jdk_33_method_47_code 69 = .ok (.iload_n 0, 1) := by decide +kernel
theorem dz_70 : decode jdk_33_method_47_code 70 = .ok (.iconst 2, 1) := by decide +kernel
theorem dz_71 : decode jdk_33_method_47_code 71 = .ok (.iushr, 1) := by decide +kernel
theorem dz_72 : decode jdk_33_method_47_code 72 = .ok (.istore_n 0, 1) := by decide +kernel
theorem dz_73 : decode jdk_33_method_47_code 73 = .ok (.iload_n 1, 1) := by decide +kernel
theorem dz_74 : decode jdk_33_method_47_code 74 = .ok (.iload_n 0, 1) := by decide +kernel
theorem dz_75 : decode jdk_33_method_47_code 75 = .ok (.iconst 1, 1) := by decide +kernel
theorem dz_76 : decode jdk_33_method_47_code 76 = .ok (.iushr, 1) := by decide +kernel
theorem dz_77 : decode jdk_33_method_47_code 77 = .ok (.isub, 1) := by decide +kernel
theorem dz_78 : decode jdk_33_method_47_code 78 = .ok (.ireturn, 1) := by decide +kernel
theorem ef_z (m : MethodId) (x0 : Int32) : entryFrame m #[(.int x0)] 2 = mkF m 0 #[.val (.int x0), .unset] [] := by first | (simp [entryFrame, mkF, argsToLocals, Value.category]; done) | rfl
def Qz (Z : State) (p1 : Int32) (h0 : Heap) (n0 : Nat) (v : Option Value) (h : Heap) (L : List Loc) : Prop := v = some (.int (own_nlz p1)) ∧ Fr n0 L ∧ h = h0
set_option maxRecDepth 65536 in
set_option maxHeartbeats 40000000 in
theorem rmz (l : Launch) (Z : State) (a0 : Array Value) (hw : ∀ d ∈ tables_1, d.before a0 Z = true) (ws : List Jvm.Cond) (p1 : Int32) (h0 : Heap) (n0 : Nat) (Z0 : n0 ≤ h0.size) (hp : (0 : Int32) < p1) :
    MetFree l (⟨"java/lang/Integer", "numberOfLeadingZeros", "(I)I"⟩ : MethodName) (head1 (Jvm.Cond.code (⟨"java/lang/Integer", "numberOfLeadingZeros", "(I)I"⟩ : MethodName) jdk_33_method_47_code 2 (some .int) :: ws) ({ frames := 0, cells := 0, slots := 0, locals := 0 } : Room)) (fun a U => a = #[(.int p1)] ∧ Z.Warmed39 U.vm ∧ U.heap = h0) (fun _ _ _ _ _ => True) (fun _ U o U' => ∃ v L, o = .returned v ∧ Qz Z p1 h0 n0 v U'.heap L ∧ FrameEnd U o U' L ({ frames := 0, cells := 0, slots := 0, locals := 0 } : Room).cells ({ frames := 0, cells := 0, slots := 0, locals := 0 } : Room).slots) := by
  refine MetFree.of_bodySF (plainFor_of_name pn_java_lang_Integer) hisR ?_
  intro p e s m args below meth c s₁ Bd hml0 hP hK
  obtain ⟨rfl, hZ, hh⟩ := hP
  have hx := Bd.exec
  have hby := Bd.bytes
  have hlk : meth.locks = false := BodyLoose.notSynchronized Bd
  have hml : c.maxLocals = 2 := hml0
  have hown : s.vm.findClass "java/lang/Integer" = some m.cls := findClass_of_methodNamed Bd.named
  have hnm := (name_of_methodNamed Bd.named Bd.method).1
  have X0 : Stand p l e ({ frames := 0, cells := 0, slots := 0, locals := 0 } : Room) s m #[(.int p1)] below meth c s₁ [] 0 0 := Stand.of_body Bd
  have e0 : s₁.heap = h0 := by rw [← hh, Bd.state]; rfl
  have N0 := Fr.nil n0
  show own_G p.tables e below s (Qz Z p1 h0 n0) ({ frames := 0, cells := 0, slots := 0, locals := 0 } : Room).cells ({ frames := 0, cells := 0, slots := 0, locals := 0 } : Room).slots (s₁.setTop (entryFrame m #[(.int p1)] 2))
  refine own_go (fun t k => castTop (ef_z m p1) k) ?_
  show own_G p.tables e below s _ _ _ (s₁.setTop (mkF m 0 #[.val (.int p1), .unset] []))
  refine own_go (fun t k => XS.iloadN X0.here hx rfl (hb hby dz_0) rfl k) ?_
  show own_G p.tables e below s _ _ _ (s₁.setTop (mkF m 1 #[.val (.int p1), .unset] [(.int p1)]))
  refine own_go (fun t k => XS.ifYes X0.here hx rfl (pc0 := 1) (pc' := 15) rfl (hb hby dz_1) rfl (Jvm.Free.XT.i0_gt_t hp) (by decide) (by decide) k) ?_
  show own_G p.tables e below s _ _ _ (s₁.setTop (mkF m 15 #[.val (.int p1), .unset] []))
  refine own_go (fun t k => XS.bipush X0.here hx rfl (hb hby dz_15) k) ?_
  show own_G p.tables e below s _ _ _ (s₁.setTop (mkF m 17 #[.val (.int p1), .unset] [(.int (31 : Int32))]))
  refine own_go (fun t k => XS.istoreN X0.here hx rfl (hb hby dz_17) rfl (l' := #[.val (.int p1), .val (.int (31 : Int32))]) rfl k) ?_
  show own_G p.tables e below s _ _ _ (s₁.setTop (mkF m 18 #[.val (.int p1), .val (.int (31 : Int32))] []))
  refine own_go (fun t k => XS.iloadN X0.here hx rfl (hb hby dz_18) rfl k) ?_
  show own_G p.tables e below s _ _ _ (s₁.setTop (mkF m 19 #[.val (.int p1), .val (.int (31 : Int32))] [(.int p1)]))
  refine own_go (fun t k => X0.ldcwInt hx hown (mvT hZ (hw _ (List.mem_of_getElem? (i := 40) rfl))) (g := (mkF m 19 #[.val (.int p1), .val (.int (31 : Int32))] [(.int p1)])) rfl (hb hby dz_19) _ k) ?_
  show own_G p.tables e below s _ _ _ (s₁.setTop (mkF m 22 #[.val (.int p1), .val (.int (31 : Int32))] [(.int (65536 : Int32)), (.int p1)]))
  obtain ⟨x1, hxx1⟩ : ∃ z : Int32, (if p1 < (65536 : Int32) then p1 else ((p1.toUInt32 >>> ((16 : Int32) &&& 31).toUInt32).toInt32)) = z := ⟨_, rfl⟩
  obtain ⟨n1, hnn1⟩ : ∃ z : Int32, (if p1 < (65536 : Int32) then (31 : Int32) else (15 : Int32)) = z := ⟨_, rfl⟩
  refine own_go (A := (s₁.setTop (mkF m 33 #[.val (.int x1), .val (.int n1)] []))) (fun t k => ?_) ?_
  · show Steps p.tables e below (s₁.setTop (mkF m 22 #[.val (.int p1), .val (.int (31 : Int32))] [(.int (65536 : Int32)), (.int p1)])) _
    by_cases hq : p1 < (65536 : Int32)
    · refine XS.icmpYes X0.here hx rfl (pc0 := 22) (pc' := 33) rfl (hb hby dz_22) rfl (Jvm.Free.XT.ii_lt_t hq) (by decide) (by decide) ?_
      show Steps p.tables e below (s₁.setTop (mkF m 33 #[.val (.int p1), .val (.int (31 : Int32))] [])) _
      rw [← hxx1, ← hnn1, if_pos hq, if_pos hq] at k
      exact k
    · refine XS.icmpNo X0.here hx rfl (hb hby dz_22) rfl (Jvm.Free.XT.ii_lt_f hq) ?_
      show Steps p.tables e below (s₁.setTop (mkF m 25 #[.val (.int p1), .val (.int (31 : Int32))] [])) _
      refine XS.iinc X0.here hx rfl (hb hby dz_25) rfl (l' := #[.val (.int p1), .val (.int (15 : Int32))]) rfl ?_
      show Steps p.tables e below (s₁.setTop (mkF m 28 #[.val (.int p1), .val (.int (15 : Int32))] [])) _
      refine XS.iloadN X0.here hx rfl (hb hby dz_28) rfl ?_
      show Steps p.tables e below (s₁.setTop (mkF m 29 #[.val (.int p1), .val (.int (15 : Int32))] [(.int p1)])) _
      refine XS.bipush X0.here hx rfl (hb hby dz_29) ?_
      show Steps p.tables e below (s₁.setTop (mkF m 31 #[.val (.int p1), .val (.int (15 : Int32))] [(.int (16 : Int32)), (.int p1)])) _
      refine XS.iushr X0.here hx rfl (hb hby dz_31) rfl ?_
      show Steps p.tables e below (s₁.setTop (mkF m 32 #[.val (.int p1), .val (.int (15 : Int32))] [(.int ((p1.toUInt32 >>> ((16 : Int32) &&& 31).toUInt32).toInt32))])) _
      refine XS.istoreN X0.here hx rfl (hb hby dz_32) rfl (l' := #[.val (.int ((p1.toUInt32 >>> ((16 : Int32) &&& 31).toUInt32).toInt32)), .val (.int (15 : Int32))]) rfl ?_
      show Steps p.tables e below (s₁.setTop (mkF m 33 #[.val (.int ((p1.toUInt32 >>> ((16 : Int32) &&& 31).toUInt32).toInt32)), .val (.int (15 : Int32))] [])) _
      rw [← hxx1, ← hnn1, if_neg hq, if_neg hq] at k
      exact k
  show own_G p.tables e below s _ _ _ (s₁.setTop (mkF m 33 #[.val (.int x1), .val (.int n1)] []))
  refine own_go (fun t k => XS.iloadN X0.here hx rfl (hb hby dz_33) rfl k) ?_
  show own_G p.tables e below s _ _ _ (s₁.setTop (mkF m 34 #[.val (.int x1), .val (.int n1)] [(.int x1)]))
  refine own_go (fun t k => XS.sipush X0.here hx rfl (hb hby dz_34) k) ?_
  show own_G p.tables e below s _ _ _ (s₁.setTop (mkF m 37 #[.val (.int x1), .val (.int n1)] [(.int (256 : Int32)), (.int x1)]))
  obtain ⟨x2, hxx2⟩ : ∃ z : Int32, (if x1 < (256 : Int32) then x1 else ((x1.toUInt32 >>> ((8 : Int32) &&& 31).toUInt32).toInt32)) = z := ⟨_, rfl⟩
  obtain ⟨n2, hnn2⟩ : ∃ z : Int32, (if x1 < (256 : Int32) then n1 else (n1 + (-8 : Int32))) = z := ⟨_, rfl⟩
  refine own_go (A := (s₁.setTop (mkF m 48 #[.val (.int x2), .val (.int n2)] []))) (fun t k => ?_) ?_
  · show Steps p.tables e below (s₁.setTop (mkF m 37 #[.val (.int x1), .val (.int n1)] [(.int (256 : Int32)), (.int x1)])) _
    by_cases hq : x1 < (256 : Int32)
    · refine XS.icmpYes X0.here hx rfl (pc0 := 37) (pc' := 48) rfl (hb hby dz_37) rfl (Jvm.Free.XT.ii_lt_t hq) (by decide) (by decide) ?_
      show Steps p.tables e below (s₁.setTop (mkF m 48 #[.val (.int x1), .val (.int n1)] [])) _
      rw [← hxx2, ← hnn2, if_pos hq, if_pos hq] at k
      exact k
    · refine XS.icmpNo X0.here hx rfl (hb hby dz_37) rfl (Jvm.Free.XT.ii_lt_f hq) ?_
      show Steps p.tables e below (s₁.setTop (mkF m 40 #[.val (.int x1), .val (.int n1)] [])) _
      refine XS.iinc X0.here hx rfl (hb hby dz_40) rfl (l' := #[.val (.int x1), .val (.int (n1 + (-8 : Int32)))]) rfl ?_
      show Steps p.tables e below (s₁.setTop (mkF m 43 #[.val (.int x1), .val (.int (n1 + (-8 : Int32)))] [])) _
      refine XS.iloadN X0.here hx rfl (hb hby dz_43) rfl ?_
      show Steps p.tables e below (s₁.setTop (mkF m 44 #[.val (.int x1), .val (.int (n1 + (-8 : Int32)))] [(.int x1)])) _
      refine XS.bipush X0.here hx rfl (hb hby dz_44) ?_
      show Steps p.tables e below (s₁.setTop (mkF m 46 #[.val (.int x1), .val (.int (n1 + (-8 : Int32)))] [(.int (8 : Int32)), (.int x1)])) _
      refine XS.iushr X0.here hx rfl (hb hby dz_46) rfl ?_
      show Steps p.tables e below (s₁.setTop (mkF m 47 #[.val (.int x1), .val (.int (n1 + (-8 : Int32)))] [(.int ((x1.toUInt32 >>> ((8 : Int32) &&& 31).toUInt32).toInt32))])) _
      refine XS.istoreN X0.here hx rfl (hb hby dz_47) rfl (l' := #[.val (.int ((x1.toUInt32 >>> ((8 : Int32) &&& 31).toUInt32).toInt32)), .val (.int (n1 + (-8 : Int32)))]) rfl ?_
      show Steps p.tables e below (s₁.setTop (mkF m 48 #[.val (.int ((x1.toUInt32 >>> ((8 : Int32) &&& 31).toUInt32).toInt32)), .val (.int (n1 + (-8 : Int32)))] [])) _
      rw [← hxx2, ← hnn2, if_neg hq, if_neg hq] at k
      exact k
  show own_G p.tables e below s _ _ _ (s₁.setTop (mkF m 48 #[.val (.int x2), .val (.int n2)] []))
  refine own_go (fun t k => XS.iloadN X0.here hx rfl (hb hby dz_48) rfl k) ?_
  show own_G p.tables e below s _ _ _ (s₁.setTop (mkF m 49 #[.val (.int x2), .val (.int n2)] [(.int x2)]))
  refine own_go (fun t k => XS.bipush X0.here hx rfl (hb hby dz_49) k) ?_
  show own_G p.tables e below s _ _ _ (s₁.setTop (mkF m 51 #[.val (.int x2), .val (.int n2)] [(.int (16 : Int32)), (.int x2)]))
  obtain ⟨x3, hxx3⟩ : ∃ z : Int32, (if x2 < (16 : Int32) then x2 else ((x2.toUInt32 >>> ((4 : Int32) &&& 31).toUInt32).toInt32)) = z := ⟨_, rfl⟩
  obtain ⟨n3, hnn3⟩ : ∃ z : Int32, (if x2 < (16 : Int32) then n2 else (n2 + (-4 : Int32))) = z := ⟨_, rfl⟩
  refine own_go (A := (s₁.setTop (mkF m 61 #[.val (.int x3), .val (.int n3)] []))) (fun t k => ?_) ?_
  · show Steps p.tables e below (s₁.setTop (mkF m 51 #[.val (.int x2), .val (.int n2)] [(.int (16 : Int32)), (.int x2)])) _
    by_cases hq : x2 < (16 : Int32)
    · refine XS.icmpYes X0.here hx rfl (pc0 := 51) (pc' := 61) rfl (hb hby dz_51) rfl (Jvm.Free.XT.ii_lt_t hq) (by decide) (by decide) ?_
      show Steps p.tables e below (s₁.setTop (mkF m 61 #[.val (.int x2), .val (.int n2)] [])) _
      rw [← hxx3, ← hnn3, if_pos hq, if_pos hq] at k
      exact k
    · refine XS.icmpNo X0.here hx rfl (hb hby dz_51) rfl (Jvm.Free.XT.ii_lt_f hq) ?_
      show Steps p.tables e below (s₁.setTop (mkF m 54 #[.val (.int x2), .val (.int n2)] [])) _
      refine XS.iinc X0.here hx rfl (hb hby dz_54) rfl (l' := #[.val (.int x2), .val (.int (n2 + (-4 : Int32)))]) rfl ?_
      show Steps p.tables e below (s₁.setTop (mkF m 57 #[.val (.int x2), .val (.int (n2 + (-4 : Int32)))] [])) _
      refine XS.iloadN X0.here hx rfl (hb hby dz_57) rfl ?_
      show Steps p.tables e below (s₁.setTop (mkF m 58 #[.val (.int x2), .val (.int (n2 + (-4 : Int32)))] [(.int x2)])) _
      refine XS.iconst X0.here hx rfl (hb hby dz_58) ?_
      show Steps p.tables e below (s₁.setTop (mkF m 59 #[.val (.int x2), .val (.int (n2 + (-4 : Int32)))] [(.int (4 : Int32)), (.int x2)])) _
      refine XS.iushr X0.here hx rfl (hb hby dz_59) rfl ?_
      show Steps p.tables e below (s₁.setTop (mkF m 60 #[.val (.int x2), .val (.int (n2 + (-4 : Int32)))] [(.int ((x2.toUInt32 >>> ((4 : Int32) &&& 31).toUInt32).toInt32))])) _
      refine XS.istoreN X0.here hx rfl (hb hby dz_60) rfl (l' := #[.val (.int ((x2.toUInt32 >>> ((4 : Int32) &&& 31).toUInt32).toInt32)), .val (.int (n2 + (-4 : Int32)))]) rfl ?_
      show Steps p.tables e below (s₁.setTop (mkF m 61 #[.val (.int ((x2.toUInt32 >>> ((4 : Int32) &&& 31).toUInt32).toInt32)), .val (.int (n2 + (-4 : Int32)))] [])) _
      rw [← hxx3, ← hnn3, if_neg hq, if_neg hq] at k
      exact k
  show own_G p.tables e below s _ _ _ (s₁.setTop (mkF m 61 #[.val (.int x3), .val (.int n3)] []))
  refine own_go (fun t k => XS.iloadN X0.here hx rfl (hb hby dz_61) rfl k) ?_
  show own_G p.tables e below s _ _ _ (s₁.setTop (mkF m 62 #[.val (.int x3), .val (.int n3)] [(.int x3)]))
  refine own_go (fun t k => XS.iconst X0.here hx rfl (hb hby dz_62) k) ?_
  show own_G p.tables e below s _ _ _ (s₁.setTop (mkF m 63 #[.val (.int x3), .val (.int n3)] [(.int (4 : Int32)), (.int x3)]))
  obtain ⟨x4, hxx4⟩ : ∃ z : Int32, (if x3 < (4 : Int32) then x3 else ((x3.toUInt32 >>> ((2 : Int32) &&& 31).toUInt32).toInt32)) = z := ⟨_, rfl⟩
  obtain ⟨n4, hnn4⟩ : ∃ z : Int32, (if x3 < (4 : Int32) then n3 else (n3 + (-2 : Int32))) = z := ⟨_, rfl⟩
  refine own_go (A := (s₁.setTop (mkF m 73 #[.val (.int x4), .val (.int n4)] []))) (fun t k => ?_) ?_
  · show Steps p.tables e below (s₁.setTop (mkF m 63 #[.val (.int x3), .val (.int n3)] [(.int (4 : Int32)), (.int x3)])) _
    by_cases hq : x3 < (4 : Int32)
    · refine XS.icmpYes X0.here hx rfl (pc0 := 63) (pc' := 73) rfl (hb hby dz_63) rfl (Jvm.Free.XT.ii_lt_t hq) (by decide) (by decide) ?_
      show Steps p.tables e below (s₁.setTop (mkF m 73 #[.val (.int x3), .val (.int n3)] [])) _
      rw [← hxx4, ← hnn4, if_pos hq, if_pos hq] at k
      exact k
    · refine XS.icmpNo X0.here hx rfl (hb hby dz_63) rfl (Jvm.Free.XT.ii_lt_f hq) ?_
      show Steps p.tables e below (s₁.setTop (mkF m 66 #[.val (.int x3), .val (.int n3)] [])) _
      refine XS.iinc X0.here hx rfl (hb hby dz_66) rfl (l' := #[.val (.int x3), .val (.int (n3 + (-2 : Int32)))]) rfl ?_
      show Steps p.tables e below (s₁.setTop (mkF m 69 #[.val (.int x3), .val (.int (n3 + (-2 : Int32)))] [])) _
      refine XS.iloadN X0.here hx rfl (hb hby dz_69) rfl ?_
      show Steps p.tables e below (s₁.setTop (mkF m 70 #[.val (.int x3), .val (.int (n3 + (-2 : Int32)))] [(.int x3)])) _
      refine XS.iconst X0.here hx rfl (hb hby dz_70) ?_
      show Steps p.tables e below (s₁.setTop (mkF m 71 #[.val (.int x3), .val (.int (n3 + (-2 : Int32)))] [(.int (2 : Int32)), (.int x3)])) _
      refine XS.iushr X0.here hx rfl (hb hby dz_71) rfl ?_
      show Steps p.tables e below (s₁.setTop (mkF m 72 #[.val (.int x3), .val (.int (n3 + (-2 : Int32)))] [(.int ((x3.toUInt32 >>> ((2 : Int32) &&& 31).toUInt32).toInt32))])) _
      refine XS.istoreN X0.here hx rfl (hb hby dz_72) rfl (l' := #[.val (.int ((x3.toUInt32 >>> ((2 : Int32) &&& 31).toUInt32).toInt32)), .val (.int (n3 + (-2 : Int32)))]) rfl ?_
      show Steps p.tables e below (s₁.setTop (mkF m 73 #[.val (.int ((x3.toUInt32 >>> ((2 : Int32) &&& 31).toUInt32).toInt32)), .val (.int (n3 + (-2 : Int32)))] [])) _
      rw [← hxx4, ← hnn4, if_neg hq, if_neg hq] at k
      exact k
  show own_G p.tables e below s _ _ _ (s₁.setTop (mkF m 73 #[.val (.int x4), .val (.int n4)] []))
  refine own_go (fun t k => XS.iloadN X0.here hx rfl (hb hby dz_73) rfl k) ?_
  show own_G p.tables e below s _ _ _ (s₁.setTop (mkF m 74 #[.val (.int x4), .val (.int n4)] [(.int n4)]))
  refine own_go (fun t k => XS.iloadN X0.here hx rfl (hb hby dz_74) rfl k) ?_
  show own_G p.tables e below s _ _ _ (s₁.setTop (mkF m 75 #[.val (.int x4), .val (.int n4)] [(.int x4), (.int n4)]))
  refine own_go (fun t k => XS.iconst X0.here hx rfl (hb hby dz_75) k) ?_
  show own_G p.tables e below s _ _ _ (s₁.setTop (mkF m 76 #[.val (.int x4), .val (.int n4)] [(.int (1 : Int32)), (.int x4), (.int n4)]))
  refine own_go (fun t k => XS.iushr X0.here hx rfl (hb hby dz_76) rfl k) ?_
  show own_G p.tables e below s _ _ _ (s₁.setTop (mkF m 77 #[.val (.int x4), .val (.int n4)] [(.int ((x4.toUInt32 >>> ((1 : Int32) &&& 31).toUInt32).toInt32)), (.int n4)]))
  refine own_go (fun t k => XS.isub X0.here hx rfl (hb hby dz_77) rfl k) ?_
  show own_G p.tables e below s _ _ _ (s₁.setTop (mkF m 78 #[.val (.int x4), .val (.int n4)] [(.int (n4 - ((x4.toUInt32 >>> ((1 : Int32) &&& 31).toUInt32).toInt32)))]))
  exact own_retI X0 hx hlk Bd.returns (hb hby dz_78) (by rw [e0]; exact ⟨by subst hxx1 hnn1 hxx2 hnn2 hxx3 hnn3 hxx4 hnn4; rfl, N0, rfl⟩) (by decide) (by decide)
theorem dl_0 : decode jdk_35_method_48_code 0 = .ok (.lload_n 0, 1) := by decide +kernel
theorem dl_1 : decode jdk_35_method_48_code 1 = .ok (.bipush 32, 2) := by decide +kernel
theorem dl_3 : decode jdk_35_method_48_code 3 = .ok (.lushr, 1) := by decide +kernel
theorem dl_4 : decode jdk_35_method_48_code 4 = .ok (.l2i, 1) := by decide +kernel
theorem dl_5 : decode jdk_35_method_48_code 5 = .ok (.istore_n 2, 1) := by decide +kernel
theorem dl_6 : decode jdk_35_method_48_code 6 = .ok (.iload_n 2, 1) := by decide +kernel
theorem dl_7 : decode jdk_35_method_48_code 7 = .ok (.ifCond .ne 14, 3) := by decide +kernel
theorem dl_10 : decode jdk_35_method_48_code 10 = .ok (.bipush 32, 2) := by decide +kernel
theorem dl_12 : decode jdk_35_method_48_code 12 = .ok (.lload_n 0, 1) := by decide +kernel
theorem dl_13 : decode jdk_35_method_48_code 13 = .ok (.l2i, 1) := by decide +kernel
theorem pd__I_I : parseMethodDescriptor "(I)I" = some ⟨[.int], some .int⟩ := by decide +kernel
theorem dl_14 : decode jdk_35_method_48_code 14 = .ok (.invokestatic 308, 3) := by decide +kernel
theorem dl_17 : decode jdk_35_method_48_code 17 = .ok (.iadd, 1) := by decide +kernel
theorem dl_18 : decode jdk_35_method_48_code 18 = .ok (.goto 7, 3) := by decide +kernel
theorem dl_25 : decode jdk_35_method_48_code 25 = .ok (.ireturn, 1) := by decide +kernel
theorem pn_java_lang_Long : plainName "java/lang/Long" = true := by first | (simp [plainName, overriddenIn]; done) | decide +kernel
theorem ef_l (m : MethodId) (x0 : Int64) : entryFrame m #[(.long x0)] 3 = mkF m 0 #[.val (.long x0), .second, .unset] [] := by first | (simp [entryFrame, mkF, argsToLocals, Value.category]; done) | rfl
def Ql (Z : State) (q1 : Int64) (h0 : Heap) (n0 : Nat) (v : Option Value) (h : Heap) (L : List Loc) : Prop := v = some (.int ((32 : Int32) + own_nlz q1.toInt32)) ∧ Fr n0 L ∧ h = h0
set_option maxRecDepth 65536 in
set_option maxHeartbeats 40000000 in
theorem rml (l : Launch) (Z : State) (a0 : Array Value) (hw : ∀ d ∈ tables_1, d.before a0 Z = true) (ws : List Jvm.Cond) (q1 : Int64) (h0 : Heap) (n0 : Nat) (Z0 : n0 ≤ h0.size) (hq1 : (((q1.toUInt64 >>> ((32 : Int32) &&& 0x3f).toInt64.toUInt64).toInt64).toInt32) = 0) (hp : (0 : Int32) < q1.toInt32) :
    MetFree l (⟨"java/lang/Long", "numberOfLeadingZeros", "(J)I"⟩ : MethodName) (head1 (Jvm.Cond.code (⟨"java/lang/Long", "numberOfLeadingZeros", "(J)I"⟩ : MethodName) jdk_35_method_48_code 3 (some .int) :: ws) ({ frames := 1, cells := 0, slots := 0, locals := 14 } : Room)) (fun a U => a = #[(.long q1)] ∧ Z.Warmed39 U.vm ∧ U.heap = h0) (fun _ _ _ _ _ => True) (fun _ U o U' => ∃ v L, o = .returned v ∧ Ql Z q1 h0 n0 v U'.heap L ∧ FrameEnd U o U' L ({ frames := 1, cells := 0, slots := 0, locals := 14 } : Room).cells ({ frames := 1, cells := 0, slots := 0, locals := 14 } : Room).slots) := by
  refine MetFree.of_bodySF (plainFor_of_name pn_java_lang_Long) hisR ?_
  intro p e s m args below meth c s₁ Bd hml0 hP hK
  obtain ⟨rfl, hZ, hh⟩ := hP
  have hx := Bd.exec
  have hby := Bd.bytes
  have hlk : meth.locks = false := BodyLoose.notSynchronized Bd
  have hml : c.maxLocals = 3 := hml0
  have hown : s.vm.findClass "java/lang/Long" = some m.cls := findClass_of_methodNamed Bd.named
  have hnm := (name_of_methodNamed Bd.named Bd.method).1
  have X0 : Stand p l e ({ frames := 1, cells := 0, slots := 0, locals := 14 } : Room) s m #[(.long q1)] below meth c s₁ [] 0 0 := Stand.of_body Bd
  have e0 : s₁.heap = h0 := by rw [← hh, Bd.state]; rfl
  have N0 := Fr.nil n0
  show own_G p.tables e below s (Ql Z q1 h0 n0) ({ frames := 1, cells := 0, slots := 0, locals := 14 } : Room).cells ({ frames := 1, cells := 0, slots := 0, locals := 14 } : Room).slots (s₁.setTop (entryFrame m #[(.long q1)] 3))
  refine own_go (fun t k => castTop (ef_l m q1) k) ?_
  show own_G p.tables e below s _ _ _ (s₁.setTop (mkF m 0 #[.val (.long q1), .second, .unset] []))
  refine own_go (fun t k => XS.lloadN X0.here hx rfl (hb hby dl_0) rfl k) ?_
  show own_G p.tables e below s _ _ _ (s₁.setTop (mkF m 1 #[.val (.long q1), .second, .unset] [(.long q1)]))
  refine own_go (fun t k => XS.bipush X0.here hx rfl (hb hby dl_1) k) ?_
  show own_G p.tables e below s _ _ _ (s₁.setTop (mkF m 3 #[.val (.long q1), .second, .unset] [(.int (32 : Int32)), (.long q1)]))
  refine own_go (fun t k => XS.lushr X0.here hx rfl (hb hby dl_3) rfl k) ?_
  show own_G p.tables e below s _ _ _ (s₁.setTop (mkF m 4 #[.val (.long q1), .second, .unset] [(.long ((q1.toUInt64 >>> ((32 : Int32) &&& 0x3f).toInt64.toUInt64).toInt64))]))
  refine own_go (fun t k => XS.l2i X0.here hx rfl (hb hby dl_4) rfl k) ?_
  show own_G p.tables e below s _ _ _ (s₁.setTop (mkF m 5 #[.val (.long q1), .second, .unset] [(.int (((q1.toUInt64 >>> ((32 : Int32) &&& 0x3f).toInt64.toUInt64).toInt64).toInt32))]))
  refine own_go (fun t k => XS.istoreN X0.here hx rfl (hb hby dl_5) rfl (l' := #[.val (.long q1), .second, .val (.int (((q1.toUInt64 >>> ((32 : Int32) &&& 0x3f).toInt64.toUInt64).toInt64).toInt32))]) rfl k) ?_
  show own_G p.tables e below s _ _ _ (s₁.setTop (mkF m 6 #[.val (.long q1), .second, .val (.int (((q1.toUInt64 >>> ((32 : Int32) &&& 0x3f).toInt64.toUInt64).toInt64).toInt32))] []))
  refine own_go (fun t k => XS.iloadN X0.here hx rfl (hb hby dl_6) rfl k) ?_
  show own_G p.tables e below s _ _ _ (s₁.setTop (mkF m 7 #[.val (.long q1), .second, .val (.int (((q1.toUInt64 >>> ((32 : Int32) &&& 0x3f).toInt64.toUInt64).toInt64).toInt32))] [(.int (((q1.toUInt64 >>> ((32 : Int32) &&& 0x3f).toInt64.toUInt64).toInt64).toInt32))]))
  refine own_go (fun t k => XS.ifNo X0.here hx rfl (hb hby dl_7) rfl (Jvm.Free.XT.i0_ne_f hq1) k) ?_
  show own_G p.tables e below s _ _ _ (s₁.setTop (mkF m 10 #[.val (.long q1), .second, .val (.int (((q1.toUInt64 >>> ((32 : Int32) &&& 0x3f).toInt64.toUInt64).toInt64).toInt32))] []))
  refine own_go (fun t k => XS.bipush X0.here hx rfl (hb hby dl_10) k) ?_
  show own_G p.tables e below s _ _ _ (s₁.setTop (mkF m 12 #[.val (.long q1), .second, .val (.int (((q1.toUInt64 >>> ((32 : Int32) &&& 0x3f).toInt64.toUInt64).toInt64).toInt32))] [(.int (32 : Int32))]))
  refine own_go (fun t k => XS.lloadN X0.here hx rfl (hb hby dl_12) rfl k) ?_
  show own_G p.tables e below s _ _ _ (s₁.setTop (mkF m 13 #[.val (.long q1), .second, .val (.int (((q1.toUInt64 >>> ((32 : Int32) &&& 0x3f).toInt64.toUInt64).toInt64).toInt32))] [(.long q1), (.int (32 : Int32))]))
  refine own_go (fun t k => XS.l2i X0.here hx rfl (hb hby dl_13) rfl k) ?_
  show own_G p.tables e below s _ _ _ (s₁.setTop (mkF m 14 #[.val (.long q1), .second, .val (.int (((q1.toUInt64 >>> ((32 : Int32) &&& 0x3f).toInt64.toUInt64).toInt64).toInt32))] [(.int (q1.toInt32)), (.int (32 : Int32))]))
  obtain ⟨_, _, ⟨T67, L67, k67, n67⟩, -, X67, ⟨Lc67, hQ67, l67, y67, z67⟩, st67⟩ := Jvm.LawKit.callS X0 hx (y := (⟨"java/lang/Integer", "numberOfLeadingZeros", "(I)I"⟩ : MethodName)) hown (mvT hZ (hw _ (List.mem_of_getElem? (i := 37) rfl))) (mvT hZ (hw _ (List.mem_of_getElem? (i := 38) rfl))) (mvT hZ (hw _ (List.mem_of_getElem? (i := 5) rfl))) (mvT hZ (hw _ (List.mem_of_getElem? (i := 39) rfl))) (by decide) (backOf (W := 1) (rmz l Z a0 hw [] (q1.toInt32) h0 n0 Z0 hp) hZ (hw _ (List.mem_of_getElem? (i := 39) rfl)) (hw _ (List.mem_of_getElem? (i := 5) rfl)) (by decide) (by decide)) (g := (mkF m 14 #[.val (.long q1), .second, .val (.int (((q1.toUInt64 >>> ((32 : Int32) &&& 0x3f).toInt64.toUInt64).toInt64).toInt32))] [(.int (q1.toInt32)), (.int (32 : Int32))])) rfl (by rw [hml]; rfl) (argsL := [(.int (q1.toInt32))]) (rest := [(.int (32 : Int32))]) (lenOf pd__I_I rfl) rfl (by show 2 * 0 + _ ≤ _; exact Nat.le_of_eq rfl) (hb hby dl_14) (fun _ _ => ⟨rfl, e0, (by decide : 0 + 0 ≤ _), (by decide : 0 + 0 ≤ _)⟩)
  dsimp only [Pt.U, Pt.locs, Pt.cells, Pt.slots] at X67 l67 y67 z67 st67 hQ67
  subst l67 y67 z67
  obtain ⟨rfl, N67q, hh67⟩ := hQ67
  have N67 := Fr.app N0 N67q
  refine own_go st67 ?_
  show own_G p.tables e below s _ _ _ (T67.setTop (mkF m 17 #[.val (.long q1), .second, .val (.int (((q1.toUInt64 >>> ((32 : Int32) &&& 0x3f).toInt64.toUInt64).toInt64).toInt32))] [(.int (own_nlz q1.toInt32)), (.int (32 : Int32))]))
  refine own_go (fun t k => XS.iadd X67.here hx rfl (hb hby dl_17) rfl k) ?_
  show own_G p.tables e below s _ _ _ (T67.setTop (mkF m 18 #[.val (.long q1), .second, .val (.int (((q1.toUInt64 >>> ((32 : Int32) &&& 0x3f).toInt64.toUInt64).toInt64).toInt32))] [(.int ((32 : Int32) + (own_nlz q1.toInt32)))]))
  refine own_go (fun t k => XS.goto X67.here hx rfl (pc0 := 18) (pc' := 25) rfl (hb hby dl_18) (by decide) (by decide) k) ?_
  show own_G p.tables e below s _ _ _ (T67.setTop (mkF m 25 #[.val (.long q1), .second, .val (.int (((q1.toUInt64 >>> ((32 : Int32) &&& 0x3f).toInt64.toUInt64).toInt64).toInt32))] [(.int ((32 : Int32) + (own_nlz q1.toInt32)))]))
  exact own_retI X67 hx hlk Bd.returns (hb hby dl_25) (by rw [hh67]; exact ⟨rfl, N67, rfl⟩) (by decide) (by decide)
theorem dh_0 : decode prog_4_method_77_code 0 = .ok (.iconst 2, 1) := by decide +kernel
theorem dh_1 : decode prog_4_method_77_code 1 = .ok (.bipush 64, 2) := by decide +kernel
theorem dh_3 : decode prog_4_method_77_code 3 = .ok (.lload_n 0, 1) := by decide +kernel
theorem dh_4 : decode prog_4_method_77_code 4 = .ok (.lconst 1, 1) := by decide +kernel
theorem dh_5 : decode prog_4_method_77_code 5 = .ok (.ladd, 1) := by decide +kernel
theorem pd__J_I : parseMethodDescriptor "(J)I" = some ⟨[.long], some .int⟩ := by decide +kernel
theorem dh_6 : decode prog_4_method_77_code 6 = .ok (.invokestatic 370, 3) := by decide +kernel
theorem dh_9 : decode prog_4_method_77_code 9 = .ok (.isub, 1) := by decide +kernel
theorem dh_10 : decode prog_4_method_77_code 10 = .ok (.imul, 1) := by decide +kernel
theorem dh_11 : decode prog_4_method_77_code 11 = .ok (.ireturn, 1) := by decide +kernel
theorem pn_com_example_sumac_sumac_RedBlackTreeMap : plainName "com/example/sumac/sumac/RedBlackTreeMap" = true := by first | (simp [plainName, overriddenIn]; done) | decide +kernel
theorem ef_h (m : MethodId) (x0 : Int64) : entryFrame m #[(.long x0)] 2 = mkF m 0 #[.val (.long x0), .second] [] := by first | (simp [entryFrame, mkF, argsToLocals, Value.category]; done) | rfl
def Qh (Z : State) (q1 : Int64) (h0 : Heap) (n0 : Nat) (v : Option Value) (h : Heap) (L : List Loc) : Prop := v = some (.int ((2 : Int32) * ((64 : Int32) - ((32 : Int32) + own_nlz (q1 + (1 : Int64)).toInt32)))) ∧ Fr n0 L ∧ h = h0
set_option maxRecDepth 65536 in
set_option maxHeartbeats 40000000 in
theorem rmh (l : Launch) (Z : State) (a0 : Array Value) (hw : ∀ d ∈ tables_1, d.before a0 Z = true) (ws : List Jvm.Cond) (q1 : Int64) (h0 : Heap) (n0 : Nat) (Z0 : n0 ≤ h0.size) (hq1 : ((((q1 + (1 : Int64)).toUInt64 >>> ((32 : Int32) &&& 0x3f).toInt64.toUInt64).toInt64).toInt32) = 0) (hp : (0 : Int32) < (q1 + (1 : Int64)).toInt32) :
    MetFree l (⟨"com/example/sumac/sumac/RedBlackTreeMap", "maxHeight", "(J)I"⟩ : MethodName) (head1 (Jvm.Cond.code (⟨"com/example/sumac/sumac/RedBlackTreeMap", "maxHeight", "(J)I"⟩ : MethodName) prog_4_method_77_code 2 (some .int) :: ws) ({ frames := 2, cells := 0, slots := 0, locals := 30 } : Room)) (fun a U => a = #[(.long q1)] ∧ Z.Warmed39 U.vm ∧ U.heap = h0) (fun _ _ _ _ _ => True) (fun _ U o U' => ∃ v L, o = .returned v ∧ Qh Z q1 h0 n0 v U'.heap L ∧ FrameEnd U o U' L ({ frames := 2, cells := 0, slots := 0, locals := 30 } : Room).cells ({ frames := 2, cells := 0, slots := 0, locals := 30 } : Room).slots) := by
  refine MetFree.of_bodySF (plainFor_of_name pn_com_example_sumac_sumac_RedBlackTreeMap) hisR ?_
  intro p e s m args below meth c s₁ Bd hml0 hP hK
  obtain ⟨rfl, hZ, hh⟩ := hP
  have hx := Bd.exec
  have hby := Bd.bytes
  have hlk : meth.locks = false := BodyLoose.notSynchronized Bd
  have hml : c.maxLocals = 2 := hml0
  have hown : s.vm.findClass "com/example/sumac/sumac/RedBlackTreeMap" = some m.cls := findClass_of_methodNamed Bd.named
  have hnm := (name_of_methodNamed Bd.named Bd.method).1
  have X0 : Stand p l e ({ frames := 2, cells := 0, slots := 0, locals := 30 } : Room) s m #[(.long q1)] below meth c s₁ [] 0 0 := Stand.of_body Bd
  have e0 : s₁.heap = h0 := by rw [← hh, Bd.state]; rfl
  have N0 := Fr.nil n0
  show own_G p.tables e below s (Qh Z q1 h0 n0) ({ frames := 2, cells := 0, slots := 0, locals := 30 } : Room).cells ({ frames := 2, cells := 0, slots := 0, locals := 30 } : Room).slots (s₁.setTop (entryFrame m #[(.long q1)] 2))
  refine own_go (fun t k => castTop (ef_h m q1) k) ?_
  show own_G p.tables e below s _ _ _ (s₁.setTop (mkF m 0 #[.val (.long q1), .second] []))
  refine own_go (fun t k => XS.iconst X0.here hx rfl (hb hby dh_0) k) ?_
  show own_G p.tables e below s _ _ _ (s₁.setTop (mkF m 1 #[.val (.long q1), .second] [(.int (2 : Int32))]))
  refine own_go (fun t k => XS.bipush X0.here hx rfl (hb hby dh_1) k) ?_
  show own_G p.tables e below s _ _ _ (s₁.setTop (mkF m 3 #[.val (.long q1), .second] [(.int (64 : Int32)), (.int (2 : Int32))]))
  refine own_go (fun t k => XS.lloadN X0.here hx rfl (hb hby dh_3) rfl k) ?_
  show own_G p.tables e below s _ _ _ (s₁.setTop (mkF m 4 #[.val (.long q1), .second] [(.long q1), (.int (64 : Int32)), (.int (2 : Int32))]))
  refine own_go (fun t k => XS.lconst X0.here hx rfl (hb hby dh_4) k) ?_
  show own_G p.tables e below s _ _ _ (s₁.setTop (mkF m 5 #[.val (.long q1), .second] [(.long (1 : Int64)), (.long q1), (.int (64 : Int32)), (.int (2 : Int32))]))
  refine own_go (fun t k => XS.ladd X0.here hx rfl (hb hby dh_5) rfl k) ?_
  show own_G p.tables e below s _ _ _ (s₁.setTop (mkF m 6 #[.val (.long q1), .second] [(.long (q1 + (1 : Int64))), (.int (64 : Int32)), (.int (2 : Int32))]))
  obtain ⟨_, _, ⟨T68, L68, k68, n68⟩, -, X68, ⟨Lc68, hQ68, l68, y68, z68⟩, st68⟩ := Jvm.LawKit.callS X0 hx (y := (⟨"java/lang/Long", "numberOfLeadingZeros", "(J)I"⟩ : MethodName)) hown (mvT hZ (hw _ (List.mem_of_getElem? (i := 33) rfl))) (mvT hZ (hw _ (List.mem_of_getElem? (i := 34) rfl))) (mvT hZ (hw _ (List.mem_of_getElem? (i := 35) rfl))) (mvT hZ (hw _ (List.mem_of_getElem? (i := 36) rfl))) (by decide) (backOf (W := 2) (rml l Z a0 hw [] (q1 + (1 : Int64)) h0 n0 Z0 hq1 hp) hZ (hw _ (List.mem_of_getElem? (i := 36) rfl)) (hw _ (List.mem_of_getElem? (i := 35) rfl)) (by decide) (by decide)) (g := (mkF m 6 #[.val (.long q1), .second] [(.long (q1 + (1 : Int64))), (.int (64 : Int32)), (.int (2 : Int32))])) rfl (by rw [hml]; rfl) (argsL := [(.long (q1 + (1 : Int64)))]) (rest := [(.int (64 : Int32)), (.int (2 : Int32))]) (lenOf pd__J_I rfl) rfl (by show 2 * 0 + _ ≤ _; exact Nat.le_of_eq rfl) (hb hby dh_6) (fun _ _ => ⟨rfl, e0, (by decide : 0 + 0 ≤ _), (by decide : 0 + 0 ≤ _)⟩)
  dsimp only [Pt.U, Pt.locs, Pt.cells, Pt.slots] at X68 l68 y68 z68 st68 hQ68
  subst l68 y68 z68
  obtain ⟨rfl, N68q, hh68⟩ := hQ68
  have N68 := Fr.app N0 N68q
  refine own_go st68 ?_
  show own_G p.tables e below s _ _ _ (T68.setTop (mkF m 9 #[.val (.long q1), .second] [(.int ((32 : Int32) + own_nlz (q1 + (1 : Int64)).toInt32)), (.int (64 : Int32)), (.int (2 : Int32))]))
  refine own_go (fun t k => XS.isub X68.here hx rfl (hb hby dh_9) rfl k) ?_
  show own_G p.tables e below s _ _ _ (T68.setTop (mkF m 10 #[.val (.long q1), .second] [(.int ((64 : Int32) - ((32 : Int32) + own_nlz (q1 + (1 : Int64)).toInt32))), (.int (2 : Int32))]))
  refine own_go (fun t k => XS.imul X68.here hx rfl (hb hby dh_10) rfl k) ?_
  show own_G p.tables e below s _ _ _ (T68.setTop (mkF m 11 #[.val (.long q1), .second] [(.int ((2 : Int32) * ((64 : Int32) - ((32 : Int32) + own_nlz (q1 + (1 : Int64)).toInt32))))]))
  exact own_retI X68 hx hlk Bd.returns (hb hby dh_11) (by rw [hh68]; exact ⟨rfl, N68, rfl⟩) (by decide) (by decide)
theorem dw_0 : decode prog_4_method_76_code 0 = .ok (.iload_n 0, 1) := by decide +kernel
theorem dw_1 : decode prog_4_method_76_code 1 = .ok (.anewarray 34, 3) := by decide +kernel
theorem dw_4 : decode prog_4_method_76_code 4 = .ok (.areturn, 1) := by decide +kernel
theorem ef_w (m : MethodId) (x0 : Int32) : entryFrame m #[(.int x0)] 1 = mkF m 0 #[.val (.int x0)] [] := by first | (simp [entryFrame, mkF, argsToLocals, Value.category]; done) | rfl
def Qw (Z : State) (p1 : Int32) (h0 : Heap) (n0 : Nat) (v : Option Value) (h : Heap) (L : List Loc) : Prop := (∃ (b : Addr) (k : ClassId), v = some (.ref b) ∧ h0.size ≤ b ∧ Arv Z h b k (.object "com/example/sumac/sumac/RedBlackTreeMap$Node") p1 [] .null ∧ Ovr Z k "com/example/sumac/sumac/RedBlackTreeMap$Node") ∧ Fr n0 L ∧ Keep h0 h []
set_option maxRecDepth 65536 in
set_option maxHeartbeats 40000000 in
theorem rmw (l : Launch) (Z : State) (a0 : Array Value) (hw : ∀ d ∈ tables_1, d.before a0 Z = true) (ws : List Jvm.Cond) (p1 : Int32) (h0 : Heap) (n0 : Nat) (Z0 : n0 ≤ h0.size) (hz1 : ¬ p1 < 0) (hz2 : p1.toNatClampNeg ≤ 22) :
    MetFree l (⟨"com/example/sumac/sumac/RedBlackTreeMap", "newNodeArray", "(I)[Lcom/example/sumac/sumac/RedBlackTreeMap$Node;"⟩ : MethodName) (head1 (Jvm.Cond.code (⟨"com/example/sumac/sumac/RedBlackTreeMap", "newNodeArray", "(I)[Lcom/example/sumac/sumac/RedBlackTreeMap$Node;"⟩ : MethodName) prog_4_method_76_code 1 (some (.array (.object "com/example/sumac/sumac/RedBlackTreeMap$Node"))) :: ws) ({ frames := 0, cells := 1, slots := 22, locals := 0 } : Room)) (fun a U => a = #[(.int p1)] ∧ Z.Warmed39 U.vm ∧ U.heap = h0) (fun _ _ _ _ _ => True) (fun _ U o U' => ∃ v L, o = .returned v ∧ Qw Z p1 h0 n0 v U'.heap L ∧ FrameEnd U o U' L ({ frames := 0, cells := 1, slots := 22, locals := 0 } : Room).cells ({ frames := 0, cells := 1, slots := 22, locals := 0 } : Room).slots) := by
  refine MetFree.of_bodySF (plainFor_of_name pn_com_example_sumac_sumac_RedBlackTreeMap) hisR ?_
  intro p e s m args below meth c s₁ Bd hml0 hP hK
  obtain ⟨rfl, hZ, hh⟩ := hP
  have hx := Bd.exec
  have hby := Bd.bytes
  have hlk : meth.locks = false := BodyLoose.notSynchronized Bd
  have hml : c.maxLocals = 1 := hml0
  have hown : s.vm.findClass "com/example/sumac/sumac/RedBlackTreeMap" = some m.cls := findClass_of_methodNamed Bd.named
  have hnm := (name_of_methodNamed Bd.named Bd.method).1
  have X0 : Stand p l e ({ frames := 0, cells := 1, slots := 22, locals := 0 } : Room) s m #[(.int p1)] below meth c s₁ [] 0 0 := Stand.of_body Bd
  have e0 : s₁.heap = h0 := by rw [← hh, Bd.state]; rfl
  have N0 := Fr.nil n0
  show own_G p.tables e below s (Qw Z p1 h0 n0) ({ frames := 0, cells := 1, slots := 22, locals := 0 } : Room).cells ({ frames := 0, cells := 1, slots := 22, locals := 0 } : Room).slots (s₁.setTop (entryFrame m #[(.int p1)] 1))
  refine own_go (fun t k => castTop (ef_w m p1) k) ?_
  show own_G p.tables e below s _ _ _ (s₁.setTop (mkF m 0 #[.val (.int p1)] []))
  refine own_go (fun t k => XS.iloadN X0.here hx rfl (hb hby dw_0) rfl k) ?_
  show own_G p.tables e below s _ _ _ (s₁.setTop (mkF m 1 #[.val (.int p1)] [(.int p1)]))
  obtain ⟨T1, h1, k1, X1, e1, E1, A1, O1, st1⟩ := newR X0 hx hZ hown (hw _ (List.mem_of_getElem? (i := 44) rfl)) (hw _ (List.mem_of_getElem? (i := 45) rfl)) e0 (g := (mkF m 1 #[.val (.int p1)] [(.int p1)])) rfl (hb hby dw_1) rfl hz1 (cap := 22) hz2 (by decide) (by decide) (by decide)
  refine own_go st1 ?_
  show own_G p.tables e below s _ _ _ (T1.setTop (mkF m 4 #[.val (.int p1)] [(.ref h0.size)]))
  exact own_retA X1 hx hlk Bd.returns rfl rfl (hb hby dw_4) (by rw [e1]; exact ⟨⟨_, k1, rfl, Nat.le_refl _, Arv.new A1 hz1, O1⟩, N0, (Keep.refl h0 []).ext E1⟩) (by decide) (by decide)
theorem ds_0 : decode prog_7_method_1_code 0 = .ok (.aload_n 0, 1) := by decide +kernel
theorem ds_1 : decode prog_7_method_1_code 1 = .ok (.invokespecial 1, 3) := by decide +kernel
theorem ds_4 : decode prog_7_method_1_code 4 = .ok (.aload_n 0, 1) := by decide +kernel
theorem ds_5 : decode prog_7_method_1_code 5 = .ok (.iload_n 1, 1) := by decide +kernel
theorem ds_6 : decode prog_7_method_1_code 6 = .ok (.i2l, 1) := by decide +kernel
theorem ds_7 : decode prog_7_method_1_code 7 = .ok (.invokestatic 7, 3) := by decide +kernel
theorem pd__I__Lcom_example_sumac_sumac_RedBlackTreeMap_Node_ : parseMethodDescriptor "(I)[Lcom/example/sumac/sumac/RedBlackTreeMap$Node;" = some ⟨[.int], some (.array (.object "com/example/sumac/sumac/RedBlackTreeMap$Node"))⟩ := by decide +kernel
theorem ds_10 : decode prog_7_method_1_code 10 = .ok (.invokestatic 13, 3) := by decide +kernel
theorem ds_13 : decode prog_7_method_1_code 13 = .ok (.putfield 17, 3) := by decide +kernel
theorem ds_16 : decode prog_7_method_1_code 16 = .ok (.return_, 1) := by decide +kernel
theorem pn_com_example_sumac_sumac_RedBlackTreeMap_NodeStack : plainName "com/example/sumac/sumac/RedBlackTreeMap$NodeStack" = true := by first | (simp [plainName, overriddenIn]; done) | decide +kernel
theorem ef_s (m : MethodId) (x0 : Addr) (x1 : Int32) : entryFrame m #[(.ref x0), (.int x1)] 2 = mkF m 0 #[.val (.ref x0), .val (.int x1)] [] := by first | (simp [entryFrame, mkF, argsToLocals, Value.category]; done) | rfl
def Qs (Z : State) (a1 : Addr) (p2 : Int32) (h0 : Heap) (n0 : Nat) (v : Option Value) (h : Heap) (L : List Loc) : Prop := v = none ∧ Fr n0 L ∧ Keep h0 h [a1] ∧ ∃ (b : Addr) (k : ClassId), h0.size ≤ b ∧ Fld Z h a1 "com/example/sumac/sumac/RedBlackTreeMap$NodeStack" "nodes" "[Lcom/example/sumac/sumac/RedBlackTreeMap$Node;" (.ref b) ∧ Fld Z h a1 "com/example/sumac/sumac/RedBlackTreeMap$NodeStack" "depth" "I" (.int (0 : Int32)) ∧ Arv Z h b k (.object "com/example/sumac/sumac/RedBlackTreeMap$Node") ((2 : Int32) * ((64 : Int32) - ((32 : Int32) + own_nlz (p2.toInt64 + (1 : Int64)).toInt32))) [] .null ∧ Ovr Z k "com/example/sumac/sumac/RedBlackTreeMap$Node"
set_option maxRecDepth 65536 in
set_option maxHeartbeats 40000000 in
theorem rms (l : Launch) (Z : State) (a0 : Array Value) (hw : ∀ d ∈ tables_1, d.before a0 Z = true) (ws : List Jvm.Cond) (a1 : Addr) (p2 : Int32) (h0 : Heap) (n0 : Nat) (Z0 : n0 ≤ h0.size) (hq1 : ((((p2.toInt64 + (1 : Int64)).toUInt64 >>> ((32 : Int32) &&& 0x3f).toInt64.toUInt64).toInt64).toInt32) = 0) (hp : (0 : Int32) < (p2.toInt64 + (1 : Int64)).toInt32) (hz1 : ¬ ((2 : Int32) * ((64 : Int32) - ((32 : Int32) + own_nlz (p2.toInt64 + (1 : Int64)).toInt32))) < 0) (hz2 : ((2 : Int32) * ((64 : Int32) - ((32 : Int32) + own_nlz (p2.toInt64 + (1 : Int64)).toInt32))).toNatClampNeg ≤ 22) (E1 : Exa Z h0 a1 "com/example/sumac/sumac/RedBlackTreeMap$NodeStack") (F1 : Fld Z h0 a1 "com/example/sumac/sumac/RedBlackTreeMap$NodeStack" "nodes" "[Lcom/example/sumac/sumac/RedBlackTreeMap$Node;" .null) (F2 : Fld Z h0 a1 "com/example/sumac/sumac/RedBlackTreeMap$NodeStack" "depth" "I" (.int (0 : Int32))) (g1 : n0 ≤ a1) :
    MetFree l (⟨"com/example/sumac/sumac/RedBlackTreeMap$NodeStack", "<init>", "(I)V"⟩ : MethodName) (head1 (Jvm.Cond.code (⟨"com/example/sumac/sumac/RedBlackTreeMap$NodeStack", "<init>", "(I)V"⟩ : MethodName) prog_7_method_1_code 2 none :: ws) ({ frames := 3, cells := 1, slots := 22, locals := 44 } : Room)) (fun a U => a = #[(.ref a1), (.int p2)] ∧ Z.Warmed39 U.vm ∧ U.heap = h0) (fun _ _ _ _ _ => True) (fun _ U o U' => ∃ v L, o = .returned v ∧ Qs Z a1 p2 h0 n0 v U'.heap L ∧ FrameEnd U o U' L ({ frames := 3, cells := 1, slots := 22, locals := 44 } : Room).cells ({ frames := 3, cells := 1, slots := 22, locals := 44 } : Room).slots) := by
  refine MetFree.of_bodySF (plainFor_of_name pn_com_example_sumac_sumac_RedBlackTreeMap_NodeStack) hisR ?_
  intro p e s m args below meth c s₁ Bd hml0 hP hK
  obtain ⟨rfl, hZ, hh⟩ := hP
  have hx := Bd.exec
  have hby := Bd.bytes
  have hlk : meth.locks = false := BodyLoose.notSynchronized Bd
  have hml : c.maxLocals = 2 := hml0
  have hown : s.vm.findClass "com/example/sumac/sumac/RedBlackTreeMap$NodeStack" = some m.cls := findClass_of_methodNamed Bd.named
  have hnm := (name_of_methodNamed Bd.named Bd.method).1
  have X0 : Stand p l e ({ frames := 3, cells := 1, slots := 22, locals := 44 } : Room) s m #[(.ref a1), (.int p2)] below meth c s₁ [] 0 0 := Stand.of_body Bd
  have e0 : s₁.heap = h0 := by rw [← hh, Bd.state]; rfl
  have N0 := Fr.nil n0
  show own_G p.tables e below s (Qs Z a1 p2 h0 n0) ({ frames := 3, cells := 1, slots := 22, locals := 44 } : Room).cells ({ frames := 3, cells := 1, slots := 22, locals := 44 } : Room).slots (s₁.setTop (entryFrame m #[(.ref a1), (.int p2)] 2))
  refine own_go (fun t k => castTop (ef_s m a1 p2) k) ?_
  show own_G p.tables e below s _ _ _ (s₁.setTop (mkF m 0 #[.val (.ref a1), .val (.int p2)] []))
  refine own_go (fun t k => XS.aloadN X0.here hx rfl (hb hby ds_0) rfl rfl k) ?_
  show own_G p.tables e below s _ _ _ (s₁.setTop (mkF m 1 #[.val (.ref a1), .val (.int p2)] [(.ref a1)]))
  obtain ⟨T69, X69, e69, st69⟩ := initO X0 hx hZ hown (hw _ (List.mem_of_getElem? (i := 28) rfl)) (hw _ (List.mem_of_getElem? (i := 14) rfl)) (hw _ (List.mem_of_getElem? (i := 15) rfl)) e0 (g := (mkF m 1 #[.val (.ref a1), .val (.int p2)] [(.ref a1)])) rfl (by rw [hml]; rfl) rfl (hb hby ds_1) (by decide) (W := 0) (by show 2 * 0 + _ ≤ _; exact Nat.le_of_eq rfl) (by decide)
  refine own_go st69 ?_
  show own_G p.tables e below s _ _ _ (T69.setTop (mkF m 4 #[.val (.ref a1), .val (.int p2)] []))
  refine own_go (fun t k => XS.aloadN X69.here hx rfl (hb hby ds_4) rfl rfl k) ?_
  show own_G p.tables e below s _ _ _ (T69.setTop (mkF m 5 #[.val (.ref a1), .val (.int p2)] [(.ref a1)]))
  refine own_go (fun t k => XS.iloadN X69.here hx rfl (hb hby ds_5) rfl k) ?_
  show own_G p.tables e below s _ _ _ (T69.setTop (mkF m 6 #[.val (.ref a1), .val (.int p2)] [(.int p2), (.ref a1)]))
  refine own_go (fun t k => XS.i2l X69.here hx rfl (hb hby ds_6) rfl k) ?_
  show own_G p.tables e below s _ _ _ (T69.setTop (mkF m 7 #[.val (.ref a1), .val (.int p2)] [(.long (p2.toInt64)), (.ref a1)]))
  obtain ⟨_, _, ⟨T70, L70, k70, n70⟩, -, X70, ⟨Lc70, hQ70, l70, y70, z70⟩, st70⟩ := callSN X69 hx (y := (⟨"com/example/sumac/sumac/RedBlackTreeMap", "maxHeight", "(J)I"⟩ : MethodName)) hown (Cond.methodLinkNest_wide hZ (hw _ (List.mem_of_getElem? (i := 29) rfl)) :) (mvT hZ (hw _ (List.mem_of_getElem? (i := 30) rfl))) (mvT hZ (hw _ (List.mem_of_getElem? (i := 31) rfl))) (mvT hZ (hw _ (List.mem_of_getElem? (i := 32) rfl))) (by decide) (backOf (W := 1) (rmh l Z a0 hw [] (p2.toInt64) h0 n0 Z0 hq1 hp) hZ (hw _ (List.mem_of_getElem? (i := 32) rfl)) (hw _ (List.mem_of_getElem? (i := 31) rfl)) (by decide) (by decide)) (g := (mkF m 7 #[.val (.ref a1), .val (.int p2)] [(.long (p2.toInt64)), (.ref a1)])) rfl (by rw [hml]; rfl) (argsL := [(.long (p2.toInt64))]) (rest := [(.ref a1)]) (lenOf pd__J_I rfl) rfl (by show 2 * 0 + _ ≤ _; exact Nat.le_of_eq rfl) (hb hby ds_7) (fun _ _ => ⟨rfl, e69, (by decide : 0 + 0 ≤ _), (by decide : 0 + 0 ≤ _)⟩)
  dsimp only [Pt.U, Pt.locs, Pt.cells, Pt.slots] at X70 l70 y70 z70 st70 hQ70
  subst l70 y70 z70
  obtain ⟨rfl, N70q, hh70⟩ := hQ70
  have N70 := Fr.app N0 N70q
  refine own_go (fun t k => st70.trans k) ?_
  show own_G p.tables e below s _ _ _ (T70.setTop (mkF m 10 #[.val (.ref a1), .val (.int p2)] [(.int ((2 : Int32) * ((64 : Int32) - ((32 : Int32) + own_nlz (p2.toInt64 + (1 : Int64)).toInt32)))), (.ref a1)]))
  obtain ⟨_, _, ⟨T71, L71, k71, n71⟩, -, X71, ⟨Lc71, hQ71, l71, y71, z71⟩, st71⟩ := callSN X70 hx (y := (⟨"com/example/sumac/sumac/RedBlackTreeMap", "newNodeArray", "(I)[Lcom/example/sumac/sumac/RedBlackTreeMap$Node;"⟩ : MethodName)) hown (Cond.methodLinkNest_wide hZ (hw _ (List.mem_of_getElem? (i := 41) rfl)) :) (mvT hZ (hw _ (List.mem_of_getElem? (i := 42) rfl))) (mvT hZ (hw _ (List.mem_of_getElem? (i := 31) rfl))) (mvT hZ (hw _ (List.mem_of_getElem? (i := 43) rfl))) (by decide) (backOf (W := 1) (rmw l Z a0 hw [] ((2 : Int32) * ((64 : Int32) - ((32 : Int32) + own_nlz (p2.toInt64 + (1 : Int64)).toInt32))) h0 n0 Z0 hz1 hz2) hZ (hw _ (List.mem_of_getElem? (i := 43) rfl)) (hw _ (List.mem_of_getElem? (i := 31) rfl)) (by decide) (by decide)) (g := (mkF m 10 #[.val (.ref a1), .val (.int p2)] [(.int ((2 : Int32) * ((64 : Int32) - ((32 : Int32) + own_nlz (p2.toInt64 + (1 : Int64)).toInt32)))), (.ref a1)])) rfl (by rw [hml]; rfl) (argsL := [(.int ((2 : Int32) * ((64 : Int32) - ((32 : Int32) + own_nlz (p2.toInt64 + (1 : Int64)).toInt32))))]) (rest := [(.ref a1)]) (lenOf pd__I__Lcom_example_sumac_sumac_RedBlackTreeMap_Node_ rfl) rfl (by show 2 * 0 + _ ≤ _; exact Nat.le_of_eq rfl) (hb hby ds_10) (fun _ _ => ⟨rfl, hh70, (by decide : 0 + 1 ≤ _), (by decide : 0 + 22 ≤ _)⟩)
  dsimp only [Pt.U, Pt.locs, Pt.cells, Pt.slots] at X71 l71 y71 z71 st71 hQ71
  subst l71 y71 z71
  obtain ⟨⟨b71, k71', rfl, s71, V71, O71⟩, N71q, K71⟩ := hQ71
  have N71 := Fr.app N70 N71q
  refine own_go (fun t k => st71.trans k) ?_
  have f72 := E1.keep K71
  have f73 := F1.keep K71 (fun q => nomatch q)
  have f74 := F2.keep K71 (fun q => nomatch q)
  have z75 := Nat.le_trans Z0 K71.1
  have k76 := (Keep.refl h0 [a1]).trans K71 (fun x q => nomatch q)
  show own_G p.tables e below s _ _ _ (T71.setTop (mkF m 13 #[.val (.ref a1), .val (.int p2)] [(.ref b71), (.ref a1)]))
  have ne71 : a1 ≠ b71 := Nat.ne_of_lt (Nat.lt_of_lt_of_le E1.lt s71)
  obtain ⟨T77, h77, X77, e77, W77, st77⟩ := putF X71 hx hZ hown (host := "") (Or.inl (hw _ (List.mem_of_getElem? (i := 46) rfl))) Via.refl rfl f73 f72 (Or.inr ⟨(hw _ (List.mem_of_getElem? (i := 47) rfl)), rfl, hnm⟩) (hw _ (List.mem_of_getElem? (i := 23) rfl)) (ty := (.array (.object "com/example/sumac/sumac/RedBlackTreeMap$Node"))) (by decide) rfl rfl (g := (mkF m 13 #[.val (.ref a1), .val (.int p2)] [(.ref b71), (.ref a1)])) rfl rfl (hb hby ds_13)
  have N77 := Fr.snoc X77 N71 g1
  refine own_go st77 ?_
  have f78 := Fld.same W77 f73
  have f79 := Exa.wr W77 f72
  have f80 := Fld.other W77 f74 (Or.inr (slot_ne (Or.inl (hw _ (List.mem_of_getElem? (i := 54) rfl))) (Or.inr (hw _ (List.mem_of_getElem? (i := 47) rfl))) (by decide) (t := .int) (t' := (.array (.object "com/example/sumac/sumac/RedBlackTreeMap$Node"))) (by decide) (by decide)))
  have f81 := V71.other W77 (Ne.symm ne71)
  have z82 := Nat.le_trans z75 (Keep.of_wr W77).1
  have k83 := k76.wr W77 (Or.inl (List.mem_of_getElem? (i := 0) rfl))
  show own_G p.tables e below s _ _ _ (T77.setTop (mkF m 16 #[.val (.ref a1), .val (.int p2)] []))
  exact own_retV X77 hx hlk Bd.returns (hb hby ds_16) (by rw [e77]; exact ⟨rfl, N77, k83, _, _, s71, f78, f80, f81, O71⟩) (by decide) (by decide)
theorem de_0 : decode prog_7_method_2_code 0 = .ok (.aload_n 0, 1) := by decide +kernel
theorem de_1 : decode prog_7_method_2_code 1 = .ok (.getfield 23, 3) := by decide +kernel
theorem de_4 : decode prog_7_method_2_code 4 = .ok (.ifCond .ne 7, 3) := by decide +kernel
theorem de_7 : decode prog_7_method_2_code 7 = .ok (.iconst 1, 1) := by decide +kernel
theorem de_8 : decode prog_7_method_2_code 8 = .ok (.goto 4, 3) := by decide +kernel
theorem de_12 : decode prog_7_method_2_code 12 = .ok (.ireturn, 1) := by decide +kernel
theorem de_11 : decode prog_7_method_2_code 11 = .ok (.iconst 0, 1) := by decide +kernel
theorem ef_e (m : MethodId) (x0 : Addr) : entryFrame m #[(.ref x0)] 1 = mkF m 0 #[.val (.ref x0)] [] := by first | (simp [entryFrame, mkF, argsToLocals, Value.category]; done) | rfl
def Qe (Z : State) (a1 : Addr) (w1 r : Int32) (h0 : Heap) (n0 : Nat) (v : Option Value) (h : Heap) (L : List Loc) : Prop := v = some (.int r) ∧ Fr n0 L ∧ h = h0
set_option maxRecDepth 65536 in
set_option maxHeartbeats 40000000 in
theorem rme (l : Launch) (Z : State) (a0 : Array Value) (hw : ∀ d ∈ tables_1, d.before a0 Z = true) (ws : List Jvm.Cond) (a1 : Addr) (w1 r : Int32) (h0 : Heap) (n0 : Nat) (Z0 : n0 ≤ h0.size) (F2 : Fld Z h0 a1 "com/example/sumac/sumac/RedBlackTreeMap$NodeStack" "depth" "I" (.int w1)) (hr : (if w1 = 0 then (1 : Int32) else 0) = r) :
    MetFree l (⟨"com/example/sumac/sumac/RedBlackTreeMap$NodeStack", "isEmpty", "()Z"⟩ : MethodName) (head1 (Jvm.Cond.code (⟨"com/example/sumac/sumac/RedBlackTreeMap$NodeStack", "isEmpty", "()Z"⟩ : MethodName) prog_7_method_2_code 1 (some .boolean) :: ws) ({ frames := 0, cells := 0, slots := 0, locals := 0 } : Room)) (fun a U => a = #[(.ref a1)] ∧ Z.Warmed39 U.vm ∧ U.heap = h0) (fun _ _ _ _ _ => True) (fun _ U o U' => ∃ v L, o = .returned v ∧ Qe Z a1 w1 r h0 n0 v U'.heap L ∧ FrameEnd U o U' L ({ frames := 0, cells := 0, slots := 0, locals := 0 } : Room).cells ({ frames := 0, cells := 0, slots := 0, locals := 0 } : Room).slots) := by
  refine MetFree.of_bodySF (plainFor_of_name pn_com_example_sumac_sumac_RedBlackTreeMap_NodeStack) hisR ?_
  intro p e s m args below meth c s₁ Bd hml0 hP hK
  obtain ⟨rfl, hZ, hh⟩ := hP
  have hx := Bd.exec
  have hby := Bd.bytes
  have hlk : meth.locks = false := BodyLoose.notSynchronized Bd
  have hml : c.maxLocals = 1 := hml0
  have hown : s.vm.findClass "com/example/sumac/sumac/RedBlackTreeMap$NodeStack" = some m.cls := findClass_of_methodNamed Bd.named
  have hnm := (name_of_methodNamed Bd.named Bd.method).1
  have X0 : Stand p l e ({ frames := 0, cells := 0, slots := 0, locals := 0 } : Room) s m #[(.ref a1)] below meth c s₁ [] 0 0 := Stand.of_body Bd
  have e0 : s₁.heap = h0 := by rw [← hh, Bd.state]; rfl
  have N0 := Fr.nil n0
  show own_G p.tables e below s (Qe Z a1 w1 r h0 n0) ({ frames := 0, cells := 0, slots := 0, locals := 0 } : Room).cells ({ frames := 0, cells := 0, slots := 0, locals := 0 } : Room).slots (s₁.setTop (entryFrame m #[(.ref a1)] 1))
  refine own_go (fun t k => castTop (ef_e m a1) k) ?_
  show own_G p.tables e below s _ _ _ (s₁.setTop (mkF m 0 #[.val (.ref a1)] []))
  refine own_go (fun t k => XS.aloadN X0.here hx rfl (hb hby de_0) rfl rfl k) ?_
  show own_G p.tables e below s _ _ _ (s₁.setTop (mkF m 1 #[.val (.ref a1)] [(.ref a1)]))
  obtain ⟨T84, X84, e84, st84⟩ := getF X0 hx hZ hown (host := "") (Or.inl (hw _ (List.mem_of_getElem? (i := 53) rfl))) Via.refl e0 F2 (g := (mkF m 1 #[.val (.ref a1)] [(.ref a1)])) rfl rfl (hb hby de_1)
  refine own_go st84 ?_
  show own_G p.tables e below s _ _ _ (T84.setTop (mkF m 4 #[.val (.ref a1)] [(.int w1)]))
  by_cases h4 : w1 = (0 : Int32)
  · refine own_go (fun t k => XS.ifNo X84.here hx rfl (hb hby de_4) rfl (Jvm.Free.XT.i0_ne_f h4) k) ?_
    show own_G p.tables e below s _ _ _ (T84.setTop (mkF m 7 #[.val (.ref a1)] []))
    refine own_go (fun t k => XS.iconst X84.here hx rfl (hb hby de_7) k) ?_
    show own_G p.tables e below s _ _ _ (T84.setTop (mkF m 8 #[.val (.ref a1)] [(.int (1 : Int32))]))
    refine own_go (fun t k => XS.goto X84.here hx rfl (pc0 := 8) (pc' := 12) rfl (hb hby de_8) (by decide) (by decide) k) ?_
    show own_G p.tables e below s _ _ _ (T84.setTop (mkF m 12 #[.val (.ref a1)] [(.int (1 : Int32))]))
    exact own_retN X84 hx hlk (t := .boolean) (z' := (1 : Int32)) Bd.returns (by simp) (hb hby de_12) (rfl) (by rw [e84]; exact ⟨by rw [← hr, if_pos h4], N0, rfl⟩) (by decide) (by decide)
  · refine own_go (fun t k => XS.ifYes X84.here hx rfl (pc0 := 4) (pc' := 11) rfl (hb hby de_4) rfl (Jvm.Free.XT.i0_ne_t h4) (by decide) (by decide) k) ?_
    show own_G p.tables e below s _ _ _ (T84.setTop (mkF m 11 #[.val (.ref a1)] []))
    refine own_go (fun t k => XS.iconst X84.here hx rfl (hb hby de_11) k) ?_
    show own_G p.tables e below s _ _ _ (T84.setTop (mkF m 12 #[.val (.ref a1)] [(.int (0 : Int32))]))
    exact own_retN X84 hx hlk (t := .boolean) (z' := (0 : Int32)) Bd.returns (by simp) (hb hby de_12) (rfl) (by rw [e84]; exact ⟨by rw [← hr, if_neg h4], N0, rfl⟩) (by decide) (by decide)
theorem own_zz0 {z : Int32} (h : (1 : Int32) < z) : ¬ (0 : Int32) < 0 ∧ (0 : Int32) < z := ⟨by decide, by rw [Int32.lt_iff_toInt_lt] at *; have e1 : (1 : Int32).toInt = 1 := rfl; have e4 : (0 : Int32).toInt = 0 := rfl; omega⟩
theorem own_zz1 {z : Int32} (h : (1 : Int32) < z) : ¬ (1 : Int32) < 0 ∧ (1 : Int32) < z := ⟨by decide, h⟩
theorem dp0_0 : decode prog_7_method_4_code 0 = .ok (.aload_n 0, 1) := by decide +kernel
theorem dp0_1 : decode prog_7_method_4_code 1 = .ok (.getfield 17, 3) := by decide +kernel
theorem dp0_4 : decode prog_7_method_4_code 4 = .ok (.aload_n 0, 1) := by decide +kernel
theorem dp0_5 : decode prog_7_method_4_code 5 = .ok (.dup, 1) := by decide +kernel
theorem dp0_6 : decode prog_7_method_4_code 6 = .ok (.getfield 23, 3) := by decide +kernel
theorem dp0_9 : decode prog_7_method_4_code 9 = .ok (.dup_x1, 1) := by decide +kernel
theorem dp0_10 : decode prog_7_method_4_code 10 = .ok (.iconst 1, 1) := by decide +kernel
theorem dp0_11 : decode prog_7_method_4_code 11 = .ok (.iadd, 1) := by decide +kernel
theorem dp0_12 : decode prog_7_method_4_code 12 = .ok (.putfield 23, 3) := by decide +kernel
theorem dp0_15 : decode prog_7_method_4_code 15 = .ok (.aload_n 1, 1) := by decide +kernel
theorem dp0_16 : decode prog_7_method_4_code 16 = .ok (.aastore, 1) := by decide +kernel
theorem dp0_17 : decode prog_7_method_4_code 17 = .ok (.return_, 1) := by decide +kernel
theorem ef_p0 (m : MethodId) (x0 : Addr) (x1 : Addr) : entryFrame m #[(.ref x0), (.ref x1)] 2 = mkF m 0 #[.val (.ref x0), .val (.ref x1)] [] := by first | (simp [entryFrame, mkF, argsToLocals, Value.category]; done) | rfl
def Qp0 (Z : State) (a1 a2 na : Addr) (k1 : ClassId) (z1 : Int32) (h0 : Heap) (n0 : Nat) (v : Option Value) (h : Heap) (L : List Loc) : Prop := v = none ∧ Fr n0 L ∧ Keep h0 h [a1, na] ∧ Fld Z h a1 "com/example/sumac/sumac/RedBlackTreeMap$NodeStack" "nodes" "[Lcom/example/sumac/sumac/RedBlackTreeMap$Node;" (.ref na) ∧ Fld Z h a1 "com/example/sumac/sumac/RedBlackTreeMap$NodeStack" "depth" "I" (.int (1 : Int32)) ∧ Arv Z h na k1 (.object "com/example/sumac/sumac/RedBlackTreeMap$Node") z1 [(.ref a2), .null] .null
set_option maxRecDepth 65536 in
set_option maxHeartbeats 40000000 in
theorem rmp0 (l : Launch) (Z : State) (a0 : Array Value) (hw : ∀ d ∈ tables_1, d.before a0 Z = true) (ws : List Jvm.Cond) (a1 a2 na : Addr) (k1 : ClassId) (z1 : Int32) (h0 : Heap) (n0 : Nat) (Z0 : n0 ≤ h0.size) (E1 : Exa Z h0 a1 "com/example/sumac/sumac/RedBlackTreeMap$NodeStack") (F1 : Fld Z h0 a1 "com/example/sumac/sumac/RedBlackTreeMap$NodeStack" "nodes" "[Lcom/example/sumac/sumac/RedBlackTreeMap$Node;" (.ref na)) (F2 : Fld Z h0 a1 "com/example/sumac/sumac/RedBlackTreeMap$NodeStack" "depth" "I" (.int (0 : Int32))) (V1 : Arv Z h0 na k1 (.object "com/example/sumac/sumac/RedBlackTreeMap$Node") z1 [.null, .null] .null) (hne : a1 ≠ na) (g1 : n0 ≤ a1) (g2 : n0 ≤ na) (hz : (1 : Int32) < z1) (E2 : Exa Z h0 a2 "com/example/sumac/sumac/RedBlackTreeMap$Node") (O1 : Ovr Z k1 "com/example/sumac/sumac/RedBlackTreeMap$Node") :
    MetFree l (⟨"com/example/sumac/sumac/RedBlackTreeMap$NodeStack", "push", "(Lcom/example/sumac/sumac/RedBlackTreeMap$Node;)V"⟩ : MethodName) (head1 (Jvm.Cond.code (⟨"com/example/sumac/sumac/RedBlackTreeMap$NodeStack", "push", "(Lcom/example/sumac/sumac/RedBlackTreeMap$Node;)V"⟩ : MethodName) prog_7_method_4_code 2 none :: ws) ({ frames := 0, cells := 0, slots := 0, locals := 0 } : Room)) (fun a U => a = #[(.ref a1), (.ref a2)] ∧ Z.Warmed39 U.vm ∧ U.heap = h0) (fun _ _ _ _ _ => True) (fun _ U o U' => ∃ v L, o = .returned v ∧ Qp0 Z a1 a2 na k1 z1 h0 n0 v U'.heap L ∧ FrameEnd U o U' L ({ frames := 0, cells := 0, slots := 0, locals := 0 } : Room).cells ({ frames := 0, cells := 0, slots := 0, locals := 0 } : Room).slots) := by
  refine MetFree.of_bodySF (plainFor_of_name pn_com_example_sumac_sumac_RedBlackTreeMap_NodeStack) hisR ?_
  intro p e s m args below meth c s₁ Bd hml0 hP hK
  obtain ⟨rfl, hZ, hh⟩ := hP
  have hx := Bd.exec
  have hby := Bd.bytes
  have hlk : meth.locks = false := BodyLoose.notSynchronized Bd
  have hml : c.maxLocals = 2 := hml0
  have hown : s.vm.findClass "com/example/sumac/sumac/RedBlackTreeMap$NodeStack" = some m.cls := findClass_of_methodNamed Bd.named
  have hnm := (name_of_methodNamed Bd.named Bd.method).1
  have X0 : Stand p l e ({ frames := 0, cells := 0, slots := 0, locals := 0 } : Room) s m #[(.ref a1), (.ref a2)] below meth c s₁ [] 0 0 := Stand.of_body Bd
  have e0 : s₁.heap = h0 := by rw [← hh, Bd.state]; rfl
  have N0 := Fr.nil n0
  show own_G p.tables e below s (Qp0 Z a1 a2 na k1 z1 h0 n0) ({ frames := 0, cells := 0, slots := 0, locals := 0 } : Room).cells ({ frames := 0, cells := 0, slots := 0, locals := 0 } : Room).slots (s₁.setTop (entryFrame m #[(.ref a1), (.ref a2)] 2))
  refine own_go (fun t k => castTop (ef_p0 m a1 a2) k) ?_
  show own_G p.tables e below s _ _ _ (s₁.setTop (mkF m 0 #[.val (.ref a1), .val (.ref a2)] []))
  refine own_go (fun t k => XS.aloadN X0.here hx rfl (hb hby dp0_0) rfl rfl k) ?_
  show own_G p.tables e below s _ _ _ (s₁.setTop (mkF m 1 #[.val (.ref a1), .val (.ref a2)] [(.ref a1)]))
  obtain ⟨T85, X85, e85, st85⟩ := getF X0 hx hZ hown (host := "") (Or.inl (hw _ (List.mem_of_getElem? (i := 46) rfl))) Via.refl e0 F1 (g := (mkF m 1 #[.val (.ref a1), .val (.ref a2)] [(.ref a1)])) rfl rfl (hb hby dp0_1)
  refine own_go st85 ?_
  show own_G p.tables e below s _ _ _ (T85.setTop (mkF m 4 #[.val (.ref a1), .val (.ref a2)] [(.ref na)]))
  refine own_go (fun t k => XS.aloadN X85.here hx rfl (hb hby dp0_4) rfl rfl k) ?_
  show own_G p.tables e below s _ _ _ (T85.setTop (mkF m 5 #[.val (.ref a1), .val (.ref a2)] [(.ref a1), (.ref na)]))
  refine own_go (fun t k => XS.dup X85.here hx rfl (hb hby dp0_5) rfl rfl k) ?_
  show own_G p.tables e below s _ _ _ (T85.setTop (mkF m 6 #[.val (.ref a1), .val (.ref a2)] [(.ref a1), (.ref a1), (.ref na)]))
  obtain ⟨T86, X86, e86, st86⟩ := getF X85 hx hZ hown (host := "") (Or.inl (hw _ (List.mem_of_getElem? (i := 53) rfl))) Via.refl e85 F2 (g := (mkF m 6 #[.val (.ref a1), .val (.ref a2)] [(.ref a1), (.ref a1), (.ref na)])) rfl rfl (hb hby dp0_6)
  refine own_go st86 ?_
  show own_G p.tables e below s _ _ _ (T86.setTop (mkF m 9 #[.val (.ref a1), .val (.ref a2)] [(.int (0 : Int32)), (.ref a1), (.ref na)]))
  refine own_go (fun t k => XS.dupX1 X86.here hx rfl (hb hby dp0_9) rfl rfl rfl k) ?_
  show own_G p.tables e below s _ _ _ (T86.setTop (mkF m 10 #[.val (.ref a1), .val (.ref a2)] [(.int (0 : Int32)), (.ref a1), (.int (0 : Int32)), (.ref na)]))
  refine own_go (fun t k => XS.iconst X86.here hx rfl (hb hby dp0_10) k) ?_
  show own_G p.tables e below s _ _ _ (T86.setTop (mkF m 11 #[.val (.ref a1), .val (.ref a2)] [(.int (1 : Int32)), (.int (0 : Int32)), (.ref a1), (.int (0 : Int32)), (.ref na)]))
  refine own_go (fun t k => XS.iadd X86.here hx rfl (hb hby dp0_11) rfl k) ?_
  show own_G p.tables e below s _ _ _ (T86.setTop (mkF m 12 #[.val (.ref a1), .val (.ref a2)] [(.int (1 : Int32)), (.ref a1), (.int (0 : Int32)), (.ref na)]))
  obtain ⟨T87, h87, X87, e87, W87, st87⟩ := putF X86 hx hZ hown (host := "") (Or.inl (hw _ (List.mem_of_getElem? (i := 53) rfl))) Via.refl e86 F2 E1 (Or.inl (hw _ (List.mem_of_getElem? (i := 54) rfl))) (hw _ (List.mem_of_getElem? (i := 23) rfl)) (ty := .int) (by decide) rfl rfl (g := (mkF m 12 #[.val (.ref a1), .val (.ref a2)] [(.int (1 : Int32)), (.ref a1), (.int (0 : Int32)), (.ref na)])) rfl rfl (hb hby dp0_12)
  have N87 := Fr.snoc X87 N0 g1
  refine own_go st87 ?_
  have f88 := Fld.same W87 F2
  have f89 := Exa.wr W87 E1
  have f90 := Fld.other W87 F1 (Or.inr (slot_ne (Or.inr (hw _ (List.mem_of_getElem? (i := 47) rfl))) (Or.inl (hw _ (List.mem_of_getElem? (i := 54) rfl))) (by decide) (t := (.array (.object "com/example/sumac/sumac/RedBlackTreeMap$Node"))) (t' := .int) (by decide) (by decide)))
  have f91 := V1.other W87 (Ne.symm hne)
  have f92 := Exa.wr W87 E2
  have z93 := Nat.le_trans Z0 (Keep.of_wr W87).1
  have k94 := (Keep.refl h0 [a1, na]).wr W87 (Or.inl (List.mem_of_getElem? (i := 0) rfl))
  show own_G p.tables e below s _ _ _ (T87.setTop (mkF m 15 #[.val (.ref a1), .val (.ref a2)] [(.int (0 : Int32)), (.ref na)]))
  refine own_go (fun t k => XS.aloadN X87.here hx rfl (hb hby dp0_15) rfl rfl k) ?_
  show own_G p.tables e below s _ _ _ (T87.setTop (mkF m 16 #[.val (.ref a1), .val (.ref a2)] [(.ref a2), (.int (0 : Int32)), (.ref na)]))
  obtain ⟨cl95, Ar95, q95, S95, NN95, HH95, GG95⟩ := f91
  have hin95 : ¬ ((0 : Int32) < 0 ∨ cl95.slots.size ≤ ((0 : Int32)).toNatClampNeg) := inb_of S95 (own_zz0 hz)
  have Sto95 : Sto Z h87 na (.ref a2) := Sto.ofV Ar95 q95 O1 (Ins.self f92)
  obtain ⟨T95, h95, X95, e95, W95, st95⟩ := stR X87 hx hZ e87 Ar95 (j := (0 : Int32)) hin95 rfl Sto95 (g := (mkF m 16 #[.val (.ref a1), .val (.ref a2)] [(.ref a2), (.int (0 : Int32)), (.ref na)])) rfl rfl (hb hby dp0_16)
  refine own_go st95 ?_
  have v95 : Arv Z h95 na k1 (.object "com/example/sumac/sumac/RedBlackTreeMap$Node") z1 [(.ref a2), .null] .null := Arv.set Ar95 q95 S95 NN95 HH95 GG95 rfl W95 0 rfl (Nat.le_of_ble_eq_true rfl)
  have f96 := Exa.wr W95 f89
  have f97 := Fld.other W95 f90 (Or.inl hne)
  have f98 := Fld.other W95 f88 (Or.inl hne)
  have f99 := Exa.wr W95 f92
  have z100 := Nat.le_trans z93 (Keep.of_wr W95).1
  have k101 := k94.wr W95 (Or.inl (List.mem_of_getElem? (i := 1) rfl))
  have N95 := Fr.snoc X95 N87 g2
  show own_G p.tables e below s _ _ _ (T95.setTop (mkF m 17 #[.val (.ref a1), .val (.ref a2)] []))
  exact own_retV X95 hx hlk Bd.returns (hb hby dp0_17) (by rw [e95]; exact ⟨rfl, N95, k101, f97, f98, v95⟩) (by decide) (by decide)
theorem dp1_0 : decode prog_7_method_4_code 0 = .ok (.aload_n 0, 1) := by decide +kernel
theorem dp1_1 : decode prog_7_method_4_code 1 = .ok (.getfield 17, 3) := by decide +kernel
theorem dp1_4 : decode prog_7_method_4_code 4 = .ok (.aload_n 0, 1) := by decide +kernel
theorem dp1_5 : decode prog_7_method_4_code 5 = .ok (.dup, 1) := by decide +kernel
theorem dp1_6 : decode prog_7_method_4_code 6 = .ok (.getfield 23, 3) := by decide +kernel
theorem dp1_9 : decode prog_7_method_4_code 9 = .ok (.dup_x1, 1) := by decide +kernel
theorem dp1_10 : decode prog_7_method_4_code 10 = .ok (.iconst 1, 1) := by decide +kernel
theorem dp1_11 : decode prog_7_method_4_code 11 = .ok (.iadd, 1) := by decide +kernel
theorem dp1_12 : decode prog_7_method_4_code 12 = .ok (.putfield 23, 3) := by decide +kernel
theorem dp1_15 : decode prog_7_method_4_code 15 = .ok (.aload_n 1, 1) := by decide +kernel
theorem dp1_16 : decode prog_7_method_4_code 16 = .ok (.aastore, 1) := by decide +kernel
theorem dp1_17 : decode prog_7_method_4_code 17 = .ok (.return_, 1) := by decide +kernel
theorem ef_p1 (m : MethodId) (x0 : Addr) (x1 : Addr) : entryFrame m #[(.ref x0), (.ref x1)] 2 = mkF m 0 #[.val (.ref x0), .val (.ref x1)] [] := by first | (simp [entryFrame, mkF, argsToLocals, Value.category]; done) | rfl
def Qp1 (Z : State) (a1 a2 na y0 : Addr) (k1 : ClassId) (z1 : Int32) (h0 : Heap) (n0 : Nat) (v : Option Value) (h : Heap) (L : List Loc) : Prop := v = none ∧ Fr n0 L ∧ Keep h0 h [a1, na] ∧ Fld Z h a1 "com/example/sumac/sumac/RedBlackTreeMap$NodeStack" "nodes" "[Lcom/example/sumac/sumac/RedBlackTreeMap$Node;" (.ref na) ∧ Fld Z h a1 "com/example/sumac/sumac/RedBlackTreeMap$NodeStack" "depth" "I" (.int (2 : Int32)) ∧ Arv Z h na k1 (.object "com/example/sumac/sumac/RedBlackTreeMap$Node") z1 [(.ref y0), (.ref a2)] .null
set_option maxRecDepth 65536 in
set_option maxHeartbeats 40000000 in
theorem rmp1 (l : Launch) (Z : State) (a0 : Array Value) (hw : ∀ d ∈ tables_1, d.before a0 Z = true) (ws : List Jvm.Cond) (a1 a2 na y0 : Addr) (k1 : ClassId) (z1 : Int32) (h0 : Heap) (n0 : Nat) (Z0 : n0 ≤ h0.size) (E1 : Exa Z h0 a1 "com/example/sumac/sumac/RedBlackTreeMap$NodeStack") (F1 : Fld Z h0 a1 "com/example/sumac/sumac/RedBlackTreeMap$NodeStack" "nodes" "[Lcom/example/sumac/sumac/RedBlackTreeMap$Node;" (.ref na)) (F2 : Fld Z h0 a1 "com/example/sumac/sumac/RedBlackTreeMap$NodeStack" "depth" "I" (.int (1 : Int32))) (V1 : Arv Z h0 na k1 (.object "com/example/sumac/sumac/RedBlackTreeMap$Node") z1 [(.ref y0), .null] .null) (hne : a1 ≠ na) (g1 : n0 ≤ a1) (g2 : n0 ≤ na) (hz : (1 : Int32) < z1) (E2 : Exa Z h0 a2 "com/example/sumac/sumac/RedBlackTreeMap$Node") (O1 : Ovr Z k1 "com/example/sumac/sumac/RedBlackTreeMap$Node") :
    MetFree l (⟨"com/example/sumac/sumac/RedBlackTreeMap$NodeStack", "push", "(Lcom/example/sumac/sumac/RedBlackTreeMap$Node;)V"⟩ : MethodName) (head1 (Jvm.Cond.code (⟨"com/example/sumac/sumac/RedBlackTreeMap$NodeStack", "push", "(Lcom/example/sumac/sumac/RedBlackTreeMap$Node;)V"⟩ : MethodName) prog_7_method_4_code 2 none :: ws) ({ frames := 0, cells := 0, slots := 0, locals := 0 } : Room)) (fun a U => a = #[(.ref a1), (.ref a2)] ∧ Z.Warmed39 U.vm ∧ U.heap = h0) (fun _ _ _ _ _ => True) (fun _ U o U' => ∃ v L, o = .returned v ∧ Qp1 Z a1 a2 na y0 k1 z1 h0 n0 v U'.heap L ∧ FrameEnd U o U' L ({ frames := 0, cells := 0, slots := 0, locals := 0 } : Room).cells ({ frames := 0, cells := 0, slots := 0, locals := 0 } : Room).slots) := by
  refine MetFree.of_bodySF (plainFor_of_name pn_com_example_sumac_sumac_RedBlackTreeMap_NodeStack) hisR ?_
  intro p e s m args below meth c s₁ Bd hml0 hP hK
  obtain ⟨rfl, hZ, hh⟩ := hP
  have hx := Bd.exec
  have hby := Bd.bytes
  have hlk : meth.locks = false := BodyLoose.notSynchronized Bd
  have hml : c.maxLocals = 2 := hml0
  have hown : s.vm.findClass "com/example/sumac/sumac/RedBlackTreeMap$NodeStack" = some m.cls := findClass_of_methodNamed Bd.named
  have hnm := (name_of_methodNamed Bd.named Bd.method).1
  have X0 : Stand p l e ({ frames := 0, cells := 0, slots := 0, locals := 0 } : Room) s m #[(.ref a1), (.ref a2)] below meth c s₁ [] 0 0 := Stand.of_body Bd
  have e0 : s₁.heap = h0 := by rw [← hh, Bd.state]; rfl
  have N0 := Fr.nil n0
  show own_G p.tables e below s (Qp1 Z a1 a2 na y0 k1 z1 h0 n0) ({ frames := 0, cells := 0, slots := 0, locals := 0 } : Room).cells ({ frames := 0, cells := 0, slots := 0, locals := 0 } : Room).slots (s₁.setTop (entryFrame m #[(.ref a1), (.ref a2)] 2))
  refine own_go (fun t k => castTop (ef_p1 m a1 a2) k) ?_
  show own_G p.tables e below s _ _ _ (s₁.setTop (mkF m 0 #[.val (.ref a1), .val (.ref a2)] []))
  refine own_go (fun t k => XS.aloadN X0.here hx rfl (hb hby dp1_0) rfl rfl k) ?_
  show own_G p.tables e below s _ _ _ (s₁.setTop (mkF m 1 #[.val (.ref a1), .val (.ref a2)] [(.ref a1)]))
  obtain ⟨T102, X102, e102, st102⟩ := getF X0 hx hZ hown (host := "") (Or.inl (hw _ (List.mem_of_getElem? (i := 46) rfl))) Via.refl e0 F1 (g := (mkF m 1 #[.val (.ref a1), .val (.ref a2)] [(.ref a1)])) rfl rfl (hb hby dp1_1)
  refine own_go st102 ?_
  show own_G p.tables e below s _ _ _ (T102.setTop (mkF m 4 #[.val (.ref a1), .val (.ref a2)] [(.ref na)]))
  refine own_go (fun t k => XS.aloadN X102.here hx rfl (hb hby dp1_4) rfl rfl k) ?_
  show own_G p.tables e below s _ _ _ (T102.setTop (mkF m 5 #[.val (.ref a1), .val (.ref a2)] [(.ref a1), (.ref na)]))
  refine own_go (fun t k => XS.dup X102.here hx rfl (hb hby dp1_5) rfl rfl k) ?_
  show own_G p.tables e below s _ _ _ (T102.setTop (mkF m 6 #[.val (.ref a1), .val (.ref a2)] [(.ref a1), (.ref a1), (.ref na)]))
  obtain ⟨T103, X103, e103, st103⟩ := getF X102 hx hZ hown (host := "") (Or.inl (hw _ (List.mem_of_getElem? (i := 53) rfl))) Via.refl e102 F2 (g := (mkF m 6 #[.val (.ref a1), .val (.ref a2)] [(.ref a1), (.ref a1), (.ref na)])) rfl rfl (hb hby dp1_6)
  refine own_go st103 ?_
  show own_G p.tables e below s _ _ _ (T103.setTop (mkF m 9 #[.val (.ref a1), .val (.ref a2)] [(.int (1 : Int32)), (.ref a1), (.ref na)]))
  refine own_go (fun t k => XS.dupX1 X103.here hx rfl (hb hby dp1_9) rfl rfl rfl k) ?_
  show own_G p.tables e below s _ _ _ (T103.setTop (mkF m 10 #[.val (.ref a1), .val (.ref a2)] [(.int (1 : Int32)), (.ref a1), (.int (1 : Int32)), (.ref na)]))
  refine own_go (fun t k => XS.iconst X103.here hx rfl (hb hby dp1_10) k) ?_
  show own_G p.tables e below s _ _ _ (T103.setTop (mkF m 11 #[.val (.ref a1), .val (.ref a2)] [(.int (1 : Int32)), (.int (1 : Int32)), (.ref a1), (.int (1 : Int32)), (.ref na)]))
  refine own_go (fun t k => XS.iadd X103.here hx rfl (hb hby dp1_11) rfl k) ?_
  show own_G p.tables e below s _ _ _ (T103.setTop (mkF m 12 #[.val (.ref a1), .val (.ref a2)] [(.int (2 : Int32)), (.ref a1), (.int (1 : Int32)), (.ref na)]))
  obtain ⟨T104, h104, X104, e104, W104, st104⟩ := putF X103 hx hZ hown (host := "") (Or.inl (hw _ (List.mem_of_getElem? (i := 53) rfl))) Via.refl e103 F2 E1 (Or.inl (hw _ (List.mem_of_getElem? (i := 54) rfl))) (hw _ (List.mem_of_getElem? (i := 23) rfl)) (ty := .int) (by decide) rfl rfl (g := (mkF m 12 #[.val (.ref a1), .val (.ref a2)] [(.int (2 : Int32)), (.ref a1), (.int (1 : Int32)), (.ref na)])) rfl rfl (hb hby dp1_12)
  have N104 := Fr.snoc X104 N0 g1
  refine own_go st104 ?_
  have f105 := Fld.same W104 F2
  have f106 := Exa.wr W104 E1
  have f107 := Fld.other W104 F1 (Or.inr (slot_ne (Or.inr (hw _ (List.mem_of_getElem? (i := 47) rfl))) (Or.inl (hw _ (List.mem_of_getElem? (i := 54) rfl))) (by decide) (t := (.array (.object "com/example/sumac/sumac/RedBlackTreeMap$Node"))) (t' := .int) (by decide) (by decide)))
  have f108 := V1.other W104 (Ne.symm hne)
  have f109 := Exa.wr W104 E2
  have z110 := Nat.le_trans Z0 (Keep.of_wr W104).1
  have k111 := (Keep.refl h0 [a1, na]).wr W104 (Or.inl (List.mem_of_getElem? (i := 0) rfl))
  show own_G p.tables e below s _ _ _ (T104.setTop (mkF m 15 #[.val (.ref a1), .val (.ref a2)] [(.int (1 : Int32)), (.ref na)]))
  refine own_go (fun t k => XS.aloadN X104.here hx rfl (hb hby dp1_15) rfl rfl k) ?_
  show own_G p.tables e below s _ _ _ (T104.setTop (mkF m 16 #[.val (.ref a1), .val (.ref a2)] [(.ref a2), (.int (1 : Int32)), (.ref na)]))
  obtain ⟨cl112, Ar112, q112, S112, NN112, HH112, GG112⟩ := f108
  have hin112 : ¬ ((1 : Int32) < 0 ∨ cl112.slots.size ≤ ((1 : Int32)).toNatClampNeg) := inb_of S112 (own_zz1 hz)
  have Sto112 : Sto Z h104 na (.ref a2) := Sto.ofV Ar112 q112 O1 (Ins.self f109)
  obtain ⟨T112, h112, X112, e112, W112, st112⟩ := stR X104 hx hZ e104 Ar112 (j := (1 : Int32)) hin112 rfl Sto112 (g := (mkF m 16 #[.val (.ref a1), .val (.ref a2)] [(.ref a2), (.int (1 : Int32)), (.ref na)])) rfl rfl (hb hby dp1_16)
  refine own_go st112 ?_
  have v112 : Arv Z h112 na k1 (.object "com/example/sumac/sumac/RedBlackTreeMap$Node") z1 [(.ref y0), (.ref a2)] .null := Arv.set Ar112 q112 S112 NN112 HH112 GG112 rfl W112 1 rfl (Nat.le_of_ble_eq_true rfl)
  have f113 := Exa.wr W112 f106
  have f114 := Fld.other W112 f107 (Or.inl hne)
  have f115 := Fld.other W112 f105 (Or.inl hne)
  have f116 := Exa.wr W112 f109
  have z117 := Nat.le_trans z110 (Keep.of_wr W112).1
  have k118 := k111.wr W112 (Or.inl (List.mem_of_getElem? (i := 1) rfl))
  have N112 := Fr.snoc X112 N104 g2
  show own_G p.tables e below s _ _ _ (T112.setTop (mkF m 17 #[.val (.ref a1), .val (.ref a2)] []))
  exact own_retV X112 hx hlk Bd.returns (hb hby dp1_17) (by rw [e112]; exact ⟨rfl, N112, k118, f114, f115, v112⟩) (by decide) (by decide)
theorem dk1_0 : decode prog_7_method_3_code 0 = .ok (.aload_n 0, 1) := by decide +kernel
theorem dk1_1 : decode prog_7_method_3_code 1 = .ok (.getfield 17, 3) := by decide +kernel
theorem dk1_4 : decode prog_7_method_3_code 4 = .ok (.aload_n 0, 1) := by decide +kernel
theorem dk1_5 : decode prog_7_method_3_code 5 = .ok (.getfield 23, 3) := by decide +kernel
theorem dk1_8 : decode prog_7_method_3_code 8 = .ok (.iconst 1, 1) := by decide +kernel
theorem dk1_9 : decode prog_7_method_3_code 9 = .ok (.isub, 1) := by decide +kernel
theorem dk1_10 : decode prog_7_method_3_code 10 = .ok (.aaload, 1) := by decide +kernel
theorem dk1_11 : decode prog_7_method_3_code 11 = .ok (.areturn, 1) := by decide +kernel
theorem ef_k1 (m : MethodId) (x0 : Addr) : entryFrame m #[(.ref x0)] 1 = mkF m 0 #[.val (.ref x0)] [] := by first | (simp [entryFrame, mkF, argsToLocals, Value.category]; done) | rfl
def Qk1 (Z : State) (a1 na y0 : Addr) (y1 : Value) (k1 : ClassId) (z1 : Int32) (h0 : Heap) (n0 : Nat) (v : Option Value) (h : Heap) (L : List Loc) : Prop := v = some (.ref y0) ∧ Fr n0 L ∧ h = h0
set_option maxRecDepth 65536 in
set_option maxHeartbeats 40000000 in
theorem rmk1 (l : Launch) (Z : State) (a0 : Array Value) (hw : ∀ d ∈ tables_1, d.before a0 Z = true) (ws : List Jvm.Cond) (a1 na y0 : Addr) (y1 : Value) (k1 : ClassId) (z1 : Int32) (h0 : Heap) (n0 : Nat) (Z0 : n0 ≤ h0.size) (F1 : Fld Z h0 a1 "com/example/sumac/sumac/RedBlackTreeMap$NodeStack" "nodes" "[Lcom/example/sumac/sumac/RedBlackTreeMap$Node;" (.ref na)) (F2 : Fld Z h0 a1 "com/example/sumac/sumac/RedBlackTreeMap$NodeStack" "depth" "I" (.int (1 : Int32))) (V1 : Arv Z h0 na k1 (.object "com/example/sumac/sumac/RedBlackTreeMap$Node") z1 [(.ref y0), y1] .null) (hz : (1 : Int32) < z1) :
    MetFree l (⟨"com/example/sumac/sumac/RedBlackTreeMap$NodeStack", "peek", "()Lcom/example/sumac/sumac/RedBlackTreeMap$Node;"⟩ : MethodName) (head1 (Jvm.Cond.code (⟨"com/example/sumac/sumac/RedBlackTreeMap$NodeStack", "peek", "()Lcom/example/sumac/sumac/RedBlackTreeMap$Node;"⟩ : MethodName) prog_7_method_3_code 1 (some (.object "com/example/sumac/sumac/RedBlackTreeMap$Node")) :: ws) ({ frames := 0, cells := 0, slots := 0, locals := 0 } : Room)) (fun a U => a = #[(.ref a1)] ∧ Z.Warmed39 U.vm ∧ U.heap = h0) (fun _ _ _ _ _ => True) (fun _ U o U' => ∃ v L, o = .returned v ∧ Qk1 Z a1 na y0 y1 k1 z1 h0 n0 v U'.heap L ∧ FrameEnd U o U' L ({ frames := 0, cells := 0, slots := 0, locals := 0 } : Room).cells ({ frames := 0, cells := 0, slots := 0, locals := 0 } : Room).slots) := by
  refine MetFree.of_bodySF (plainFor_of_name pn_com_example_sumac_sumac_RedBlackTreeMap_NodeStack) hisR ?_
  intro p e s m args below meth c s₁ Bd hml0 hP hK
  obtain ⟨rfl, hZ, hh⟩ := hP
  have hx := Bd.exec
  have hby := Bd.bytes
  have hlk : meth.locks = false := BodyLoose.notSynchronized Bd
  have hml : c.maxLocals = 1 := hml0
  have hown : s.vm.findClass "com/example/sumac/sumac/RedBlackTreeMap$NodeStack" = some m.cls := findClass_of_methodNamed Bd.named
  have hnm := (name_of_methodNamed Bd.named Bd.method).1
  have X0 : Stand p l e ({ frames := 0, cells := 0, slots := 0, locals := 0 } : Room) s m #[(.ref a1)] below meth c s₁ [] 0 0 := Stand.of_body Bd
  have e0 : s₁.heap = h0 := by rw [← hh, Bd.state]; rfl
  have N0 := Fr.nil n0
  show own_G p.tables e below s (Qk1 Z a1 na y0 y1 k1 z1 h0 n0) ({ frames := 0, cells := 0, slots := 0, locals := 0 } : Room).cells ({ frames := 0, cells := 0, slots := 0, locals := 0 } : Room).slots (s₁.setTop (entryFrame m #[(.ref a1)] 1))
  refine own_go (fun t k => castTop (ef_k1 m a1) k) ?_
  show own_G p.tables e below s _ _ _ (s₁.setTop (mkF m 0 #[.val (.ref a1)] []))
  refine own_go (fun t k => XS.aloadN X0.here hx rfl (hb hby dk1_0) rfl rfl k) ?_
  show own_G p.tables e below s _ _ _ (s₁.setTop (mkF m 1 #[.val (.ref a1)] [(.ref a1)]))
  obtain ⟨T119, X119, e119, st119⟩ := getF X0 hx hZ hown (host := "") (Or.inl (hw _ (List.mem_of_getElem? (i := 46) rfl))) Via.refl e0 F1 (g := (mkF m 1 #[.val (.ref a1)] [(.ref a1)])) rfl rfl (hb hby dk1_1)
  refine own_go st119 ?_
  show own_G p.tables e below s _ _ _ (T119.setTop (mkF m 4 #[.val (.ref a1)] [(.ref na)]))
  refine own_go (fun t k => XS.aloadN X119.here hx rfl (hb hby dk1_4) rfl rfl k) ?_
  show own_G p.tables e below s _ _ _ (T119.setTop (mkF m 5 #[.val (.ref a1)] [(.ref a1), (.ref na)]))
  obtain ⟨T120, X120, e120, st120⟩ := getF X119 hx hZ hown (host := "") (Or.inl (hw _ (List.mem_of_getElem? (i := 53) rfl))) Via.refl e119 F2 (g := (mkF m 5 #[.val (.ref a1)] [(.ref a1), (.ref na)])) rfl rfl (hb hby dk1_5)
  refine own_go st120 ?_
  show own_G p.tables e below s _ _ _ (T120.setTop (mkF m 8 #[.val (.ref a1)] [(.int (1 : Int32)), (.ref na)]))
  refine own_go (fun t k => XS.iconst X120.here hx rfl (hb hby dk1_8) k) ?_
  show own_G p.tables e below s _ _ _ (T120.setTop (mkF m 9 #[.val (.ref a1)] [(.int (1 : Int32)), (.int (1 : Int32)), (.ref na)]))
  refine own_go (fun t k => XS.isub X120.here hx rfl (hb hby dk1_9) rfl k) ?_
  show own_G p.tables e below s _ _ _ (T120.setTop (mkF m 10 #[.val (.ref a1)] [(.int (0 : Int32)), (.ref na)]))
  obtain ⟨cl121, Ar121, q121, S121, NN121, HH121, GG121⟩ := id V1
  have hin121 : ¬ ((0 : Int32) < 0 ∨ cl121.slots.size ≤ ((0 : Int32)).toNatClampNeg) := inb_of S121 (own_zz0 hz)
  have hat121 : cl121.slots[((0 : Int32)).toNatClampNeg]? = some (.ref y0) := Has.at HH121 hin121 rfl
  refine own_go (fun t k => X120.aaload hx (j := (0 : Int32)) (v := (.ref y0)) (by rw [e120]; exact Ar121.1) (State.isArrayOf_alike hZ.alike Ar121.2.1) rfl Ar121.2.2 hin121 hat121 (g := (mkF m 10 #[.val (.ref a1)] [(.int (0 : Int32)), (.ref na)])) rfl rfl (hb hby dk1_10) _ k) ?_
  show own_G p.tables e below s _ _ _ (T120.setTop (mkF m 11 #[.val (.ref a1)] [(.ref y0)]))
  exact own_retA X120 hx hlk Bd.returns rfl rfl (hb hby dk1_11) (by rw [e120]; exact ⟨rfl, N0, rfl⟩) (by decide) (by decide)
theorem dk2_0 : decode prog_7_method_3_code 0 = .ok (.aload_n 0, 1) := by decide +kernel
theorem dk2_1 : decode prog_7_method_3_code 1 = .ok (.getfield 17, 3) := by decide +kernel
theorem dk2_4 : decode prog_7_method_3_code 4 = .ok (.aload_n 0, 1) := by decide +kernel
theorem dk2_5 : decode prog_7_method_3_code 5 = .ok (.getfield 23, 3) := by decide +kernel
theorem dk2_8 : decode prog_7_method_3_code 8 = .ok (.iconst 1, 1) := by decide +kernel
theorem dk2_9 : decode prog_7_method_3_code 9 = .ok (.isub, 1) := by decide +kernel
theorem dk2_10 : decode prog_7_method_3_code 10 = .ok (.aaload, 1) := by decide +kernel
theorem dk2_11 : decode prog_7_method_3_code 11 = .ok (.areturn, 1) := by decide +kernel
theorem ef_k2 (m : MethodId) (x0 : Addr) : entryFrame m #[(.ref x0)] 1 = mkF m 0 #[.val (.ref x0)] [] := by first | (simp [entryFrame, mkF, argsToLocals, Value.category]; done) | rfl
def Qk2 (Z : State) (a1 na y0 y1 : Addr) (k1 : ClassId) (z1 : Int32) (h0 : Heap) (n0 : Nat) (v : Option Value) (h : Heap) (L : List Loc) : Prop := v = some (.ref y1) ∧ Fr n0 L ∧ h = h0
set_option maxRecDepth 65536 in
set_option maxHeartbeats 40000000 in
theorem rmk2 (l : Launch) (Z : State) (a0 : Array Value) (hw : ∀ d ∈ tables_1, d.before a0 Z = true) (ws : List Jvm.Cond) (a1 na y0 y1 : Addr) (k1 : ClassId) (z1 : Int32) (h0 : Heap) (n0 : Nat) (Z0 : n0 ≤ h0.size) (F1 : Fld Z h0 a1 "com/example/sumac/sumac/RedBlackTreeMap$NodeStack" "nodes" "[Lcom/example/sumac/sumac/RedBlackTreeMap$Node;" (.ref na)) (F2 : Fld Z h0 a1 "com/example/sumac/sumac/RedBlackTreeMap$NodeStack" "depth" "I" (.int (2 : Int32))) (V1 : Arv Z h0 na k1 (.object "com/example/sumac/sumac/RedBlackTreeMap$Node") z1 [(.ref y0), (.ref y1)] .null) (hz : (1 : Int32) < z1) :
    MetFree l (⟨"com/example/sumac/sumac/RedBlackTreeMap$NodeStack", "peek", "()Lcom/example/sumac/sumac/RedBlackTreeMap$Node;"⟩ : MethodName) (head1 (Jvm.Cond.code (⟨"com/example/sumac/sumac/RedBlackTreeMap$NodeStack", "peek", "()Lcom/example/sumac/sumac/RedBlackTreeMap$Node;"⟩ : MethodName) prog_7_method_3_code 1 (some (.object "com/example/sumac/sumac/RedBlackTreeMap$Node")) :: ws) ({ frames := 0, cells := 0, slots := 0, locals := 0 } : Room)) (fun a U => a = #[(.ref a1)] ∧ Z.Warmed39 U.vm ∧ U.heap = h0) (fun _ _ _ _ _ => True) (fun _ U o U' => ∃ v L, o = .returned v ∧ Qk2 Z a1 na y0 y1 k1 z1 h0 n0 v U'.heap L ∧ FrameEnd U o U' L ({ frames := 0, cells := 0, slots := 0, locals := 0 } : Room).cells ({ frames := 0, cells := 0, slots := 0, locals := 0 } : Room).slots) := by
  refine MetFree.of_bodySF (plainFor_of_name pn_com_example_sumac_sumac_RedBlackTreeMap_NodeStack) hisR ?_
  intro p e s m args below meth c s₁ Bd hml0 hP hK
  obtain ⟨rfl, hZ, hh⟩ := hP
  have hx := Bd.exec
  have hby := Bd.bytes
  have hlk : meth.locks = false := BodyLoose.notSynchronized Bd
  have hml : c.maxLocals = 1 := hml0
  have hown : s.vm.findClass "com/example/sumac/sumac/RedBlackTreeMap$NodeStack" = some m.cls := findClass_of_methodNamed Bd.named
  have hnm := (name_of_methodNamed Bd.named Bd.method).1
  have X0 : Stand p l e ({ frames := 0, cells := 0, slots := 0, locals := 0 } : Room) s m #[(.ref a1)] below meth c s₁ [] 0 0 := Stand.of_body Bd
  have e0 : s₁.heap = h0 := by rw [← hh, Bd.state]; rfl
  have N0 := Fr.nil n0
  show own_G p.tables e below s (Qk2 Z a1 na y0 y1 k1 z1 h0 n0) ({ frames := 0, cells := 0, slots := 0, locals := 0 } : Room).cells ({ frames := 0, cells := 0, slots := 0, locals := 0 } : Room).slots (s₁.setTop (entryFrame m #[(.ref a1)] 1))
  refine own_go (fun t k => castTop (ef_k2 m a1) k) ?_
  show own_G p.tables e below s _ _ _ (s₁.setTop (mkF m 0 #[.val (.ref a1)] []))
  refine own_go (fun t k => XS.aloadN X0.here hx rfl (hb hby dk2_0) rfl rfl k) ?_
  show own_G p.tables e below s _ _ _ (s₁.setTop (mkF m 1 #[.val (.ref a1)] [(.ref a1)]))
  obtain ⟨T122, X122, e122, st122⟩ := getF X0 hx hZ hown (host := "") (Or.inl (hw _ (List.mem_of_getElem? (i := 46) rfl))) Via.refl e0 F1 (g := (mkF m 1 #[.val (.ref a1)] [(.ref a1)])) rfl rfl (hb hby dk2_1)
  refine own_go st122 ?_
  show own_G p.tables e below s _ _ _ (T122.setTop (mkF m 4 #[.val (.ref a1)] [(.ref na)]))
  refine own_go (fun t k => XS.aloadN X122.here hx rfl (hb hby dk2_4) rfl rfl k) ?_
  show own_G p.tables e below s _ _ _ (T122.setTop (mkF m 5 #[.val (.ref a1)] [(.ref a1), (.ref na)]))
  obtain ⟨T123, X123, e123, st123⟩ := getF X122 hx hZ hown (host := "") (Or.inl (hw _ (List.mem_of_getElem? (i := 53) rfl))) Via.refl e122 F2 (g := (mkF m 5 #[.val (.ref a1)] [(.ref a1), (.ref na)])) rfl rfl (hb hby dk2_5)
  refine own_go st123 ?_
  show own_G p.tables e below s _ _ _ (T123.setTop (mkF m 8 #[.val (.ref a1)] [(.int (2 : Int32)), (.ref na)]))
  refine own_go (fun t k => XS.iconst X123.here hx rfl (hb hby dk2_8) k) ?_
  show own_G p.tables e below s _ _ _ (T123.setTop (mkF m 9 #[.val (.ref a1)] [(.int (1 : Int32)), (.int (2 : Int32)), (.ref na)]))
  refine own_go (fun t k => XS.isub X123.here hx rfl (hb hby dk2_9) rfl k) ?_
  show own_G p.tables e below s _ _ _ (T123.setTop (mkF m 10 #[.val (.ref a1)] [(.int (1 : Int32)), (.ref na)]))
  obtain ⟨cl124, Ar124, q124, S124, NN124, HH124, GG124⟩ := id V1
  have hin124 : ¬ ((1 : Int32) < 0 ∨ cl124.slots.size ≤ ((1 : Int32)).toNatClampNeg) := inb_of S124 (own_zz1 hz)
  have hat124 : cl124.slots[((1 : Int32)).toNatClampNeg]? = some (.ref y1) := Has.at HH124 hin124 rfl
  refine own_go (fun t k => X123.aaload hx (j := (1 : Int32)) (v := (.ref y1)) (by rw [e123]; exact Ar124.1) (State.isArrayOf_alike hZ.alike Ar124.2.1) rfl Ar124.2.2 hin124 hat124 (g := (mkF m 10 #[.val (.ref a1)] [(.int (1 : Int32)), (.ref na)])) rfl rfl (hb hby dk2_10) _ k) ?_
  show own_G p.tables e below s _ _ _ (T123.setTop (mkF m 11 #[.val (.ref a1)] [(.ref y1)]))
  exact own_retA X123 hx hlk Bd.returns rfl rfl (hb hby dk2_11) (by rw [e123]; exact ⟨rfl, N0, rfl⟩) (by decide) (by decide)
theorem dc_0 : decode prog_4_method_87_code 0 = .ok (.iload_n 1, 1) := by decide +kernel
theorem dc_1 : decode prog_4_method_87_code 1 = .ok (.ifCond .eq 10, 3) := by decide +kernel
theorem dc_11 : decode prog_4_method_87_code 11 = .ok (.aload_n 0, 1) := by decide +kernel
theorem dc_12 : decode prog_4_method_87_code 12 = .ok (.getfield 66, 3) := by decide +kernel
theorem dc_15 : decode prog_4_method_87_code 15 = .ok (.areturn, 1) := by decide +kernel
theorem dc_4 : decode prog_4_method_87_code 4 = .ok (.aload_n 0, 1) := by decide +kernel
theorem dc_5 : decode prog_4_method_87_code 5 = .ok (.getfield 63, 3) := by decide +kernel
theorem dc_8 : decode prog_4_method_87_code 8 = .ok (.goto 7, 3) := by decide +kernel
theorem ef_c (m : MethodId) (x0 : Addr) (x1 : Int32) : entryFrame m #[(.ref x0), (.int x1)] 2 = mkF m 0 #[.val (.ref x0), .val (.int x1)] [] := by first | (simp [entryFrame, mkF, argsToLocals, Value.category]; done) | rfl
def Qc (Z : State) (a1 : Addr) (p2 : Int32) (h0 : Heap) (n0 : Nat) (v : Option Value) (h : Heap) (L : List Loc) : Prop := v = some .null ∧ Fr n0 L ∧ h = h0
set_option maxRecDepth 65536 in
set_option maxHeartbeats 40000000 in
theorem rmc (l : Launch) (Z : State) (a0 : Array Value) (hw : ∀ d ∈ tables_1, d.before a0 Z = true) (ws : List Jvm.Cond) (a1 : Addr) (p2 : Int32) (h0 : Heap) (n0 : Nat) (Z0 : n0 ≤ h0.size) (Fl : Fld Z h0 a1 "com/example/sumac/sumac/RedBlackTreeMap$Node" "left" "Lcom/example/sumac/sumac/RedBlackTreeMap$Node;" .null) (Fr' : Fld Z h0 a1 "com/example/sumac/sumac/RedBlackTreeMap$Node" "right" "Lcom/example/sumac/sumac/RedBlackTreeMap$Node;" .null) :
    MetFree l (⟨"com/example/sumac/sumac/RedBlackTreeMap", "child", "(Lcom/example/sumac/sumac/RedBlackTreeMap$Node;Z)Lcom/example/sumac/sumac/RedBlackTreeMap$Node;"⟩ : MethodName) (head1 (Jvm.Cond.code (⟨"com/example/sumac/sumac/RedBlackTreeMap", "child", "(Lcom/example/sumac/sumac/RedBlackTreeMap$Node;Z)Lcom/example/sumac/sumac/RedBlackTreeMap$Node;"⟩ : MethodName) prog_4_method_87_code 2 (some (.object "com/example/sumac/sumac/RedBlackTreeMap$Node")) :: ws) ({ frames := 0, cells := 0, slots := 0, locals := 0 } : Room)) (fun a U => a = #[(.ref a1), (.int p2)] ∧ Z.Warmed39 U.vm ∧ U.heap = h0) (fun _ _ _ _ _ => True) (fun _ U o U' => ∃ v L, o = .returned v ∧ Qc Z a1 p2 h0 n0 v U'.heap L ∧ FrameEnd U o U' L ({ frames := 0, cells := 0, slots := 0, locals := 0 } : Room).cells ({ frames := 0, cells := 0, slots := 0, locals := 0 } : Room).slots) := by
  refine MetFree.of_bodySF (plainFor_of_name pn_com_example_sumac_sumac_RedBlackTreeMap) hisR ?_
  intro p e s m args below meth c s₁ Bd hml0 hP hK
  obtain ⟨rfl, hZ, hh⟩ := hP
  have hx := Bd.exec
  have hby := Bd.bytes
  have hlk : meth.locks = false := BodyLoose.notSynchronized Bd
  have hml : c.maxLocals = 2 := hml0
  have hown : s.vm.findClass "com/example/sumac/sumac/RedBlackTreeMap" = some m.cls := findClass_of_methodNamed Bd.named
  have hnm := (name_of_methodNamed Bd.named Bd.method).1
  have X0 : Stand p l e ({ frames := 0, cells := 0, slots := 0, locals := 0 } : Room) s m #[(.ref a1), (.int p2)] below meth c s₁ [] 0 0 := Stand.of_body Bd
  have e0 : s₁.heap = h0 := by rw [← hh, Bd.state]; rfl
  have N0 := Fr.nil n0
  show own_G p.tables e below s (Qc Z a1 p2 h0 n0) ({ frames := 0, cells := 0, slots := 0, locals := 0 } : Room).cells ({ frames := 0, cells := 0, slots := 0, locals := 0 } : Room).slots (s₁.setTop (entryFrame m #[(.ref a1), (.int p2)] 2))
  refine own_go (fun t k => castTop (ef_c m a1 p2) k) ?_
  show own_G p.tables e below s _ _ _ (s₁.setTop (mkF m 0 #[.val (.ref a1), .val (.int p2)] []))
  refine own_go (fun t k => XS.iloadN X0.here hx rfl (hb hby dc_0) rfl k) ?_
  show own_G p.tables e below s _ _ _ (s₁.setTop (mkF m 1 #[.val (.ref a1), .val (.int p2)] [(.int p2)]))
  by_cases h1 : p2 = (0 : Int32)
  · refine own_go (fun t k => XS.ifYes X0.here hx rfl (pc0 := 1) (pc' := 11) rfl (hb hby dc_1) rfl (Jvm.Free.XT.i0_eq_t h1) (by decide) (by decide) k) ?_
    show own_G p.tables e below s _ _ _ (s₁.setTop (mkF m 11 #[.val (.ref a1), .val (.int p2)] []))
    refine own_go (fun t k => XS.aloadN X0.here hx rfl (hb hby dc_11) rfl rfl k) ?_
    show own_G p.tables e below s _ _ _ (s₁.setTop (mkF m 12 #[.val (.ref a1), .val (.int p2)] [(.ref a1)]))
    obtain ⟨T125, X125, e125, st125⟩ := getF X0 hx hZ hown (host := "") (Or.inl (hw _ (List.mem_of_getElem? (i := 82) rfl))) Via.refl e0 Fr' (g := (mkF m 12 #[.val (.ref a1), .val (.int p2)] [(.ref a1)])) rfl rfl (hb hby dc_12)
    refine own_go st125 ?_
    show own_G p.tables e below s _ _ _ (T125.setTop (mkF m 15 #[.val (.ref a1), .val (.int p2)] [.null]))
    exact own_retA X125 hx hlk Bd.returns rfl rfl (hb hby dc_15) (by rw [e125]; exact ⟨rfl, N0, rfl⟩) (by decide) (by decide)
  · refine own_go (fun t k => XS.ifNo X0.here hx rfl (hb hby dc_1) rfl (Jvm.Free.XT.i0_eq_f h1) k) ?_
    show own_G p.tables e below s _ _ _ (s₁.setTop (mkF m 4 #[.val (.ref a1), .val (.int p2)] []))
    refine own_go (fun t k => XS.aloadN X0.here hx rfl (hb hby dc_4) rfl rfl k) ?_
    show own_G p.tables e below s _ _ _ (s₁.setTop (mkF m 5 #[.val (.ref a1), .val (.int p2)] [(.ref a1)]))
    obtain ⟨T126, X126, e126, st126⟩ := getF X0 hx hZ hown (host := "") (Or.inl (hw _ (List.mem_of_getElem? (i := 74) rfl))) Via.refl e0 Fl (g := (mkF m 5 #[.val (.ref a1), .val (.int p2)] [(.ref a1)])) rfl rfl (hb hby dc_5)
    refine own_go st126 ?_
    show own_G p.tables e below s _ _ _ (T126.setTop (mkF m 8 #[.val (.ref a1), .val (.int p2)] [.null]))
    refine own_go (fun t k => XS.goto X126.here hx rfl (pc0 := 8) (pc' := 15) rfl (hb hby dc_8) (by decide) (by decide) k) ?_
    show own_G p.tables e below s _ _ _ (T126.setTop (mkF m 15 #[.val (.ref a1), .val (.int p2)] [.null]))
    exact own_retA X126 hx hlk Bd.returns rfl rfl (hb hby dc_15) (by rw [e126]; exact ⟨rfl, N0, rfl⟩) (by decide) (by decide)
theorem du_0 : decode prog_7_method_6_code 0 = .ok (.aload_n 1, 1) := by decide +kernel
theorem du_1 : decode prog_7_method_6_code 1 = .ok (.astore_n 3, 1) := by decide +kernel
theorem du_2 : decode prog_7_method_6_code 2 = .ok (.aload_n 3, 1) := by decide +kernel
theorem du_3 : decode prog_7_method_6_code 3 = .ok (.ifnull 17, 3) := by decide +kernel
theorem du_20 : decode prog_7_method_6_code 20 = .ok (.return_, 1) := by decide +kernel
theorem ef_u (m : MethodId) (x0 : Addr) (x2 : Int32) : entryFrame m #[(.ref x0), .null, (.int x2)] 4 = mkF m 0 #[.val (.ref x0), .val .null, .val (.int x2), .unset] [] := by first | (simp [entryFrame, mkF, argsToLocals, Value.category]; done) | rfl
def Qu (Z : State) (a1 : Addr) (p3 : Int32) (h0 : Heap) (n0 : Nat) (v : Option Value) (h : Heap) (L : List Loc) : Prop := v = none ∧ Fr n0 L ∧ h = h0
set_option maxRecDepth 65536 in
set_option maxHeartbeats 40000000 in
theorem rmu (l : Launch) (Z : State) (a0 : Array Value) (hw : ∀ d ∈ tables_1, d.before a0 Z = true) (ws : List Jvm.Cond) (a1 : Addr) (p3 : Int32) (h0 : Heap) (n0 : Nat) (Z0 : n0 ≤ h0.size)  :
    MetFree l (⟨"com/example/sumac/sumac/RedBlackTreeMap$NodeStack", "pushSpine", "(Lcom/example/sumac/sumac/RedBlackTreeMap$Node;Z)V"⟩ : MethodName) (head1 (Jvm.Cond.code (⟨"com/example/sumac/sumac/RedBlackTreeMap$NodeStack", "pushSpine", "(Lcom/example/sumac/sumac/RedBlackTreeMap$Node;Z)V"⟩ : MethodName) prog_7_method_6_code 4 none :: ws) ({ frames := 0, cells := 0, slots := 0, locals := 0 } : Room)) (fun a U => a = #[(.ref a1), .null, (.int p3)] ∧ Z.Warmed39 U.vm ∧ U.heap = h0) (fun _ _ _ _ _ => True) (fun _ U o U' => ∃ v L, o = .returned v ∧ Qu Z a1 p3 h0 n0 v U'.heap L ∧ FrameEnd U o U' L ({ frames := 0, cells := 0, slots := 0, locals := 0 } : Room).cells ({ frames := 0, cells := 0, slots := 0, locals := 0 } : Room).slots) := by
  refine MetFree.of_bodySF (plainFor_of_name pn_com_example_sumac_sumac_RedBlackTreeMap_NodeStack) hisR ?_
  intro p e s m args below meth c s₁ Bd hml0 hP hK
  obtain ⟨rfl, hZ, hh⟩ := hP
  have hx := Bd.exec
  have hby := Bd.bytes
  have hlk : meth.locks = false := BodyLoose.notSynchronized Bd
  have hml : c.maxLocals = 4 := hml0
  have hown : s.vm.findClass "com/example/sumac/sumac/RedBlackTreeMap$NodeStack" = some m.cls := findClass_of_methodNamed Bd.named
  have hnm := (name_of_methodNamed Bd.named Bd.method).1
  have X0 : Stand p l e ({ frames := 0, cells := 0, slots := 0, locals := 0 } : Room) s m #[(.ref a1), .null, (.int p3)] below meth c s₁ [] 0 0 := Stand.of_body Bd
  have e0 : s₁.heap = h0 := by rw [← hh, Bd.state]; rfl
  have N0 := Fr.nil n0
  show own_G p.tables e below s (Qu Z a1 p3 h0 n0) ({ frames := 0, cells := 0, slots := 0, locals := 0 } : Room).cells ({ frames := 0, cells := 0, slots := 0, locals := 0 } : Room).slots (s₁.setTop (entryFrame m #[(.ref a1), .null, (.int p3)] 4))
  refine own_go (fun t k => castTop (ef_u m a1 p3) k) ?_
  show own_G p.tables e below s _ _ _ (s₁.setTop (mkF m 0 #[.val (.ref a1), .val .null, .val (.int p3), .unset] []))
  refine own_go (fun t k => XS.aloadN X0.here hx rfl (hb hby du_0) rfl rfl k) ?_
  show own_G p.tables e below s _ _ _ (s₁.setTop (mkF m 1 #[.val (.ref a1), .val .null, .val (.int p3), .unset] [.null]))
  refine own_go (fun t k => XS.astoreN X0.here hx rfl (hb hby du_1) rfl rfl (l' := #[.val (.ref a1), .val .null, .val (.int p3), .val .null]) rfl k) ?_
  show own_G p.tables e below s _ _ _ (s₁.setTop (mkF m 2 #[.val (.ref a1), .val .null, .val (.int p3), .val .null] []))
  refine own_go (fun t k => XS.aloadN X0.here hx rfl (hb hby du_2) rfl rfl k) ?_
  show own_G p.tables e below s _ _ _ (s₁.setTop (mkF m 3 #[.val (.ref a1), .val .null, .val (.int p3), .val .null] [.null]))
  refine own_go (fun t k => XS.ifnullYes X0.here hx rfl (pc0 := 3) (pc' := 20) rfl (hb hby du_3) rfl (by decide) (by decide) k) ?_
  show own_G p.tables e below s _ _ _ (s₁.setTop (mkF m 20 #[.val (.ref a1), .val .null, .val (.int p3), .val .null] []))
  exact own_retV X0 hx hlk Bd.returns (hb hby du_20) (by rw [e0]; exact ⟨rfl, N0, rfl⟩) (by decide) (by decide)
theorem dt1_0 : decode prog_7_method_7_code 0 = .ok (.aload_n 0, 1) := by decide +kernel
theorem dt1_1 : decode prog_7_method_7_code 1 = .ok (.getfield 17, 3) := by decide +kernel
theorem dt1_4 : decode prog_7_method_7_code 4 = .ok (.aload_n 0, 1) := by decide +kernel
theorem dt1_5 : decode prog_7_method_7_code 5 = .ok (.dup, 1) := by decide +kernel
theorem dt1_6 : decode prog_7_method_7_code 6 = .ok (.getfield 23, 3) := by decide +kernel
theorem dt1_9 : decode prog_7_method_7_code 9 = .ok (.iconst 1, 1) := by decide +kernel
theorem dt1_10 : decode prog_7_method_7_code 10 = .ok (.isub, 1) := by decide +kernel
theorem dt1_11 : decode prog_7_method_7_code 11 = .ok (.dup_x1, 1) := by decide +kernel
theorem dt1_12 : decode prog_7_method_7_code 12 = .ok (.putfield 23, 3) := by decide +kernel
theorem dt1_15 : decode prog_7_method_7_code 15 = .ok (.aaload, 1) := by decide +kernel
theorem dt1_16 : decode prog_7_method_7_code 16 = .ok (.astore_n 2, 1) := by decide +kernel
theorem dt1_17 : decode prog_7_method_7_code 17 = .ok (.aload_n 0, 1) := by decide +kernel
theorem dt1_18 : decode prog_7_method_7_code 18 = .ok (.aload_n 2, 1) := by decide +kernel
theorem dt1_19 : decode prog_7_method_7_code 19 = .ok (.iload_n 1, 1) := by decide +kernel
theorem dt1_20 : decode prog_7_method_7_code 20 = .ok (.ifCond .ne 7, 3) := by decide +kernel
theorem dt1_23 : decode prog_7_method_7_code 23 = .ok (.iconst 1, 1) := by decide +kernel
theorem dt1_24 : decode prog_7_method_7_code 24 = .ok (.goto 4, 3) := by decide +kernel
theorem dt1_27 : decode prog_7_method_7_code 27 = .ok (.iconst 0, 1) := by decide +kernel
theorem pd__Lcom_example_sumac_sumac_RedBlackTreeMap_Node_Z_Lcom_example_sumac_sumac_RedBlackTreeMap_Node_ : parseMethodDescriptor "(Lcom/example/sumac/sumac/RedBlackTreeMap$Node;Z)Lcom/example/sumac/sumac/RedBlackTreeMap$Node;" = some ⟨[(.object "com/example/sumac/sumac/RedBlackTreeMap$Node"), .boolean], some (.object "com/example/sumac/sumac/RedBlackTreeMap$Node")⟩ := by decide +kernel
theorem dt1_28 : decode prog_7_method_7_code 28 = .ok (.invokestatic 31, 3) := by decide +kernel
theorem dt1_31 : decode prog_7_method_7_code 31 = .ok (.iload_n 1, 1) := by decide +kernel
theorem pd__Lcom_example_sumac_sumac_RedBlackTreeMap_Node_Z_V : parseMethodDescriptor "(Lcom/example/sumac/sumac/RedBlackTreeMap$Node;Z)V" = some ⟨[(.object "com/example/sumac/sumac/RedBlackTreeMap$Node"), .boolean], none⟩ := by decide +kernel
theorem dt1_32 : decode prog_7_method_7_code 32 = .ok (.invokevirtual 35, 3) := by decide +kernel
theorem dt1_35 : decode prog_7_method_7_code 35 = .ok (.aload_n 2, 1) := by decide +kernel
theorem dt1_36 : decode prog_7_method_7_code 36 = .ok (.areturn, 1) := by decide +kernel
theorem ef_t1 (m : MethodId) (x0 : Addr) (x1 : Int32) : entryFrame m #[(.ref x0), (.int x1)] 3 = mkF m 0 #[.val (.ref x0), .val (.int x1), .unset] [] := by first | (simp [entryFrame, mkF, argsToLocals, Value.category]; done) | rfl
def Qt1 (Z : State) (a1 na y0 : Addr) (y1 : Value) (k1 : ClassId) (z1 p2 : Int32) (h0 : Heap) (n0 : Nat) (v : Option Value) (h : Heap) (L : List Loc) : Prop := v = some (.ref y0) ∧ Fr n0 L ∧ Keep h0 h [a1] ∧ Fld Z h a1 "com/example/sumac/sumac/RedBlackTreeMap$NodeStack" "nodes" "[Lcom/example/sumac/sumac/RedBlackTreeMap$Node;" (.ref na) ∧ Fld Z h a1 "com/example/sumac/sumac/RedBlackTreeMap$NodeStack" "depth" "I" (.int (0 : Int32))
set_option maxRecDepth 65536 in
set_option maxHeartbeats 40000000 in
theorem rmt1 (l : Launch) (Z : State) (a0 : Array Value) (hw : ∀ d ∈ tables_1, d.before a0 Z = true) (ws : List Jvm.Cond) (a1 na y0 : Addr) (y1 : Value) (k1 : ClassId) (z1 p2 : Int32) (h0 : Heap) (n0 : Nat) (Z0 : n0 ≤ h0.size) (E1 : Exa Z h0 a1 "com/example/sumac/sumac/RedBlackTreeMap$NodeStack") (F1 : Fld Z h0 a1 "com/example/sumac/sumac/RedBlackTreeMap$NodeStack" "nodes" "[Lcom/example/sumac/sumac/RedBlackTreeMap$Node;" (.ref na)) (F2 : Fld Z h0 a1 "com/example/sumac/sumac/RedBlackTreeMap$NodeStack" "depth" "I" (.int (1 : Int32))) (V1 : Arv Z h0 na k1 (.object "com/example/sumac/sumac/RedBlackTreeMap$Node") z1 [(.ref y0), y1] .null) (hne : a1 ≠ na) (g1 : n0 ≤ a1) (g2 : n0 ≤ na) (hz : (1 : Int32) < z1) (Fl : Fld Z h0 y0 "com/example/sumac/sumac/RedBlackTreeMap$Node" "left" "Lcom/example/sumac/sumac/RedBlackTreeMap$Node;" .null) (Fr' : Fld Z h0 y0 "com/example/sumac/sumac/RedBlackTreeMap$Node" "right" "Lcom/example/sumac/sumac/RedBlackTreeMap$Node;" .null) (hy : y0 ≠ a1) :
    MetFree l (⟨"com/example/sumac/sumac/RedBlackTreeMap$NodeStack", "step", "(Z)Lcom/example/sumac/sumac/RedBlackTreeMap$Node;"⟩ : MethodName) (head1 (Jvm.Cond.code (⟨"com/example/sumac/sumac/RedBlackTreeMap$NodeStack", "step", "(Z)Lcom/example/sumac/sumac/RedBlackTreeMap$Node;"⟩ : MethodName) prog_7_method_7_code 3 (some (.object "com/example/sumac/sumac/RedBlackTreeMap$Node")) :: ws) ({ frames := 1, cells := 0, slots := 0, locals := 15 } : Room)) (fun a U => a = #[(.ref a1), (.int p2)] ∧ Z.Warmed39 U.vm ∧ U.heap = h0) (fun _ _ _ _ _ => True) (fun _ U o U' => ∃ v L, o = .returned v ∧ Qt1 Z a1 na y0 y1 k1 z1 p2 h0 n0 v U'.heap L ∧ FrameEnd U o U' L ({ frames := 1, cells := 0, slots := 0, locals := 15 } : Room).cells ({ frames := 1, cells := 0, slots := 0, locals := 15 } : Room).slots) := by
  refine MetFree.of_bodySF (plainFor_of_name pn_com_example_sumac_sumac_RedBlackTreeMap_NodeStack) hisR ?_
  intro p e s m args below meth c s₁ Bd hml0 hP hK
  obtain ⟨rfl, hZ, hh⟩ := hP
  have hx := Bd.exec
  have hby := Bd.bytes
  have hlk : meth.locks = false := BodyLoose.notSynchronized Bd
  have hml : c.maxLocals = 3 := hml0
  have hown : s.vm.findClass "com/example/sumac/sumac/RedBlackTreeMap$NodeStack" = some m.cls := findClass_of_methodNamed Bd.named
  have hnm := (name_of_methodNamed Bd.named Bd.method).1
  have X0 : Stand p l e ({ frames := 1, cells := 0, slots := 0, locals := 15 } : Room) s m #[(.ref a1), (.int p2)] below meth c s₁ [] 0 0 := Stand.of_body Bd
  have e0 : s₁.heap = h0 := by rw [← hh, Bd.state]; rfl
  have N0 := Fr.nil n0
  show own_G p.tables e below s (Qt1 Z a1 na y0 y1 k1 z1 p2 h0 n0) ({ frames := 1, cells := 0, slots := 0, locals := 15 } : Room).cells ({ frames := 1, cells := 0, slots := 0, locals := 15 } : Room).slots (s₁.setTop (entryFrame m #[(.ref a1), (.int p2)] 3))
  refine own_go (fun t k => castTop (ef_t1 m a1 p2) k) ?_
  show own_G p.tables e below s _ _ _ (s₁.setTop (mkF m 0 #[.val (.ref a1), .val (.int p2), .unset] []))
  refine own_go (fun t k => XS.aloadN X0.here hx rfl (hb hby dt1_0) rfl rfl k) ?_
  show own_G p.tables e below s _ _ _ (s₁.setTop (mkF m 1 #[.val (.ref a1), .val (.int p2), .unset] [(.ref a1)]))
  obtain ⟨T127, X127, e127, st127⟩ := getF X0 hx hZ hown (host := "") (Or.inl (hw _ (List.mem_of_getElem? (i := 46) rfl))) Via.refl e0 F1 (g := (mkF m 1 #[.val (.ref a1), .val (.int p2), .unset] [(.ref a1)])) rfl rfl (hb hby dt1_1)
  refine own_go st127 ?_
  show own_G p.tables e below s _ _ _ (T127.setTop (mkF m 4 #[.val (.ref a1), .val (.int p2), .unset] [(.ref na)]))
  refine own_go (fun t k => XS.aloadN X127.here hx rfl (hb hby dt1_4) rfl rfl k) ?_
  show own_G p.tables e below s _ _ _ (T127.setTop (mkF m 5 #[.val (.ref a1), .val (.int p2), .unset] [(.ref a1), (.ref na)]))
  refine own_go (fun t k => XS.dup X127.here hx rfl (hb hby dt1_5) rfl rfl k) ?_
  show own_G p.tables e below s _ _ _ (T127.setTop (mkF m 6 #[.val (.ref a1), .val (.int p2), .unset] [(.ref a1), (.ref a1), (.ref na)]))
  obtain ⟨T128, X128, e128, st128⟩ := getF X127 hx hZ hown (host := "") (Or.inl (hw _ (List.mem_of_getElem? (i := 53) rfl))) Via.refl e127 F2 (g := (mkF m 6 #[.val (.ref a1), .val (.int p2), .unset] [(.ref a1), (.ref a1), (.ref na)])) rfl rfl (hb hby dt1_6)
  refine own_go st128 ?_
  show own_G p.tables e below s _ _ _ (T128.setTop (mkF m 9 #[.val (.ref a1), .val (.int p2), .unset] [(.int (1 : Int32)), (.ref a1), (.ref na)]))
  refine own_go (fun t k => XS.iconst X128.here hx rfl (hb hby dt1_9) k) ?_
  show own_G p.tables e below s _ _ _ (T128.setTop (mkF m 10 #[.val (.ref a1), .val (.int p2), .unset] [(.int (1 : Int32)), (.int (1 : Int32)), (.ref a1), (.ref na)]))
  refine own_go (fun t k => XS.isub X128.here hx rfl (hb hby dt1_10) rfl k) ?_
  show own_G p.tables e below s _ _ _ (T128.setTop (mkF m 11 #[.val (.ref a1), .val (.int p2), .unset] [(.int (0 : Int32)), (.ref a1), (.ref na)]))
  refine own_go (fun t k => XS.dupX1 X128.here hx rfl (hb hby dt1_11) rfl rfl rfl k) ?_
  show own_G p.tables e below s _ _ _ (T128.setTop (mkF m 12 #[.val (.ref a1), .val (.int p2), .unset] [(.int (0 : Int32)), (.ref a1), (.int (0 : Int32)), (.ref na)]))
  obtain ⟨T129, h129, X129, e129, W129, st129⟩ := putF X128 hx hZ hown (host := "") (Or.inl (hw _ (List.mem_of_getElem? (i := 53) rfl))) Via.refl e128 F2 E1 (Or.inl (hw _ (List.mem_of_getElem? (i := 54) rfl))) (hw _ (List.mem_of_getElem? (i := 23) rfl)) (ty := .int) (by decide) rfl rfl (g := (mkF m 12 #[.val (.ref a1), .val (.int p2), .unset] [(.int (0 : Int32)), (.ref a1), (.int (0 : Int32)), (.ref na)])) rfl rfl (hb hby dt1_12)
  have N129 := Fr.snoc X129 N0 g1
  refine own_go st129 ?_
  have f130 := Fld.same W129 F2
  have f131 := Exa.wr W129 E1
  have f132 := Fld.other W129 F1 (Or.inr (slot_ne (Or.inr (hw _ (List.mem_of_getElem? (i := 47) rfl))) (Or.inl (hw _ (List.mem_of_getElem? (i := 54) rfl))) (by decide) (t := (.array (.object "com/example/sumac/sumac/RedBlackTreeMap$Node"))) (t' := .int) (by decide) (by decide)))
  have f133 := V1.other W129 (Ne.symm hne)
  have f134 := Fld.other W129 Fl (Or.inl hy)
  have f135 := Fld.other W129 Fr' (Or.inl hy)
  have z136 := Nat.le_trans Z0 (Keep.of_wr W129).1
  have k137 := (Keep.refl h0 [a1]).wr W129 (Or.inl (List.mem_of_getElem? (i := 0) rfl))
  show own_G p.tables e below s _ _ _ (T129.setTop (mkF m 15 #[.val (.ref a1), .val (.int p2), .unset] [(.int (0 : Int32)), (.ref na)]))
  obtain ⟨cl138, Ar138, q138, S138, NN138, HH138, GG138⟩ := id f133
  have hin138 : ¬ ((0 : Int32) < 0 ∨ cl138.slots.size ≤ ((0 : Int32)).toNatClampNeg) := inb_of S138 (own_zz0 hz)
  have hat138 : cl138.slots[((0 : Int32)).toNatClampNeg]? = some (.ref y0) := Has.at HH138 hin138 rfl
  refine own_go (fun t k => X129.aaload hx (j := (0 : Int32)) (v := (.ref y0)) (by rw [e129]; exact Ar138.1) (State.isArrayOf_alike hZ.alike Ar138.2.1) rfl Ar138.2.2 hin138 hat138 (g := (mkF m 15 #[.val (.ref a1), .val (.int p2), .unset] [(.int (0 : Int32)), (.ref na)])) rfl rfl (hb hby dt1_15) _ k) ?_
  show own_G p.tables e below s _ _ _ (T129.setTop (mkF m 16 #[.val (.ref a1), .val (.int p2), .unset] [(.ref y0)]))
  refine own_go (fun t k => XS.astoreN X129.here hx rfl (hb hby dt1_16) rfl rfl (l' := #[.val (.ref a1), .val (.int p2), .val (.ref y0)]) rfl k) ?_
  show own_G p.tables e below s _ _ _ (T129.setTop (mkF m 17 #[.val (.ref a1), .val (.int p2), .val (.ref y0)] []))
  refine own_go (fun t k => XS.aloadN X129.here hx rfl (hb hby dt1_17) rfl rfl k) ?_
  show own_G p.tables e below s _ _ _ (T129.setTop (mkF m 18 #[.val (.ref a1), .val (.int p2), .val (.ref y0)] [(.ref a1)]))
  refine own_go (fun t k => XS.aloadN X129.here hx rfl (hb hby dt1_18) rfl rfl k) ?_
  show own_G p.tables e below s _ _ _ (T129.setTop (mkF m 19 #[.val (.ref a1), .val (.int p2), .val (.ref y0)] [(.ref y0), (.ref a1)]))
  refine own_go (fun t k => XS.iloadN X129.here hx rfl (hb hby dt1_19) rfl k) ?_
  show own_G p.tables e below s _ _ _ (T129.setTop (mkF m 20 #[.val (.ref a1), .val (.int p2), .val (.ref y0)] [(.int p2), (.ref y0), (.ref a1)]))
  obtain ⟨rr, hrr⟩ : ∃ z : Int32, (if p2 = (0 : Int32) then (1 : Int32) else 0) = z := ⟨_, rfl⟩
  refine own_go (A := (T129.setTop (mkF m 28 #[.val (.ref a1), .val (.int p2), .val (.ref y0)] [(.int rr), (.ref y0), (.ref a1)]))) (fun t k => ?_) ?_
  · show Steps p.tables e below (T129.setTop (mkF m 20 #[.val (.ref a1), .val (.int p2), .val (.ref y0)] [(.int p2), (.ref y0), (.ref a1)])) _
    by_cases hq : p2 = (0 : Int32)
    · refine XS.ifNo X129.here hx rfl (hb hby dt1_20) rfl (Jvm.Free.XT.i0_ne_f hq) ?_
      show Steps p.tables e below (T129.setTop (mkF m 23 #[.val (.ref a1), .val (.int p2), .val (.ref y0)] [(.ref y0), (.ref a1)])) _
      refine XS.iconst X129.here hx rfl (hb hby dt1_23) ?_
      show Steps p.tables e below (T129.setTop (mkF m 24 #[.val (.ref a1), .val (.int p2), .val (.ref y0)] [(.int (1 : Int32)), (.ref y0), (.ref a1)])) _
      refine XS.goto X129.here hx rfl (pc0 := 24) (pc' := 28) rfl (hb hby dt1_24) (by decide) (by decide) ?_
      show Steps p.tables e below (T129.setTop (mkF m 28 #[.val (.ref a1), .val (.int p2), .val (.ref y0)] [(.int (1 : Int32)), (.ref y0), (.ref a1)])) _
      rw [← hrr, if_pos hq] at k
      exact k
    · refine XS.ifYes X129.here hx rfl (pc0 := 20) (pc' := 27) rfl (hb hby dt1_20) rfl (Jvm.Free.XT.i0_ne_t hq) (by decide) (by decide) ?_
      show Steps p.tables e below (T129.setTop (mkF m 27 #[.val (.ref a1), .val (.int p2), .val (.ref y0)] [(.ref y0), (.ref a1)])) _
      refine XS.iconst X129.here hx rfl (hb hby dt1_27) ?_
      show Steps p.tables e below (T129.setTop (mkF m 28 #[.val (.ref a1), .val (.int p2), .val (.ref y0)] [(.int (0 : Int32)), (.ref y0), (.ref a1)])) _
      rw [← hrr, if_neg hq] at k
      exact k
  show own_G p.tables e below s _ _ _ (T129.setTop (mkF m 28 #[.val (.ref a1), .val (.int p2), .val (.ref y0)] [(.int rr), (.ref y0), (.ref a1)]))
  obtain ⟨_, _, ⟨T139, L139, k139, n139⟩, -, X139, ⟨Lc139, hQ139, l139, y139, z139⟩, st139⟩ := callSN X129 hx (y := (⟨"com/example/sumac/sumac/RedBlackTreeMap", "child", "(Lcom/example/sumac/sumac/RedBlackTreeMap$Node;Z)Lcom/example/sumac/sumac/RedBlackTreeMap$Node;"⟩ : MethodName)) hown (Cond.methodLinkNest_wide hZ (hw _ (List.mem_of_getElem? (i := 71) rfl)) :) (mvT hZ (hw _ (List.mem_of_getElem? (i := 72) rfl))) (mvT hZ (hw _ (List.mem_of_getElem? (i := 31) rfl))) (mvT hZ (hw _ (List.mem_of_getElem? (i := 73) rfl))) (by decide) (backOf (W := 1) (rmc l Z a0 hw [] y0 rr h129 n0 z136 f134 f135) hZ (hw _ (List.mem_of_getElem? (i := 73) rfl)) (hw _ (List.mem_of_getElem? (i := 31) rfl)) (by decide) (by decide)) (g := (mkF m 28 #[.val (.ref a1), .val (.int p2), .val (.ref y0)] [(.int rr), (.ref y0), (.ref a1)])) rfl (by rw [hml]; rfl) (argsL := [(.ref y0), (.int rr)]) (rest := [(.ref a1)]) (lenOf pd__Lcom_example_sumac_sumac_RedBlackTreeMap_Node_Z_Lcom_example_sumac_sumac_RedBlackTreeMap_Node_ rfl) rfl (by show 2 * 0 + _ ≤ _; exact Nat.le_of_eq rfl) (hb hby dt1_28) (fun _ _ => ⟨rfl, e129, (by decide : 0 + 0 ≤ _), (by decide : 0 + 0 ≤ _)⟩)
  dsimp only [Pt.U, Pt.locs, Pt.cells, Pt.slots] at X139 l139 y139 z139 st139 hQ139
  subst l139 y139 z139
  obtain ⟨rfl, N139q, hh139⟩ := hQ139
  have N139 := Fr.app N129 N139q
  refine own_go (fun t k => st139.trans k) ?_
  show own_G p.tables e below s _ _ _ (T139.setTop (mkF m 31 #[.val (.ref a1), .val (.int p2), .val (.ref y0)] [.null, (.ref a1)]))
  refine own_go (fun t k => XS.iloadN X139.here hx rfl (hb hby dt1_31) rfl k) ?_
  show own_G p.tables e below s _ _ _ (T139.setTop (mkF m 32 #[.val (.ref a1), .val (.int p2), .val (.ref y0)] [(.int p2), .null, (.ref a1)]))
  obtain ⟨cq140, kq140, q140a, q140b, q140c⟩ := isOf hZ hh139 f131
  obtain ⟨_, _, ⟨T140, L140, k140, n140⟩, -, X140, ⟨Lc140, hQ140, l140, y140, z140⟩, st140⟩ := X139.virtualBack hx (y := (⟨"com/example/sumac/sumac/RedBlackTreeMap$NodeStack", "pushSpine", "(Lcom/example/sumac/sumac/RedBlackTreeMap$Node;Z)V"⟩ : MethodName)) (z := (⟨"com/example/sumac/sumac/RedBlackTreeMap$NodeStack", "pushSpine", "(Lcom/example/sumac/sumac/RedBlackTreeMap$Node;Z)V"⟩ : MethodName)) hown (mvT hZ (hw _ (List.mem_of_getElem? (i := 76) rfl))) (mvT hZ (hw _ (List.mem_of_getElem? (i := 77) rfl))) (notFace_of_selects (args := #[]) (mvT hZ (hw _ (List.mem_of_getElem? (i := 79) rfl)))) (mvT hZ (hw _ (List.mem_of_getElem? (i := 79) rfl))) (mvT hZ (hw _ (List.mem_of_getElem? (i := 78) rfl))) (by decide) (backOf (W := 0) (rmu l Z a0 hw [] a1 p2 h129 n0 z136) hZ (hw _ (List.mem_of_getElem? (i := 80) rfl)) (hw _ (List.mem_of_getElem? (i := 24) rfl)) (by decide) (by decide)) q140a q140c (g := (mkF m 32 #[.val (.ref a1), .val (.int p2), .val (.ref y0)] [(.int p2), .null, (.ref a1)])) rfl (by rw [hml]; rfl) (Steps.refl _) (argsL := [.null, (.int p2)]) (rest := []) (lenOf pd__Lcom_example_sumac_sumac_RedBlackTreeMap_Node_Z_V rfl) rfl (by show 2 * 0 + _ ≤ _; exact Nat.le_of_eq rfl) (hb hby dt1_32) (fun _ _ => ⟨rfl, hh139, (by decide : 0 + 0 ≤ _), (by decide : 0 + 0 ≤ _)⟩)
  dsimp only [Pt.U, Pt.locs, Pt.cells, Pt.slots] at X140 l140 y140 z140 st140 hQ140
  subst l140 y140 z140
  obtain ⟨rfl, N140q, hh140⟩ := hQ140
  have N140 := Fr.app N139 N140q
  refine own_go (fun t k => st140.trans k) ?_
  show own_G p.tables e below s _ _ _ (T140.setTop (mkF m 35 #[.val (.ref a1), .val (.int p2), .val (.ref y0)] []))
  refine own_go (fun t k => XS.aloadN X140.here hx rfl (hb hby dt1_35) rfl rfl k) ?_
  show own_G p.tables e below s _ _ _ (T140.setTop (mkF m 36 #[.val (.ref a1), .val (.int p2), .val (.ref y0)] [(.ref y0)]))
  exact own_retA X140 hx hlk Bd.returns rfl rfl (hb hby dt1_36) (by rw [hh140]; exact ⟨rfl, N140, k137, f132, f130⟩) (by decide) (by decide)
theorem dt2_0 : decode prog_7_method_7_code 0 = .ok (.aload_n 0, 1) := by decide +kernel
theorem dt2_1 : decode prog_7_method_7_code 1 = .ok (.getfield 17, 3) := by decide +kernel
theorem dt2_4 : decode prog_7_method_7_code 4 = .ok (.aload_n 0, 1) := by decide +kernel
theorem dt2_5 : decode prog_7_method_7_code 5 = .ok (.dup, 1) := by decide +kernel
theorem dt2_6 : decode prog_7_method_7_code 6 = .ok (.getfield 23, 3) := by decide +kernel
theorem dt2_9 : decode prog_7_method_7_code 9 = .ok (.iconst 1, 1) := by decide +kernel
theorem dt2_10 : decode prog_7_method_7_code 10 = .ok (.isub, 1) := by decide +kernel
theorem dt2_11 : decode prog_7_method_7_code 11 = .ok (.dup_x1, 1) := by decide +kernel
theorem dt2_12 : decode prog_7_method_7_code 12 = .ok (.putfield 23, 3) := by decide +kernel
theorem dt2_15 : decode prog_7_method_7_code 15 = .ok (.aaload, 1) := by decide +kernel
theorem dt2_16 : decode prog_7_method_7_code 16 = .ok (.astore_n 2, 1) := by decide +kernel
theorem dt2_17 : decode prog_7_method_7_code 17 = .ok (.aload_n 0, 1) := by decide +kernel
theorem dt2_18 : decode prog_7_method_7_code 18 = .ok (.aload_n 2, 1) := by decide +kernel
theorem dt2_19 : decode prog_7_method_7_code 19 = .ok (.iload_n 1, 1) := by decide +kernel
theorem dt2_20 : decode prog_7_method_7_code 20 = .ok (.ifCond .ne 7, 3) := by decide +kernel
theorem dt2_23 : decode prog_7_method_7_code 23 = .ok (.iconst 1, 1) := by decide +kernel
theorem dt2_24 : decode prog_7_method_7_code 24 = .ok (.goto 4, 3) := by decide +kernel
theorem dt2_27 : decode prog_7_method_7_code 27 = .ok (.iconst 0, 1) := by decide +kernel
theorem dt2_28 : decode prog_7_method_7_code 28 = .ok (.invokestatic 31, 3) := by decide +kernel
theorem dt2_31 : decode prog_7_method_7_code 31 = .ok (.iload_n 1, 1) := by decide +kernel
theorem dt2_32 : decode prog_7_method_7_code 32 = .ok (.invokevirtual 35, 3) := by decide +kernel
theorem dt2_35 : decode prog_7_method_7_code 35 = .ok (.aload_n 2, 1) := by decide +kernel
theorem dt2_36 : decode prog_7_method_7_code 36 = .ok (.areturn, 1) := by decide +kernel
theorem ef_t2 (m : MethodId) (x0 : Addr) (x1 : Int32) : entryFrame m #[(.ref x0), (.int x1)] 3 = mkF m 0 #[.val (.ref x0), .val (.int x1), .unset] [] := by first | (simp [entryFrame, mkF, argsToLocals, Value.category]; done) | rfl
def Qt2 (Z : State) (a1 na y0 y1 : Addr) (k1 : ClassId) (z1 p2 : Int32) (h0 : Heap) (n0 : Nat) (v : Option Value) (h : Heap) (L : List Loc) : Prop := v = some (.ref y1) ∧ Fr n0 L ∧ Keep h0 h [a1] ∧ Fld Z h a1 "com/example/sumac/sumac/RedBlackTreeMap$NodeStack" "nodes" "[Lcom/example/sumac/sumac/RedBlackTreeMap$Node;" (.ref na) ∧ Fld Z h a1 "com/example/sumac/sumac/RedBlackTreeMap$NodeStack" "depth" "I" (.int (1 : Int32))
set_option maxRecDepth 65536 in
set_option maxHeartbeats 40000000 in
theorem rmt2 (l : Launch) (Z : State) (a0 : Array Value) (hw : ∀ d ∈ tables_1, d.before a0 Z = true) (ws : List Jvm.Cond) (a1 na y0 y1 : Addr) (k1 : ClassId) (z1 p2 : Int32) (h0 : Heap) (n0 : Nat) (Z0 : n0 ≤ h0.size) (E1 : Exa Z h0 a1 "com/example/sumac/sumac/RedBlackTreeMap$NodeStack") (F1 : Fld Z h0 a1 "com/example/sumac/sumac/RedBlackTreeMap$NodeStack" "nodes" "[Lcom/example/sumac/sumac/RedBlackTreeMap$Node;" (.ref na)) (F2 : Fld Z h0 a1 "com/example/sumac/sumac/RedBlackTreeMap$NodeStack" "depth" "I" (.int (2 : Int32))) (V1 : Arv Z h0 na k1 (.object "com/example/sumac/sumac/RedBlackTreeMap$Node") z1 [(.ref y0), (.ref y1)] .null) (hne : a1 ≠ na) (g1 : n0 ≤ a1) (g2 : n0 ≤ na) (hz : (1 : Int32) < z1) (Fl : Fld Z h0 y1 "com/example/sumac/sumac/RedBlackTreeMap$Node" "left" "Lcom/example/sumac/sumac/RedBlackTreeMap$Node;" .null) (Fr' : Fld Z h0 y1 "com/example/sumac/sumac/RedBlackTreeMap$Node" "right" "Lcom/example/sumac/sumac/RedBlackTreeMap$Node;" .null) (hy : y1 ≠ a1) :
    MetFree l (⟨"com/example/sumac/sumac/RedBlackTreeMap$NodeStack", "step", "(Z)Lcom/example/sumac/sumac/RedBlackTreeMap$Node;"⟩ : MethodName) (head1 (Jvm.Cond.code (⟨"com/example/sumac/sumac/RedBlackTreeMap$NodeStack", "step", "(Z)Lcom/example/sumac/sumac/RedBlackTreeMap$Node;"⟩ : MethodName) prog_7_method_7_code 3 (some (.object "com/example/sumac/sumac/RedBlackTreeMap$Node")) :: ws) ({ frames := 1, cells := 0, slots := 0, locals := 15 } : Room)) (fun a U => a = #[(.ref a1), (.int p2)] ∧ Z.Warmed39 U.vm ∧ U.heap = h0) (fun _ _ _ _ _ => True) (fun _ U o U' => ∃ v L, o = .returned v ∧ Qt2 Z a1 na y0 y1 k1 z1 p2 h0 n0 v U'.heap L ∧ FrameEnd U o U' L ({ frames := 1, cells := 0, slots := 0, locals := 15 } : Room).cells ({ frames := 1, cells := 0, slots := 0, locals := 15 } : Room).slots) := by
  refine MetFree.of_bodySF (plainFor_of_name pn_com_example_sumac_sumac_RedBlackTreeMap_NodeStack) hisR ?_
  intro p e s m args below meth c s₁ Bd hml0 hP hK
  obtain ⟨rfl, hZ, hh⟩ := hP
  have hx := Bd.exec
  have hby := Bd.bytes
  have hlk : meth.locks = false := BodyLoose.notSynchronized Bd
  have hml : c.maxLocals = 3 := hml0
  have hown : s.vm.findClass "com/example/sumac/sumac/RedBlackTreeMap$NodeStack" = some m.cls := findClass_of_methodNamed Bd.named
  have hnm := (name_of_methodNamed Bd.named Bd.method).1
  have X0 : Stand p l e ({ frames := 1, cells := 0, slots := 0, locals := 15 } : Room) s m #[(.ref a1), (.int p2)] below meth c s₁ [] 0 0 := Stand.of_body Bd
  have e0 : s₁.heap = h0 := by rw [← hh, Bd.state]; rfl
  have N0 := Fr.nil n0
  show own_G p.tables e below s (Qt2 Z a1 na y0 y1 k1 z1 p2 h0 n0) ({ frames := 1, cells := 0, slots := 0, locals := 15 } : Room).cells ({ frames := 1, cells := 0, slots := 0, locals := 15 } : Room).slots (s₁.setTop (entryFrame m #[(.ref a1), (.int p2)] 3))
  refine own_go (fun t k => castTop (ef_t2 m a1 p2) k) ?_
  show own_G p.tables e below s _ _ _ (s₁.setTop (mkF m 0 #[.val (.ref a1), .val (.int p2), .unset] []))
  refine own_go (fun t k => XS.aloadN X0.here hx rfl (hb hby dt2_0) rfl rfl k) ?_
  show own_G p.tables e below s _ _ _ (s₁.setTop (mkF m 1 #[.val (.ref a1), .val (.int p2), .unset] [(.ref a1)]))
  obtain ⟨T141, X141, e141, st141⟩ := getF X0 hx hZ hown (host := "") (Or.inl (hw _ (List.mem_of_getElem? (i := 46) rfl))) Via.refl e0 F1 (g := (mkF m 1 #[.val (.ref a1), .val (.int p2), .unset] [(.ref a1)])) rfl rfl (hb hby dt2_1)
  refine own_go st141 ?_
  show own_G p.tables e below s _ _ _ (T141.setTop (mkF m 4 #[.val (.ref a1), .val (.int p2), .unset] [(.ref na)]))
  refine own_go (fun t k => XS.aloadN X141.here hx rfl (hb hby dt2_4) rfl rfl k) ?_
  show own_G p.tables e below s _ _ _ (T141.setTop (mkF m 5 #[.val (.ref a1), .val (.int p2), .unset] [(.ref a1), (.ref na)]))
  refine own_go (fun t k => XS.dup X141.here hx rfl (hb hby dt2_5) rfl rfl k) ?_
  show own_G p.tables e below s _ _ _ (T141.setTop (mkF m 6 #[.val (.ref a1), .val (.int p2), .unset] [(.ref a1), (.ref a1), (.ref na)]))
  obtain ⟨T142, X142, e142, st142⟩ := getF X141 hx hZ hown (host := "") (Or.inl (hw _ (List.mem_of_getElem? (i := 53) rfl))) Via.refl e141 F2 (g := (mkF m 6 #[.val (.ref a1), .val (.int p2), .unset] [(.ref a1), (.ref a1), (.ref na)])) rfl rfl (hb hby dt2_6)
  refine own_go st142 ?_
  show own_G p.tables e below s _ _ _ (T142.setTop (mkF m 9 #[.val (.ref a1), .val (.int p2), .unset] [(.int (2 : Int32)), (.ref a1), (.ref na)]))
  refine own_go (fun t k => XS.iconst X142.here hx rfl (hb hby dt2_9) k) ?_
  show own_G p.tables e below s _ _ _ (T142.setTop (mkF m 10 #[.val (.ref a1), .val (.int p2), .unset] [(.int (1 : Int32)), (.int (2 : Int32)), (.ref a1), (.ref na)]))
  refine own_go (fun t k => XS.isub X142.here hx rfl (hb hby dt2_10) rfl k) ?_
  show own_G p.tables e below s _ _ _ (T142.setTop (mkF m 11 #[.val (.ref a1), .val (.int p2), .unset] [(.int (1 : Int32)), (.ref a1), (.ref na)]))
  refine own_go (fun t k => XS.dupX1 X142.here hx rfl (hb hby dt2_11) rfl rfl rfl k) ?_
  show own_G p.tables e below s _ _ _ (T142.setTop (mkF m 12 #[.val (.ref a1), .val (.int p2), .unset] [(.int (1 : Int32)), (.ref a1), (.int (1 : Int32)), (.ref na)]))
  obtain ⟨T143, h143, X143, e143, W143, st143⟩ := putF X142 hx hZ hown (host := "") (Or.inl (hw _ (List.mem_of_getElem? (i := 53) rfl))) Via.refl e142 F2 E1 (Or.inl (hw _ (List.mem_of_getElem? (i := 54) rfl))) (hw _ (List.mem_of_getElem? (i := 23) rfl)) (ty := .int) (by decide) rfl rfl (g := (mkF m 12 #[.val (.ref a1), .val (.int p2), .unset] [(.int (1 : Int32)), (.ref a1), (.int (1 : Int32)), (.ref na)])) rfl rfl (hb hby dt2_12)
  have N143 := Fr.snoc X143 N0 g1
  refine own_go st143 ?_
  have f144 := Fld.same W143 F2
  have f145 := Exa.wr W143 E1
  have f146 := Fld.other W143 F1 (Or.inr (slot_ne (Or.inr (hw _ (List.mem_of_getElem? (i := 47) rfl))) (Or.inl (hw _ (List.mem_of_getElem? (i := 54) rfl))) (by decide) (t := (.array (.object "com/example/sumac/sumac/RedBlackTreeMap$Node"))) (t' := .int) (by decide) (by decide)))
  have f147 := V1.other W143 (Ne.symm hne)
  have f148 := Fld.other W143 Fl (Or.inl hy)
  have f149 := Fld.other W143 Fr' (Or.inl hy)
  have z150 := Nat.le_trans Z0 (Keep.of_wr W143).1
  have k151 := (Keep.refl h0 [a1]).wr W143 (Or.inl (List.mem_of_getElem? (i := 0) rfl))
  show own_G p.tables e below s _ _ _ (T143.setTop (mkF m 15 #[.val (.ref a1), .val (.int p2), .unset] [(.int (1 : Int32)), (.ref na)]))
  obtain ⟨cl152, Ar152, q152, S152, NN152, HH152, GG152⟩ := id f147
  have hin152 : ¬ ((1 : Int32) < 0 ∨ cl152.slots.size ≤ ((1 : Int32)).toNatClampNeg) := inb_of S152 (own_zz1 hz)
  have hat152 : cl152.slots[((1 : Int32)).toNatClampNeg]? = some (.ref y1) := Has.at HH152 hin152 rfl
  refine own_go (fun t k => X143.aaload hx (j := (1 : Int32)) (v := (.ref y1)) (by rw [e143]; exact Ar152.1) (State.isArrayOf_alike hZ.alike Ar152.2.1) rfl Ar152.2.2 hin152 hat152 (g := (mkF m 15 #[.val (.ref a1), .val (.int p2), .unset] [(.int (1 : Int32)), (.ref na)])) rfl rfl (hb hby dt2_15) _ k) ?_
  show own_G p.tables e below s _ _ _ (T143.setTop (mkF m 16 #[.val (.ref a1), .val (.int p2), .unset] [(.ref y1)]))
  refine own_go (fun t k => XS.astoreN X143.here hx rfl (hb hby dt2_16) rfl rfl (l' := #[.val (.ref a1), .val (.int p2), .val (.ref y1)]) rfl k) ?_
  show own_G p.tables e below s _ _ _ (T143.setTop (mkF m 17 #[.val (.ref a1), .val (.int p2), .val (.ref y1)] []))
  refine own_go (fun t k => XS.aloadN X143.here hx rfl (hb hby dt2_17) rfl rfl k) ?_
  show own_G p.tables e below s _ _ _ (T143.setTop (mkF m 18 #[.val (.ref a1), .val (.int p2), .val (.ref y1)] [(.ref a1)]))
  refine own_go (fun t k => XS.aloadN X143.here hx rfl (hb hby dt2_18) rfl rfl k) ?_
  show own_G p.tables e below s _ _ _ (T143.setTop (mkF m 19 #[.val (.ref a1), .val (.int p2), .val (.ref y1)] [(.ref y1), (.ref a1)]))
  refine own_go (fun t k => XS.iloadN X143.here hx rfl (hb hby dt2_19) rfl k) ?_
  show own_G p.tables e below s _ _ _ (T143.setTop (mkF m 20 #[.val (.ref a1), .val (.int p2), .val (.ref y1)] [(.int p2), (.ref y1), (.ref a1)]))
  obtain ⟨rr, hrr⟩ : ∃ z : Int32, (if p2 = (0 : Int32) then (1 : Int32) else 0) = z := ⟨_, rfl⟩
  refine own_go (A := (T143.setTop (mkF m 28 #[.val (.ref a1), .val (.int p2), .val (.ref y1)] [(.int rr), (.ref y1), (.ref a1)]))) (fun t k => ?_) ?_
  · show Steps p.tables e below (T143.setTop (mkF m 20 #[.val (.ref a1), .val (.int p2), .val (.ref y1)] [(.int p2), (.ref y1), (.ref a1)])) _
    by_cases hq : p2 = (0 : Int32)
    · refine XS.ifNo X143.here hx rfl (hb hby dt2_20) rfl (Jvm.Free.XT.i0_ne_f hq) ?_
      show Steps p.tables e below (T143.setTop (mkF m 23 #[.val (.ref a1), .val (.int p2), .val (.ref y1)] [(.ref y1), (.ref a1)])) _
      refine XS.iconst X143.here hx rfl (hb hby dt2_23) ?_
      show Steps p.tables e below (T143.setTop (mkF m 24 #[.val (.ref a1), .val (.int p2), .val (.ref y1)] [(.int (1 : Int32)), (.ref y1), (.ref a1)])) _
      refine XS.goto X143.here hx rfl (pc0 := 24) (pc' := 28) rfl (hb hby dt2_24) (by decide) (by decide) ?_
      show Steps p.tables e below (T143.setTop (mkF m 28 #[.val (.ref a1), .val (.int p2), .val (.ref y1)] [(.int (1 : Int32)), (.ref y1), (.ref a1)])) _
      rw [← hrr, if_pos hq] at k
      exact k
    · refine XS.ifYes X143.here hx rfl (pc0 := 20) (pc' := 27) rfl (hb hby dt2_20) rfl (Jvm.Free.XT.i0_ne_t hq) (by decide) (by decide) ?_
      show Steps p.tables e below (T143.setTop (mkF m 27 #[.val (.ref a1), .val (.int p2), .val (.ref y1)] [(.ref y1), (.ref a1)])) _
      refine XS.iconst X143.here hx rfl (hb hby dt2_27) ?_
      show Steps p.tables e below (T143.setTop (mkF m 28 #[.val (.ref a1), .val (.int p2), .val (.ref y1)] [(.int (0 : Int32)), (.ref y1), (.ref a1)])) _
      rw [← hrr, if_neg hq] at k
      exact k
  show own_G p.tables e below s _ _ _ (T143.setTop (mkF m 28 #[.val (.ref a1), .val (.int p2), .val (.ref y1)] [(.int rr), (.ref y1), (.ref a1)]))
  obtain ⟨_, _, ⟨T153, L153, k153, n153⟩, -, X153, ⟨Lc153, hQ153, l153, y153, z153⟩, st153⟩ := callSN X143 hx (y := (⟨"com/example/sumac/sumac/RedBlackTreeMap", "child", "(Lcom/example/sumac/sumac/RedBlackTreeMap$Node;Z)Lcom/example/sumac/sumac/RedBlackTreeMap$Node;"⟩ : MethodName)) hown (Cond.methodLinkNest_wide hZ (hw _ (List.mem_of_getElem? (i := 71) rfl)) :) (mvT hZ (hw _ (List.mem_of_getElem? (i := 72) rfl))) (mvT hZ (hw _ (List.mem_of_getElem? (i := 31) rfl))) (mvT hZ (hw _ (List.mem_of_getElem? (i := 73) rfl))) (by decide) (backOf (W := 1) (rmc l Z a0 hw [] y1 rr h143 n0 z150 f148 f149) hZ (hw _ (List.mem_of_getElem? (i := 73) rfl)) (hw _ (List.mem_of_getElem? (i := 31) rfl)) (by decide) (by decide)) (g := (mkF m 28 #[.val (.ref a1), .val (.int p2), .val (.ref y1)] [(.int rr), (.ref y1), (.ref a1)])) rfl (by rw [hml]; rfl) (argsL := [(.ref y1), (.int rr)]) (rest := [(.ref a1)]) (lenOf pd__Lcom_example_sumac_sumac_RedBlackTreeMap_Node_Z_Lcom_example_sumac_sumac_RedBlackTreeMap_Node_ rfl) rfl (by show 2 * 0 + _ ≤ _; exact Nat.le_of_eq rfl) (hb hby dt2_28) (fun _ _ => ⟨rfl, e143, (by decide : 0 + 0 ≤ _), (by decide : 0 + 0 ≤ _)⟩)
  dsimp only [Pt.U, Pt.locs, Pt.cells, Pt.slots] at X153 l153 y153 z153 st153 hQ153
  subst l153 y153 z153
  obtain ⟨rfl, N153q, hh153⟩ := hQ153
  have N153 := Fr.app N143 N153q
  refine own_go (fun t k => st153.trans k) ?_
  show own_G p.tables e below s _ _ _ (T153.setTop (mkF m 31 #[.val (.ref a1), .val (.int p2), .val (.ref y1)] [.null, (.ref a1)]))
  refine own_go (fun t k => XS.iloadN X153.here hx rfl (hb hby dt2_31) rfl k) ?_
  show own_G p.tables e below s _ _ _ (T153.setTop (mkF m 32 #[.val (.ref a1), .val (.int p2), .val (.ref y1)] [(.int p2), .null, (.ref a1)]))
  obtain ⟨cq154, kq154, q154a, q154b, q154c⟩ := isOf hZ hh153 f145
  obtain ⟨_, _, ⟨T154, L154, k154, n154⟩, -, X154, ⟨Lc154, hQ154, l154, y154, z154⟩, st154⟩ := X153.virtualBack hx (y := (⟨"com/example/sumac/sumac/RedBlackTreeMap$NodeStack", "pushSpine", "(Lcom/example/sumac/sumac/RedBlackTreeMap$Node;Z)V"⟩ : MethodName)) (z := (⟨"com/example/sumac/sumac/RedBlackTreeMap$NodeStack", "pushSpine", "(Lcom/example/sumac/sumac/RedBlackTreeMap$Node;Z)V"⟩ : MethodName)) hown (mvT hZ (hw _ (List.mem_of_getElem? (i := 76) rfl))) (mvT hZ (hw _ (List.mem_of_getElem? (i := 77) rfl))) (notFace_of_selects (args := #[]) (mvT hZ (hw _ (List.mem_of_getElem? (i := 79) rfl)))) (mvT hZ (hw _ (List.mem_of_getElem? (i := 79) rfl))) (mvT hZ (hw _ (List.mem_of_getElem? (i := 78) rfl))) (by decide) (backOf (W := 0) (rmu l Z a0 hw [] a1 p2 h143 n0 z150) hZ (hw _ (List.mem_of_getElem? (i := 80) rfl)) (hw _ (List.mem_of_getElem? (i := 24) rfl)) (by decide) (by decide)) q154a q154c (g := (mkF m 32 #[.val (.ref a1), .val (.int p2), .val (.ref y1)] [(.int p2), .null, (.ref a1)])) rfl (by rw [hml]; rfl) (Steps.refl _) (argsL := [.null, (.int p2)]) (rest := []) (lenOf pd__Lcom_example_sumac_sumac_RedBlackTreeMap_Node_Z_V rfl) rfl (by show 2 * 0 + _ ≤ _; exact Nat.le_of_eq rfl) (hb hby dt2_32) (fun _ _ => ⟨rfl, hh153, (by decide : 0 + 0 ≤ _), (by decide : 0 + 0 ≤ _)⟩)
  dsimp only [Pt.U, Pt.locs, Pt.cells, Pt.slots] at X154 l154 y154 z154 st154 hQ154
  subst l154 y154 z154
  obtain ⟨rfl, N154q, hh154⟩ := hQ154
  have N154 := Fr.app N153 N154q
  refine own_go (fun t k => st154.trans k) ?_
  show own_G p.tables e below s _ _ _ (T154.setTop (mkF m 35 #[.val (.ref a1), .val (.int p2), .val (.ref y1)] []))
  refine own_go (fun t k => XS.aloadN X154.here hx rfl (hb hby dt2_35) rfl rfl k) ?_
  show own_G p.tables e below s _ _ _ (T154.setTop (mkF m 36 #[.val (.ref a1), .val (.int p2), .val (.ref y1)] [(.ref y1)]))
  exact own_retA X154 hx hlk Bd.returns rfl rfl (hb hby dt2_36) (by rw [hh154]; exact ⟨rfl, N154, k151, f146, f144⟩) (by decide) (by decide)
theorem pd__I_Ljava_lang_Integer_ : parseMethodDescriptor "(I)Ljava/lang/Integer;" = some ⟨[.int], some (.object "java/lang/Integer")⟩ := by decide +kernel
theorem pd__Ljava_lang_Object_Ljava_lang_Object_Z_V : parseMethodDescriptor "(Ljava/lang/Object;Ljava/lang/Object;Z)V" = some ⟨[(.object "java/lang/Object"), (.object "java/lang/Object"), .boolean], none⟩ := by decide +kernel
theorem pd___Z : parseMethodDescriptor "()Z" = some ⟨[], some .boolean⟩ := by decide +kernel
theorem pd__Lcom_example_sumac_sumac_RedBlackTreeMap_Node__V : parseMethodDescriptor "(Lcom/example/sumac/sumac/RedBlackTreeMap$Node;)V" = some ⟨[(.object "com/example/sumac/sumac/RedBlackTreeMap$Node")], none⟩ := by decide +kernel
theorem pd___Lcom_example_sumac_sumac_RedBlackTreeMap_Node_ : parseMethodDescriptor "()Lcom/example/sumac/sumac/RedBlackTreeMap$Node;" = some ⟨[], some (.object "com/example/sumac/sumac/RedBlackTreeMap$Node")⟩ := by decide +kernel
theorem pd__Z_Lcom_example_sumac_sumac_RedBlackTreeMap_Node_ : parseMethodDescriptor "(Z)Lcom/example/sumac/sumac/RedBlackTreeMap$Node;" = some ⟨[.boolean], some (.object "com/example/sumac/sumac/RedBlackTreeMap$Node")⟩ := by decide +kernel
theorem pn_com_example_sumac_sumac_NodeStackPushPinLaw : plainName "com/example/sumac/sumac/NodeStackPushPinLaw" = true := by first | (simp [plainName, overriddenIn]; done) | decide +kernel
theorem ef_0 (m : MethodId) (x0 : Int32) (x1 : Int32) (x2 : Int32) (x3 : Int32) : entryFrame m #[(.int x0), (.int x1), (.int x2), (.int x3)] maxLocals = mkF m 0 #[.val (.int x0), .val (.int x1), .val (.int x2), .val (.int x3), .unset, .unset, .unset, .unset, .unset, .unset] [] := by first | (simp [entryFrame, mkF, argsToLocals, Value.category, maxLocals]; done) | rfl
def Q0 (Z : State) (p1 p2 p3 p4 : Int32) (ca : Addr) (cl : Cell) (h0 : Heap) (n0 : Nat) (v : Option Value) (h : Heap) (L : List Loc) : Prop := v = some (.int 1) ∧ Fr n0 L
set_option maxRecDepth 65536 in
set_option maxHeartbeats 40000000 in
theorem rm0 (l : Launch) (Z : State) (a0 : Array Value) (hw : ∀ d ∈ tables_1, d.before a0 Z = true) (ws : List Jvm.Cond) (p1 p2 p3 p4 : Int32) (ca : Addr) (cl : Cell) (h0 : Heap) (n0 : Nat) (Z0 : n0 ≤ h0.size) (O0 : Old Z n0 h0) (C0 : own_C Z Z.heap ca cl) :
    MetFree l x (head1 (Jvm.Cond.code x code maxLocals ret :: ws) room_1) (fun a U => a = #[(.int p1), (.int p2), (.int p3), (.int p4)] ∧ Z.Warmed39 U.vm ∧ U.heap = h0) (fun _ _ _ _ _ => True) (fun _ U o U' => ∃ v L, o = .returned v ∧ Q0 Z p1 p2 p3 p4 ca cl h0 n0 v U'.heap L ∧ FrameEnd U o U' L room_1.cells room_1.slots) := by
  refine MetFree.of_bodySF (plainFor_of_name pn_com_example_sumac_sumac_NodeStackPushPinLaw) hisR ?_
  intro p e s m args below meth c s₁ Bd hml0 hP hK
  obtain ⟨rfl, hZ, hh⟩ := hP
  have hx := Bd.exec
  have hby := Bd.bytes
  have hlk : meth.locks = false := BodyLoose.notSynchronized Bd
  have hml : c.maxLocals = 10 := hml0
  have hown : s.vm.findClass "com/example/sumac/sumac/NodeStackPushPinLaw" = some m.cls := findClass_of_methodNamed Bd.named
  have hnm := (name_of_methodNamed Bd.named Bd.method).1
  have X0 : Stand p l e room_1 s m #[(.int p1), (.int p2), (.int p3), (.int p4)] below meth c s₁ [] 0 0 := Stand.of_body Bd
  have e0 : s₁.heap = h0 := by rw [← hh, Bd.state]; rfl
  have N0 := Fr.nil n0
  show own_G p.tables e below s (Q0 Z p1 p2 p3 p4 ca cl h0 n0) room_1.cells room_1.slots (s₁.setTop (entryFrame m #[(.int p1), (.int p2), (.int p3), (.int p4)] maxLocals))
  refine own_go (fun t k => castTop (ef_0 m p1 p2 p3 p4) k) ?_
  show own_G p.tables e below s _ _ _ (s₁.setTop (mkF m 0 #[.val (.int p1), .val (.int p2), .val (.int p3), .val (.int p4), .unset, .unset, .unset, .unset, .unset, .unset] []))
  refine own_go (fun t k => XS.iconst X0.here hx rfl (hb hby at_0) k) ?_
  show own_G p.tables e below s _ _ _ (s₁.setTop (mkF m 1 #[.val (.int p1), .val (.int p2), .val (.int p3), .val (.int p4), .unset, .unset, .unset, .unset, .unset, .unset] [(.int (1 : Int32))]))
  refine own_go (fun t k => XS.iloadN X0.here hx rfl (hb hby at_1) rfl k) ?_
  show own_G p.tables e below s _ _ _ (s₁.setTop (mkF m 2 #[.val (.int p1), .val (.int p2), .val (.int p3), .val (.int p4), .unset, .unset, .unset, .unset, .unset, .unset] [(.int p1), (.int (1 : Int32))]))
  refine own_go (fun t k => XS.sipush X0.here hx rfl (hb hby at_2) k) ?_
  show own_G p.tables e below s _ _ _ (s₁.setTop (mkF m 5 #[.val (.int p1), .val (.int p2), .val (.int p3), .val (.int p4), .unset, .unset, .unset, .unset, .unset, .unset] [(.int (1023 : Int32)), (.int p1), (.int (1 : Int32))]))
  refine own_go (fun t k => XS.iand X0.here hx rfl (hb hby at_5) rfl k) ?_
  show own_G p.tables e below s _ _ _ (s₁.setTop (mkF m 6 #[.val (.int p1), .val (.int p2), .val (.int p3), .val (.int p4), .unset, .unset, .unset, .unset, .unset, .unset] [(.int (p1 &&& (1023 : Int32))), (.int (1 : Int32))]))
  refine own_go (fun t k => XS.iadd X0.here hx rfl (hb hby at_6) rfl k) ?_
  show own_G p.tables e below s _ _ _ (s₁.setTop (mkF m 7 #[.val (.int p1), .val (.int p2), .val (.int p3), .val (.int p4), .unset, .unset, .unset, .unset, .unset, .unset] [(.int ((1 : Int32) + (p1 &&& (1023 : Int32))))]))
  refine own_go (fun t k => XS.istore X0.here hx rfl (hb hby at_7) rfl (l' := #[.val (.int p1), .val (.int p2), .val (.int p3), .val (.int p4), .val (.int ((1 : Int32) + (p1 &&& (1023 : Int32)))), .unset, .unset, .unset, .unset, .unset]) rfl k) ?_
  show own_G p.tables e below s _ _ _ (s₁.setTop (mkF m 9 #[.val (.int p1), .val (.int p2), .val (.int p3), .val (.int p4), .val (.int ((1 : Int32) + (p1 &&& (1023 : Int32)))), .unset, .unset, .unset, .unset, .unset] []))
  obtain ⟨T155, h155, X155, e155, E155, A155, D155, -, st155⟩ := newO X0 hx hZ hown (hw _ (List.mem_of_getElem? (i := 0) rfl)) (hw _ (List.mem_of_getElem? (i := 1) rfl)) (hw _ (List.mem_of_getElem? (i := 2) rfl)) e0 (g := (mkF m 9 #[.val (.int p1), .val (.int p2), .val (.int p3), .val (.int p4), .val (.int ((1 : Int32) + (p1 &&& (1023 : Int32)))), .unset, .unset, .unset, .unset, .unset] [])) rfl (hb hby at_9) (by decide) (by decide)
  obtain ⟨b155, g155⟩ : ∃ z, z = h0.size := ⟨_, rfl⟩
  rw [← g155] at A155 D155 st155
  refine own_go st155 ?_
  have g156 := Nat.le_trans Z0 (Nat.le_of_eq g155.symm)
  have f157 := O0.ext E155
  have z158 := Nat.le_trans Z0 E155.1
  have f159 : Fld Z h155 b155 "com/example/sumac/sumac/RedBlackTreeMap$Node" "key" "Ljava/lang/Object;" .null := D155 (Or.inl (hw _ (List.mem_of_getElem? (i := 17) rfl))) (ty := (.object "java/lang/Object")) (by decide)
  have f160 : Fld Z h155 b155 "com/example/sumac/sumac/RedBlackTreeMap$Node" "value" "Ljava/lang/Object;" .null := D155 (Or.inl (hw _ (List.mem_of_getElem? (i := 19) rfl))) (ty := (.object "java/lang/Object")) (by decide)
  have f161 : Fld Z h155 b155 "com/example/sumac/sumac/RedBlackTreeMap$Node" "sizeAndColour" "I" (.int (0 : Int32)) := D155 (Or.inl (hw _ (List.mem_of_getElem? (i := 21) rfl))) (ty := .int) (by decide)
  have f162 : Fld Z h155 b155 "com/example/sumac/sumac/RedBlackTreeMap$Node" "left" "Lcom/example/sumac/sumac/RedBlackTreeMap$Node;" .null := D155 (Or.inl (hw _ (List.mem_of_getElem? (i := 75) rfl))) (ty := (.object "com/example/sumac/sumac/RedBlackTreeMap$Node")) (by decide)
  have f163 : Fld Z h155 b155 "com/example/sumac/sumac/RedBlackTreeMap$Node" "right" "Lcom/example/sumac/sumac/RedBlackTreeMap$Node;" .null := D155 (Or.inl (hw _ (List.mem_of_getElem? (i := 83) rfl))) (ty := (.object "com/example/sumac/sumac/RedBlackTreeMap$Node")) (by decide)
  show own_G p.tables e below s _ _ _ (T155.setTop (mkF m 12 #[.val (.int p1), .val (.int p2), .val (.int p3), .val (.int p4), .val (.int ((1 : Int32) + (p1 &&& (1023 : Int32)))), .unset, .unset, .unset, .unset, .unset] [(.ref b155)]))
  refine own_go (fun t k => XS.dup X155.here hx rfl (hb hby at_12) rfl rfl k) ?_
  show own_G p.tables e below s _ _ _ (T155.setTop (mkF m 13 #[.val (.int p1), .val (.int p2), .val (.int p3), .val (.int p4), .val (.int ((1 : Int32) + (p1 &&& (1023 : Int32)))), .unset, .unset, .unset, .unset, .unset] [(.ref b155), (.ref b155)]))
  refine own_go (fun t k => XS.iloadN X155.here hx rfl (hb hby at_13) rfl k) ?_
  show own_G p.tables e below s _ _ _ (T155.setTop (mkF m 14 #[.val (.int p1), .val (.int p2), .val (.int p3), .val (.int p4), .val (.int ((1 : Int32) + (p1 &&& (1023 : Int32)))), .unset, .unset, .unset, .unset, .unset] [(.int p2), (.ref b155), (.ref b155)]))
  obtain ⟨_, _, ⟨T164, L164, k164, n164⟩, -, X164, ⟨Lc164, hQ164, l164, y164, z164⟩, st164⟩ := Jvm.LawKit.callS X155 hx (y := (⟨"java/lang/Integer", "valueOf", "(I)Ljava/lang/Integer;"⟩ : MethodName)) hown (mvT hZ (hw _ (List.mem_of_getElem? (i := 3) rfl))) (mvT hZ (hw _ (List.mem_of_getElem? (i := 4) rfl))) (mvT hZ (hw _ (List.mem_of_getElem? (i := 5) rfl))) (mvT hZ (hw _ (List.mem_of_getElem? (i := 6) rfl))) (by decide) (backOf (W := 2) (rmb l Z a0 hw [] p2 ca cl h155 n0 z158 (own_C_ext f157.2 C0)) hZ (hw _ (List.mem_of_getElem? (i := 6) rfl)) (hw _ (List.mem_of_getElem? (i := 5) rfl)) (by decide) (by decide)) (g := (mkF m 14 #[.val (.int p1), .val (.int p2), .val (.int p3), .val (.int p4), .val (.int ((1 : Int32) + (p1 &&& (1023 : Int32)))), .unset, .unset, .unset, .unset, .unset] [(.int p2), (.ref b155), (.ref b155)])) rfl (by rw [hml]; rfl) (argsL := [(.int p2)]) (rest := [(.ref b155), (.ref b155)]) (lenOf pd__I_Ljava_lang_Integer_ rfl) rfl (by show 2 * 0 + _ ≤ _; exact Nat.le_of_eq rfl) (hb hby at_14) (fun _ _ => ⟨rfl, e155, (by decide : 1 + 1 ≤ _), (by decide : 5 + 1 ≤ _)⟩)
  dsimp only [Pt.U, Pt.locs, Pt.cells, Pt.slots] at X164 l164 y164 z164 st164 hQ164
  subst l164 y164 z164
  obtain ⟨⟨w164, rfl, hw164⟩, N164q, K164⟩ := hQ164
  have N164 := Fr.app N0 N164q
  refine own_go st164 ?_
  have f165 := f157.keep K164 (fun x q => nomatch q)
  have f166 := A155.keep K164
  have f167 := f159.keep K164 (fun q => nomatch q)
  have f168 := f160.keep K164 (fun q => nomatch q)
  have f169 := f161.keep K164 (fun q => nomatch q)
  have f170 := f162.keep K164 (fun q => nomatch q)
  have f171 := f163.keep K164 (fun q => nomatch q)
  have z172 := Nat.le_trans z158 K164.1
  show own_G p.tables e below s _ _ _ (T164.setTop (mkF m 17 #[.val (.int p1), .val (.int p2), .val (.int p3), .val (.int p4), .val (.int ((1 : Int32) + (p1 &&& (1023 : Int32)))), .unset, .unset, .unset, .unset, .unset] [w164, (.ref b155), (.ref b155)]))
  refine own_go (fun t k => XS.iloadN X164.here hx rfl (hb hby at_17) rfl k) ?_
  show own_G p.tables e below s _ _ _ (T164.setTop (mkF m 18 #[.val (.int p1), .val (.int p2), .val (.int p3), .val (.int p4), .val (.int ((1 : Int32) + (p1 &&& (1023 : Int32)))), .unset, .unset, .unset, .unset, .unset] [(.int p3), w164, (.ref b155), (.ref b155)]))
  obtain ⟨_, _, ⟨T173, L173, k173, n173⟩, -, X173, ⟨Lc173, hQ173, l173, y173, z173⟩, st173⟩ := Jvm.LawKit.callS X164 hx (y := (⟨"java/lang/Integer", "valueOf", "(I)Ljava/lang/Integer;"⟩ : MethodName)) hown (mvT hZ (hw _ (List.mem_of_getElem? (i := 3) rfl))) (mvT hZ (hw _ (List.mem_of_getElem? (i := 4) rfl))) (mvT hZ (hw _ (List.mem_of_getElem? (i := 5) rfl))) (mvT hZ (hw _ (List.mem_of_getElem? (i := 6) rfl))) (by decide) (backOf (W := 3) (rmb l Z a0 hw [] p3 ca cl T164.heap n0 z172 (own_C_ext f165.2 C0)) hZ (hw _ (List.mem_of_getElem? (i := 6) rfl)) (hw _ (List.mem_of_getElem? (i := 5) rfl)) (by decide) (by decide)) (g := (mkF m 18 #[.val (.int p1), .val (.int p2), .val (.int p3), .val (.int p4), .val (.int ((1 : Int32) + (p1 &&& (1023 : Int32)))), .unset, .unset, .unset, .unset, .unset] [(.int p3), w164, (.ref b155), (.ref b155)])) rfl (by rw [hml]; rfl) (argsL := [(.int p3)]) (rest := [w164, (.ref b155), (.ref b155)]) (lenOf pd__I_Ljava_lang_Integer_ rfl) rfl (by show 2 * 0 + (w164.category + (1 + (1 + 0))) ≤ _; rw [own_cat hw164]; decide) (hb hby at_18) (fun _ _ => ⟨rfl, rfl, (by decide : 2 + 1 ≤ _), (by decide : 6 + 1 ≤ _)⟩)
  dsimp only [Pt.U, Pt.locs, Pt.cells, Pt.slots] at X173 l173 y173 z173 st173 hQ173
  subst l173 y173 z173
  obtain ⟨⟨w173, rfl, hw173⟩, N173q, K173⟩ := hQ173
  have N173 := Fr.app N164 N173q
  refine own_go st173 ?_
  have f174 := f165.keep K173 (fun x q => nomatch q)
  have f175 := f166.keep K173
  have f176 := f167.keep K173 (fun q => nomatch q)
  have f177 := f168.keep K173 (fun q => nomatch q)
  have f178 := f169.keep K173 (fun q => nomatch q)
  have f179 := f170.keep K173 (fun q => nomatch q)
  have f180 := f171.keep K173 (fun q => nomatch q)
  have z181 := Nat.le_trans z172 K173.1
  show own_G p.tables e below s _ _ _ (T173.setTop (mkF m 21 #[.val (.int p1), .val (.int p2), .val (.int p3), .val (.int p4), .val (.int ((1 : Int32) + (p1 &&& (1023 : Int32)))), .unset, .unset, .unset, .unset, .unset] [w173, w164, (.ref b155), (.ref b155)]))
  refine own_go (fun t k => XS.iloadN X173.here hx rfl (hb hby at_21) rfl k) ?_
  show own_G p.tables e below s _ _ _ (T173.setTop (mkF m 22 #[.val (.int p1), .val (.int p2), .val (.int p3), .val (.int p4), .val (.int ((1 : Int32) + (p1 &&& (1023 : Int32)))), .unset, .unset, .unset, .unset, .unset] [(.int p4), w173, w164, (.ref b155), (.ref b155)]))
  refine own_go (fun t k => XS.iconst X173.here hx rfl (hb hby at_22) k) ?_
  show own_G p.tables e below s _ _ _ (T173.setTop (mkF m 23 #[.val (.int p1), .val (.int p2), .val (.int p3), .val (.int p4), .val (.int ((1 : Int32) + (p1 &&& (1023 : Int32)))), .unset, .unset, .unset, .unset, .unset] [(.int (2 : Int32)), (.int p4), w173, w164, (.ref b155), (.ref b155)]))
  refine own_go (fun t k => XS.iand X173.here hx rfl (hb hby at_23) rfl k) ?_
  show own_G p.tables e below s _ _ _ (T173.setTop (mkF m 24 #[.val (.int p1), .val (.int p2), .val (.int p3), .val (.int p4), .val (.int ((1 : Int32) + (p1 &&& (1023 : Int32)))), .unset, .unset, .unset, .unset, .unset] [(.int (p4 &&& (2 : Int32))), w173, w164, (.ref b155), (.ref b155)]))
  obtain ⟨r2, hr2, hr2'⟩ : ∃ r : Int32, r = (if (p4 &&& (2 : Int32)) = (0 : Int32) then (0 : Int32) else 1) ∧ (r = 0 ∨ r = 1) := ⟨_, rfl, by split <;> simp⟩
  refine own_go (A := (T173.setTop (mkF m 32 #[.val (.int p1), .val (.int p2), .val (.int p3), .val (.int p4), .val (.int ((1 : Int32) + (p1 &&& (1023 : Int32)))), .unset, .unset, .unset, .unset, .unset] [(.int r2), w173, w164, (.ref b155), (.ref b155)]))) (fun t k => ?_) ?_
  · show Steps p.tables e below (T173.setTop (mkF m 24 #[.val (.int p1), .val (.int p2), .val (.int p3), .val (.int p4), .val (.int ((1 : Int32) + (p1 &&& (1023 : Int32)))), .unset, .unset, .unset, .unset, .unset] [(.int (p4 &&& (2 : Int32))), w173, w164, (.ref b155), (.ref b155)])) _
    by_cases hf : (p4 &&& (2 : Int32)) = (0 : Int32)
    · refine XS.ifYes X173.here hx rfl (pc0 := 24) (pc' := 31) rfl (hb hby at_24) rfl (Jvm.Free.XT.i0_eq_t hf) (by decide) (by decide) ?_
      show Steps p.tables e below (T173.setTop (mkF m 31 #[.val (.int p1), .val (.int p2), .val (.int p3), .val (.int p4), .val (.int ((1 : Int32) + (p1 &&& (1023 : Int32)))), .unset, .unset, .unset, .unset, .unset] [w173, w164, (.ref b155), (.ref b155)])) _
      refine XS.iconst X173.here hx rfl (hb hby at_31) ?_
      show Steps p.tables e below (T173.setTop (mkF m 32 #[.val (.int p1), .val (.int p2), .val (.int p3), .val (.int p4), .val (.int ((1 : Int32) + (p1 &&& (1023 : Int32)))), .unset, .unset, .unset, .unset, .unset] [(.int (0 : Int32)), w173, w164, (.ref b155), (.ref b155)])) _
      rw [hr2, if_pos hf] at k
      exact k
    · refine XS.ifNo X173.here hx rfl (hb hby at_24) rfl (Jvm.Free.XT.i0_eq_f hf) ?_
      show Steps p.tables e below (T173.setTop (mkF m 27 #[.val (.int p1), .val (.int p2), .val (.int p3), .val (.int p4), .val (.int ((1 : Int32) + (p1 &&& (1023 : Int32)))), .unset, .unset, .unset, .unset, .unset] [w173, w164, (.ref b155), (.ref b155)])) _
      refine XS.iconst X173.here hx rfl (hb hby at_27) ?_
      show Steps p.tables e below (T173.setTop (mkF m 28 #[.val (.int p1), .val (.int p2), .val (.int p3), .val (.int p4), .val (.int ((1 : Int32) + (p1 &&& (1023 : Int32)))), .unset, .unset, .unset, .unset, .unset] [(.int (1 : Int32)), w173, w164, (.ref b155), (.ref b155)])) _
      refine XS.goto X173.here hx rfl (pc0 := 28) (pc' := 32) rfl (hb hby at_28) (by decide) (by decide) ?_
      show Steps p.tables e below (T173.setTop (mkF m 32 #[.val (.int p1), .val (.int p2), .val (.int p3), .val (.int p4), .val (.int ((1 : Int32) + (p1 &&& (1023 : Int32)))), .unset, .unset, .unset, .unset, .unset] [(.int (1 : Int32)), w173, w164, (.ref b155), (.ref b155)])) _
      rw [hr2, if_neg hf] at k
      exact k
  show own_G p.tables e below s _ _ _ (T173.setTop (mkF m 32 #[.val (.int p1), .val (.int p2), .val (.int p3), .val (.int p4), .val (.int ((1 : Int32) + (p1 &&& (1023 : Int32)))), .unset, .unset, .unset, .unset, .unset] [(.int r2), w173, w164, (.ref b155), (.ref b155)]))
  obtain ⟨_, _, ⟨T182, L182, k182, n182⟩, -, X182, ⟨Lc182, hQ182, l182, y182, z182⟩, st182⟩ := X173.specialBack hx (y := (⟨"com/example/sumac/sumac/RedBlackTreeMap$Node", "<init>", "(Ljava/lang/Object;Ljava/lang/Object;Z)V"⟩ : MethodName)) rfl hown (mvT hZ (hw _ (List.mem_of_getElem? (i := 10) rfl))) (mvT hZ (hw _ (List.mem_of_getElem? (i := 11) rfl))) (mvT hZ (hw _ (List.mem_of_getElem? (i := 12) rfl))) (by decide) (backOf (W := 1) (rmd l Z a0 hw [] b155 w164 w173 r2 T173.heap n0 z181 hw164 hw173 f175 f176 f177 f179 f180 f178 g156) hZ (hw _ (List.mem_of_getElem? (i := 12) rfl)) (hw _ (List.mem_of_getElem? (i := 2) rfl)) (by decide) (by decide)) (g := (mkF m 32 #[.val (.int p1), .val (.int p2), .val (.int p3), .val (.int p4), .val (.int ((1 : Int32) + (p1 &&& (1023 : Int32)))), .unset, .unset, .unset, .unset, .unset] [(.int r2), w173, w164, (.ref b155), (.ref b155)])) rfl (by rw [hml]; rfl) (Steps.refl _) (a := b155) (argsL := [w164, w173, (.int r2)]) (rest := [(.ref b155)]) (lenOf pd__Ljava_lang_Object_Ljava_lang_Object_Z_V rfl) rfl (by show 2 * 0 + _ ≤ _; exact Nat.le_of_eq rfl) (hb hby at_32) (fun _ _ => ⟨rfl, rfl, (by decide : 3 + 0 ≤ _), (by decide : 7 + 0 ≤ _)⟩)
  dsimp only [Pt.U, Pt.locs, Pt.cells, Pt.slots] at X182 l182 y182 z182 st182 hQ182
  subst l182 y182 z182
  obtain ⟨rfl, N182q, K182, Fl182, Fr182⟩ := hQ182
  have N182 := Fr.app N173 N182q
  refine own_go (fun t k => st182.trans k) ?_
  have f183 := f174.keep K182 (fun x => (fun q => (List.mem_cons.mp q).elim (fun e => e ▸ g156) (fun q => nomatch q)))
  have f184 := f175.keep K182
  have z185 := Nat.le_trans z181 K182.1
  show own_G p.tables e below s _ _ _ (T182.setTop (mkF m 35 #[.val (.int p1), .val (.int p2), .val (.int p3), .val (.int p4), .val (.int ((1 : Int32) + (p1 &&& (1023 : Int32)))), .unset, .unset, .unset, .unset, .unset] [(.ref b155)]))
  refine own_go (fun t k => XS.astore X182.here hx rfl (hb hby at_35) rfl rfl (l' := #[.val (.int p1), .val (.int p2), .val (.int p3), .val (.int p4), .val (.int ((1 : Int32) + (p1 &&& (1023 : Int32)))), .val (.ref b155), .unset, .unset, .unset, .unset]) rfl k) ?_
  show own_G p.tables e below s _ _ _ (T182.setTop (mkF m 37 #[.val (.int p1), .val (.int p2), .val (.int p3), .val (.int p4), .val (.int ((1 : Int32) + (p1 &&& (1023 : Int32)))), .val (.ref b155), .unset, .unset, .unset, .unset] []))
  obtain ⟨T186, h186, X186, e186, E186, A186, D186, -, st186⟩ := newO X182 hx hZ hown (hw _ (List.mem_of_getElem? (i := 0) rfl)) (hw _ (List.mem_of_getElem? (i := 1) rfl)) (hw _ (List.mem_of_getElem? (i := 2) rfl)) rfl (g := (mkF m 37 #[.val (.int p1), .val (.int p2), .val (.int p3), .val (.int p4), .val (.int ((1 : Int32) + (p1 &&& (1023 : Int32)))), .val (.ref b155), .unset, .unset, .unset, .unset] [])) rfl (hb hby at_37) (by decide) (by decide)
  obtain ⟨b186, g186⟩ : ∃ z, z = T182.heap.size := ⟨_, rfl⟩
  rw [← g186] at A186 D186 st186
  refine own_go st186 ?_
  have g187 := Nat.le_trans z185 (Nat.le_of_eq g186.symm)
  have n188 := Nat.ne_of_lt (Nat.lt_of_lt_of_le f184.lt (Nat.le_of_eq g186.symm))
  have f189 := f183.ext E186
  have f190 := Exa.ext E186 f184
  have f191 := Fld.ext E186 Fl182
  have f192 := Fld.ext E186 Fr182
  have z193 := Nat.le_trans z185 E186.1
  have f194 : Fld Z h186 b186 "com/example/sumac/sumac/RedBlackTreeMap$Node" "key" "Ljava/lang/Object;" .null := D186 (Or.inl (hw _ (List.mem_of_getElem? (i := 17) rfl))) (ty := (.object "java/lang/Object")) (by decide)
  have f195 : Fld Z h186 b186 "com/example/sumac/sumac/RedBlackTreeMap$Node" "value" "Ljava/lang/Object;" .null := D186 (Or.inl (hw _ (List.mem_of_getElem? (i := 19) rfl))) (ty := (.object "java/lang/Object")) (by decide)
  have f196 : Fld Z h186 b186 "com/example/sumac/sumac/RedBlackTreeMap$Node" "sizeAndColour" "I" (.int (0 : Int32)) := D186 (Or.inl (hw _ (List.mem_of_getElem? (i := 21) rfl))) (ty := .int) (by decide)
  have f197 : Fld Z h186 b186 "com/example/sumac/sumac/RedBlackTreeMap$Node" "left" "Lcom/example/sumac/sumac/RedBlackTreeMap$Node;" .null := D186 (Or.inl (hw _ (List.mem_of_getElem? (i := 75) rfl))) (ty := (.object "com/example/sumac/sumac/RedBlackTreeMap$Node")) (by decide)
  have f198 : Fld Z h186 b186 "com/example/sumac/sumac/RedBlackTreeMap$Node" "right" "Lcom/example/sumac/sumac/RedBlackTreeMap$Node;" .null := D186 (Or.inl (hw _ (List.mem_of_getElem? (i := 83) rfl))) (ty := (.object "com/example/sumac/sumac/RedBlackTreeMap$Node")) (by decide)
  show own_G p.tables e below s _ _ _ (T186.setTop (mkF m 40 #[.val (.int p1), .val (.int p2), .val (.int p3), .val (.int p4), .val (.int ((1 : Int32) + (p1 &&& (1023 : Int32)))), .val (.ref b155), .unset, .unset, .unset, .unset] [(.ref b186)]))
  refine own_go (fun t k => XS.dup X186.here hx rfl (hb hby at_40) rfl rfl k) ?_
  show own_G p.tables e below s _ _ _ (T186.setTop (mkF m 41 #[.val (.int p1), .val (.int p2), .val (.int p3), .val (.int p4), .val (.int ((1 : Int32) + (p1 &&& (1023 : Int32)))), .val (.ref b155), .unset, .unset, .unset, .unset] [(.ref b186), (.ref b186)]))
  refine own_go (fun t k => XS.iloadN X186.here hx rfl (hb hby at_41) rfl k) ?_
  show own_G p.tables e below s _ _ _ (T186.setTop (mkF m 42 #[.val (.int p1), .val (.int p2), .val (.int p3), .val (.int p4), .val (.int ((1 : Int32) + (p1 &&& (1023 : Int32)))), .val (.ref b155), .unset, .unset, .unset, .unset] [(.int p3), (.ref b186), (.ref b186)]))
  obtain ⟨_, _, ⟨T199, L199, k199, n199⟩, -, X199, ⟨Lc199, hQ199, l199, y199, z199⟩, st199⟩ := Jvm.LawKit.callS X186 hx (y := (⟨"java/lang/Integer", "valueOf", "(I)Ljava/lang/Integer;"⟩ : MethodName)) hown (mvT hZ (hw _ (List.mem_of_getElem? (i := 3) rfl))) (mvT hZ (hw _ (List.mem_of_getElem? (i := 4) rfl))) (mvT hZ (hw _ (List.mem_of_getElem? (i := 5) rfl))) (mvT hZ (hw _ (List.mem_of_getElem? (i := 6) rfl))) (by decide) (backOf (W := 2) (rmb l Z a0 hw [] p3 ca cl h186 n0 z193 (own_C_ext f189.2 C0)) hZ (hw _ (List.mem_of_getElem? (i := 6) rfl)) (hw _ (List.mem_of_getElem? (i := 5) rfl)) (by decide) (by decide)) (g := (mkF m 42 #[.val (.int p1), .val (.int p2), .val (.int p3), .val (.int p4), .val (.int ((1 : Int32) + (p1 &&& (1023 : Int32)))), .val (.ref b155), .unset, .unset, .unset, .unset] [(.int p3), (.ref b186), (.ref b186)])) rfl (by rw [hml]; rfl) (argsL := [(.int p3)]) (rest := [(.ref b186), (.ref b186)]) (lenOf pd__I_Ljava_lang_Integer_ rfl) rfl (by show 2 * 0 + _ ≤ _; exact Nat.le_of_eq rfl) (hb hby at_42) (fun _ _ => ⟨rfl, e186, (by decide : 4 + 1 ≤ _), (by decide : 12 + 1 ≤ _)⟩)
  dsimp only [Pt.U, Pt.locs, Pt.cells, Pt.slots] at X199 l199 y199 z199 st199 hQ199
  subst l199 y199 z199
  obtain ⟨⟨w199, rfl, hw199⟩, N199q, K199⟩ := hQ199
  have N199 := Fr.app N182 N199q
  refine own_go st199 ?_
  have f200 := f189.keep K199 (fun x q => nomatch q)
  have f201 := f190.keep K199
  have f202 := f191.keep K199 (fun q => nomatch q)
  have f203 := f192.keep K199 (fun q => nomatch q)
  have f204 := A186.keep K199
  have f205 := f194.keep K199 (fun q => nomatch q)
  have f206 := f195.keep K199 (fun q => nomatch q)
  have f207 := f196.keep K199 (fun q => nomatch q)
  have f208 := f197.keep K199 (fun q => nomatch q)
  have f209 := f198.keep K199 (fun q => nomatch q)
  have z210 := Nat.le_trans z193 K199.1
  show own_G p.tables e below s _ _ _ (T199.setTop (mkF m 45 #[.val (.int p1), .val (.int p2), .val (.int p3), .val (.int p4), .val (.int ((1 : Int32) + (p1 &&& (1023 : Int32)))), .val (.ref b155), .unset, .unset, .unset, .unset] [w199, (.ref b186), (.ref b186)]))
  refine own_go (fun t k => XS.iloadN X199.here hx rfl (hb hby at_45) rfl k) ?_
  show own_G p.tables e below s _ _ _ (T199.setTop (mkF m 46 #[.val (.int p1), .val (.int p2), .val (.int p3), .val (.int p4), .val (.int ((1 : Int32) + (p1 &&& (1023 : Int32)))), .val (.ref b155), .unset, .unset, .unset, .unset] [(.int p2), w199, (.ref b186), (.ref b186)]))
  obtain ⟨_, _, ⟨T211, L211, k211, n211⟩, -, X211, ⟨Lc211, hQ211, l211, y211, z211⟩, st211⟩ := Jvm.LawKit.callS X199 hx (y := (⟨"java/lang/Integer", "valueOf", "(I)Ljava/lang/Integer;"⟩ : MethodName)) hown (mvT hZ (hw _ (List.mem_of_getElem? (i := 3) rfl))) (mvT hZ (hw _ (List.mem_of_getElem? (i := 4) rfl))) (mvT hZ (hw _ (List.mem_of_getElem? (i := 5) rfl))) (mvT hZ (hw _ (List.mem_of_getElem? (i := 6) rfl))) (by decide) (backOf (W := 3) (rmb l Z a0 hw [] p2 ca cl T199.heap n0 z210 (own_C_ext f200.2 C0)) hZ (hw _ (List.mem_of_getElem? (i := 6) rfl)) (hw _ (List.mem_of_getElem? (i := 5) rfl)) (by decide) (by decide)) (g := (mkF m 46 #[.val (.int p1), .val (.int p2), .val (.int p3), .val (.int p4), .val (.int ((1 : Int32) + (p1 &&& (1023 : Int32)))), .val (.ref b155), .unset, .unset, .unset, .unset] [(.int p2), w199, (.ref b186), (.ref b186)])) rfl (by rw [hml]; rfl) (argsL := [(.int p2)]) (rest := [w199, (.ref b186), (.ref b186)]) (lenOf pd__I_Ljava_lang_Integer_ rfl) rfl (by show 2 * 0 + (w199.category + (1 + (1 + 0))) ≤ _; rw [own_cat hw199]; decide) (hb hby at_46) (fun _ _ => ⟨rfl, rfl, (by decide : 5 + 1 ≤ _), (by decide : 13 + 1 ≤ _)⟩)
  dsimp only [Pt.U, Pt.locs, Pt.cells, Pt.slots] at X211 l211 y211 z211 st211 hQ211
  subst l211 y211 z211
  obtain ⟨⟨w211, rfl, hw211⟩, N211q, K211⟩ := hQ211
  have N211 := Fr.app N199 N211q
  refine own_go st211 ?_
  have f212 := f200.keep K211 (fun x q => nomatch q)
  have f213 := f201.keep K211
  have f214 := f202.keep K211 (fun q => nomatch q)
  have f215 := f203.keep K211 (fun q => nomatch q)
  have f216 := f204.keep K211
  have f217 := f205.keep K211 (fun q => nomatch q)
  have f218 := f206.keep K211 (fun q => nomatch q)
  have f219 := f207.keep K211 (fun q => nomatch q)
  have f220 := f208.keep K211 (fun q => nomatch q)
  have f221 := f209.keep K211 (fun q => nomatch q)
  have z222 := Nat.le_trans z210 K211.1
  show own_G p.tables e below s _ _ _ (T211.setTop (mkF m 49 #[.val (.int p1), .val (.int p2), .val (.int p3), .val (.int p4), .val (.int ((1 : Int32) + (p1 &&& (1023 : Int32)))), .val (.ref b155), .unset, .unset, .unset, .unset] [w211, w199, (.ref b186), (.ref b186)]))
  refine own_go (fun t k => XS.iloadN X211.here hx rfl (hb hby at_49) rfl k) ?_
  show own_G p.tables e below s _ _ _ (T211.setTop (mkF m 50 #[.val (.int p1), .val (.int p2), .val (.int p3), .val (.int p4), .val (.int ((1 : Int32) + (p1 &&& (1023 : Int32)))), .val (.ref b155), .unset, .unset, .unset, .unset] [(.int p4), w211, w199, (.ref b186), (.ref b186)]))
  refine own_go (fun t k => XS.iconst X211.here hx rfl (hb hby at_50) k) ?_
  show own_G p.tables e below s _ _ _ (T211.setTop (mkF m 51 #[.val (.int p1), .val (.int p2), .val (.int p3), .val (.int p4), .val (.int ((1 : Int32) + (p1 &&& (1023 : Int32)))), .val (.ref b155), .unset, .unset, .unset, .unset] [(.int (4 : Int32)), (.int p4), w211, w199, (.ref b186), (.ref b186)]))
  refine own_go (fun t k => XS.iand X211.here hx rfl (hb hby at_51) rfl k) ?_
  show own_G p.tables e below s _ _ _ (T211.setTop (mkF m 52 #[.val (.int p1), .val (.int p2), .val (.int p3), .val (.int p4), .val (.int ((1 : Int32) + (p1 &&& (1023 : Int32)))), .val (.ref b155), .unset, .unset, .unset, .unset] [(.int (p4 &&& (4 : Int32))), w211, w199, (.ref b186), (.ref b186)]))
  obtain ⟨r4, hr4, hr4'⟩ : ∃ r : Int32, r = (if (p4 &&& (4 : Int32)) = (0 : Int32) then (0 : Int32) else 1) ∧ (r = 0 ∨ r = 1) := ⟨_, rfl, by split <;> simp⟩
  refine own_go (A := (T211.setTop (mkF m 60 #[.val (.int p1), .val (.int p2), .val (.int p3), .val (.int p4), .val (.int ((1 : Int32) + (p1 &&& (1023 : Int32)))), .val (.ref b155), .unset, .unset, .unset, .unset] [(.int r4), w211, w199, (.ref b186), (.ref b186)]))) (fun t k => ?_) ?_
  · show Steps p.tables e below (T211.setTop (mkF m 52 #[.val (.int p1), .val (.int p2), .val (.int p3), .val (.int p4), .val (.int ((1 : Int32) + (p1 &&& (1023 : Int32)))), .val (.ref b155), .unset, .unset, .unset, .unset] [(.int (p4 &&& (4 : Int32))), w211, w199, (.ref b186), (.ref b186)])) _
    by_cases hf : (p4 &&& (4 : Int32)) = (0 : Int32)
    · refine XS.ifYes X211.here hx rfl (pc0 := 52) (pc' := 59) rfl (hb hby at_52) rfl (Jvm.Free.XT.i0_eq_t hf) (by decide) (by decide) ?_
      show Steps p.tables e below (T211.setTop (mkF m 59 #[.val (.int p1), .val (.int p2), .val (.int p3), .val (.int p4), .val (.int ((1 : Int32) + (p1 &&& (1023 : Int32)))), .val (.ref b155), .unset, .unset, .unset, .unset] [w211, w199, (.ref b186), (.ref b186)])) _
      refine XS.iconst X211.here hx rfl (hb hby at_59) ?_
      show Steps p.tables e below (T211.setTop (mkF m 60 #[.val (.int p1), .val (.int p2), .val (.int p3), .val (.int p4), .val (.int ((1 : Int32) + (p1 &&& (1023 : Int32)))), .val (.ref b155), .unset, .unset, .unset, .unset] [(.int (0 : Int32)), w211, w199, (.ref b186), (.ref b186)])) _
      rw [hr4, if_pos hf] at k
      exact k
    · refine XS.ifNo X211.here hx rfl (hb hby at_52) rfl (Jvm.Free.XT.i0_eq_f hf) ?_
      show Steps p.tables e below (T211.setTop (mkF m 55 #[.val (.int p1), .val (.int p2), .val (.int p3), .val (.int p4), .val (.int ((1 : Int32) + (p1 &&& (1023 : Int32)))), .val (.ref b155), .unset, .unset, .unset, .unset] [w211, w199, (.ref b186), (.ref b186)])) _
      refine XS.iconst X211.here hx rfl (hb hby at_55) ?_
      show Steps p.tables e below (T211.setTop (mkF m 56 #[.val (.int p1), .val (.int p2), .val (.int p3), .val (.int p4), .val (.int ((1 : Int32) + (p1 &&& (1023 : Int32)))), .val (.ref b155), .unset, .unset, .unset, .unset] [(.int (1 : Int32)), w211, w199, (.ref b186), (.ref b186)])) _
      refine XS.goto X211.here hx rfl (pc0 := 56) (pc' := 60) rfl (hb hby at_56) (by decide) (by decide) ?_
      show Steps p.tables e below (T211.setTop (mkF m 60 #[.val (.int p1), .val (.int p2), .val (.int p3), .val (.int p4), .val (.int ((1 : Int32) + (p1 &&& (1023 : Int32)))), .val (.ref b155), .unset, .unset, .unset, .unset] [(.int (1 : Int32)), w211, w199, (.ref b186), (.ref b186)])) _
      rw [hr4, if_neg hf] at k
      exact k
  show own_G p.tables e below s _ _ _ (T211.setTop (mkF m 60 #[.val (.int p1), .val (.int p2), .val (.int p3), .val (.int p4), .val (.int ((1 : Int32) + (p1 &&& (1023 : Int32)))), .val (.ref b155), .unset, .unset, .unset, .unset] [(.int r4), w211, w199, (.ref b186), (.ref b186)]))
  obtain ⟨_, _, ⟨T223, L223, k223, n223⟩, -, X223, ⟨Lc223, hQ223, l223, y223, z223⟩, st223⟩ := X211.specialBack hx (y := (⟨"com/example/sumac/sumac/RedBlackTreeMap$Node", "<init>", "(Ljava/lang/Object;Ljava/lang/Object;Z)V"⟩ : MethodName)) rfl hown (mvT hZ (hw _ (List.mem_of_getElem? (i := 10) rfl))) (mvT hZ (hw _ (List.mem_of_getElem? (i := 11) rfl))) (mvT hZ (hw _ (List.mem_of_getElem? (i := 12) rfl))) (by decide) (backOf (W := 1) (rmd l Z a0 hw [] b186 w199 w211 r4 T211.heap n0 z222 hw199 hw211 f216 f217 f218 f220 f221 f219 g187) hZ (hw _ (List.mem_of_getElem? (i := 12) rfl)) (hw _ (List.mem_of_getElem? (i := 2) rfl)) (by decide) (by decide)) (g := (mkF m 60 #[.val (.int p1), .val (.int p2), .val (.int p3), .val (.int p4), .val (.int ((1 : Int32) + (p1 &&& (1023 : Int32)))), .val (.ref b155), .unset, .unset, .unset, .unset] [(.int r4), w211, w199, (.ref b186), (.ref b186)])) rfl (by rw [hml]; rfl) (Steps.refl _) (a := b186) (argsL := [w199, w211, (.int r4)]) (rest := [(.ref b186)]) (lenOf pd__Ljava_lang_Object_Ljava_lang_Object_Z_V rfl) rfl (by show 2 * 0 + _ ≤ _; exact Nat.le_of_eq rfl) (hb hby at_60) (fun _ _ => ⟨rfl, rfl, (by decide : 6 + 0 ≤ _), (by decide : 14 + 0 ≤ _)⟩)
  dsimp only [Pt.U, Pt.locs, Pt.cells, Pt.slots] at X223 l223 y223 z223 st223 hQ223
  subst l223 y223 z223
  obtain ⟨rfl, N223q, K223, Fl223, Fr223⟩ := hQ223
  have N223 := Fr.app N211 N223q
  refine own_go (fun t k => st223.trans k) ?_
  have f224 := f212.keep K223 (fun x => (fun q => (List.mem_cons.mp q).elim (fun e => e ▸ g187) (fun q => nomatch q)))
  have f225 := f213.keep K223
  have f226 := f214.keep K223 (fun q => (List.mem_cons.mp q).elim n188 (fun q => nomatch q))
  have f227 := f215.keep K223 (fun q => (List.mem_cons.mp q).elim n188 (fun q => nomatch q))
  have f228 := f216.keep K223
  have z229 := Nat.le_trans z222 K223.1
  show own_G p.tables e below s _ _ _ (T223.setTop (mkF m 63 #[.val (.int p1), .val (.int p2), .val (.int p3), .val (.int p4), .val (.int ((1 : Int32) + (p1 &&& (1023 : Int32)))), .val (.ref b155), .unset, .unset, .unset, .unset] [(.ref b186)]))
  refine own_go (fun t k => XS.astore X223.here hx rfl (hb hby at_63) rfl rfl (l' := #[.val (.int p1), .val (.int p2), .val (.int p3), .val (.int p4), .val (.int ((1 : Int32) + (p1 &&& (1023 : Int32)))), .val (.ref b155), .val (.ref b186), .unset, .unset, .unset]) rfl k) ?_
  show own_G p.tables e below s _ _ _ (T223.setTop (mkF m 65 #[.val (.int p1), .val (.int p2), .val (.int p3), .val (.int p4), .val (.int ((1 : Int32) + (p1 &&& (1023 : Int32)))), .val (.ref b155), .val (.ref b186), .unset, .unset, .unset] []))
  obtain ⟨T230, h230, X230, e230, E230, A230, D230, -, st230⟩ := newO X223 hx hZ hown (hw _ (List.mem_of_getElem? (i := 22) rfl)) (hw _ (List.mem_of_getElem? (i := 23) rfl)) (hw _ (List.mem_of_getElem? (i := 24) rfl)) rfl (g := (mkF m 65 #[.val (.int p1), .val (.int p2), .val (.int p3), .val (.int p4), .val (.int ((1 : Int32) + (p1 &&& (1023 : Int32)))), .val (.ref b155), .val (.ref b186), .unset, .unset, .unset] [])) rfl (hb hby at_65) (by decide) (by decide)
  obtain ⟨b230, g230⟩ : ∃ z, z = T223.heap.size := ⟨_, rfl⟩
  rw [← g230] at A230 D230 st230
  refine own_go st230 ?_
  have g231 := Nat.le_trans z229 (Nat.le_of_eq g230.symm)
  have n232 := Nat.ne_of_lt (Nat.lt_of_lt_of_le f225.lt (Nat.le_of_eq g230.symm))
  have n233 := Nat.ne_of_lt (Nat.lt_of_lt_of_le f228.lt (Nat.le_of_eq g230.symm))
  have f234 := f224.ext E230
  have f235 := Exa.ext E230 f225
  have f236 := Fld.ext E230 f226
  have f237 := Fld.ext E230 f227
  have f238 := Exa.ext E230 f228
  have f239 := Fld.ext E230 Fl223
  have f240 := Fld.ext E230 Fr223
  have z241 := Nat.le_trans z229 E230.1
  have f242 : Fld Z h230 b230 "com/example/sumac/sumac/RedBlackTreeMap$NodeStack" "nodes" "[Lcom/example/sumac/sumac/RedBlackTreeMap$Node;" .null := D230 (Or.inr (hw _ (List.mem_of_getElem? (i := 47) rfl))) (ty := (.array (.object "com/example/sumac/sumac/RedBlackTreeMap$Node"))) (by decide)
  have f243 : Fld Z h230 b230 "com/example/sumac/sumac/RedBlackTreeMap$NodeStack" "depth" "I" (.int (0 : Int32)) := D230 (Or.inl (hw _ (List.mem_of_getElem? (i := 54) rfl))) (ty := .int) (by decide)
  show own_G p.tables e below s _ _ _ (T230.setTop (mkF m 68 #[.val (.int p1), .val (.int p2), .val (.int p3), .val (.int p4), .val (.int ((1 : Int32) + (p1 &&& (1023 : Int32)))), .val (.ref b155), .val (.ref b186), .unset, .unset, .unset] [(.ref b230)]))
  refine own_go (fun t k => XS.dup X230.here hx rfl (hb hby at_68) rfl rfl k) ?_
  show own_G p.tables e below s _ _ _ (T230.setTop (mkF m 69 #[.val (.int p1), .val (.int p2), .val (.int p3), .val (.int p4), .val (.int ((1 : Int32) + (p1 &&& (1023 : Int32)))), .val (.ref b155), .val (.ref b186), .unset, .unset, .unset] [(.ref b230), (.ref b230)]))
  refine own_go (fun t k => XS.iload X230.here hx rfl (hb hby at_69) rfl k) ?_
  show own_G p.tables e below s _ _ _ (T230.setTop (mkF m 71 #[.val (.int p1), .val (.int p2), .val (.int p3), .val (.int p4), .val (.int ((1 : Int32) + (p1 &&& (1023 : Int32)))), .val (.ref b155), .val (.ref b186), .unset, .unset, .unset] [(.int ((1 : Int32) + (p1 &&& (1023 : Int32)))), (.ref b230), (.ref b230)]))
  obtain ⟨hf1, hf2, hf3, hf4⟩ := own_facts p1
  obtain ⟨hz1, hz0, hz2⟩ := own_z hf3 hf4
  obtain ⟨_, _, ⟨T244, L244, k244, n244⟩, -, X244, ⟨Lc244, hQ244, l244, y244, z244⟩, st244⟩ := X230.specialBack hx (y := (⟨"com/example/sumac/sumac/RedBlackTreeMap$NodeStack", "<init>", "(I)V"⟩ : MethodName)) rfl hown (mvT hZ (hw _ (List.mem_of_getElem? (i := 25) rfl))) (mvT hZ (hw _ (List.mem_of_getElem? (i := 26) rfl))) (mvT hZ (hw _ (List.mem_of_getElem? (i := 27) rfl))) (by decide) (backOf (W := 1) (rms l Z a0 hw [] b230 ((1 : Int32) + (p1 &&& (1023 : Int32))) h230 n0 z241 hf1 hf2 hz1 hz2 A230 f242 f243 g231) hZ (hw _ (List.mem_of_getElem? (i := 27) rfl)) (hw _ (List.mem_of_getElem? (i := 24) rfl)) (by decide) (by decide)) (g := (mkF m 71 #[.val (.int p1), .val (.int p2), .val (.int p3), .val (.int p4), .val (.int ((1 : Int32) + (p1 &&& (1023 : Int32)))), .val (.ref b155), .val (.ref b186), .unset, .unset, .unset] [(.int ((1 : Int32) + (p1 &&& (1023 : Int32)))), (.ref b230), (.ref b230)])) rfl (by rw [hml]; rfl) (Steps.refl _) (a := b230) (argsL := [(.int ((1 : Int32) + (p1 &&& (1023 : Int32))))]) (rest := [(.ref b230)]) (lenOf pd__I_V rfl) rfl (by show 2 * 0 + _ ≤ _; exact Nat.le_of_eq rfl) (hb hby at_71) (fun _ _ => ⟨rfl, e230, (by decide : 7 + 1 ≤ _), (by decide : 16 + 22 ≤ _)⟩)
  dsimp only [Pt.U, Pt.locs, Pt.cells, Pt.slots] at X244 l244 y244 z244 st244 hQ244
  subst l244 y244 z244
  obtain ⟨rfl, N244q, K244, na, k1, szn, Fn244, Fd244, Vn244, On⟩ := hQ244
  have N244 := Fr.app N223 N244q
  refine own_go (fun t k => st244.trans k) ?_
  have f245 := f234.keep K244 (fun x => (fun q => (List.mem_cons.mp q).elim (fun e => e ▸ g231) (fun q => nomatch q)))
  have f246 := f235.keep K244
  have f247 := f236.keep K244 (fun q => (List.mem_cons.mp q).elim n232 (fun q => nomatch q))
  have f248 := f237.keep K244 (fun q => (List.mem_cons.mp q).elim n232 (fun q => nomatch q))
  have f249 := f238.keep K244
  have f250 := f239.keep K244 (fun q => (List.mem_cons.mp q).elim n233 (fun q => nomatch q))
  have f251 := f240.keep K244 (fun q => (List.mem_cons.mp q).elim n233 (fun q => nomatch q))
  have f252 := A230.keep K244
  have z253 := Nat.le_trans z241 K244.1
  show own_G p.tables e below s _ _ _ (T244.setTop (mkF m 74 #[.val (.int p1), .val (.int p2), .val (.int p3), .val (.int p4), .val (.int ((1 : Int32) + (p1 &&& (1023 : Int32)))), .val (.ref b155), .val (.ref b186), .unset, .unset, .unset] [(.ref b230)]))
  have gna : n0 ≤ na := Nat.le_trans z241 szn
  have ne_b155 : b155 ≠ na := Nat.ne_of_lt (Nat.lt_of_lt_of_le f235.lt szn)
  have ne_b186 : b186 ≠ na := Nat.ne_of_lt (Nat.lt_of_lt_of_le f238.lt szn)
  have ne_b230 : b230 ≠ na := Nat.ne_of_lt (Nat.lt_of_lt_of_le A230.lt szn)
  have V0 : Arv Z T244.heap na k1 (.object "com/example/sumac/sumac/RedBlackTreeMap$Node") (own_ht (p1 &&& (1023 : Int32))) [.null, .null] .null := Vn244.pad (pad_rep [] .null 2)
  refine own_go (fun t k => XS.astore X244.here hx rfl (hb hby at_74) rfl rfl (l' := #[.val (.int p1), .val (.int p2), .val (.int p3), .val (.int p4), .val (.int ((1 : Int32) + (p1 &&& (1023 : Int32)))), .val (.ref b155), .val (.ref b186), .val (.ref b230), .unset, .unset]) rfl k) ?_
  show own_G p.tables e below s _ _ _ (T244.setTop (mkF m 76 #[.val (.int p1), .val (.int p2), .val (.int p3), .val (.int p4), .val (.int ((1 : Int32) + (p1 &&& (1023 : Int32)))), .val (.ref b155), .val (.ref b186), .val (.ref b230), .unset, .unset] []))
  refine own_go (fun t k => XS.iloadN X244.here hx rfl (hb hby at_76) rfl k) ?_
  show own_G p.tables e below s _ _ _ (T244.setTop (mkF m 77 #[.val (.int p1), .val (.int p2), .val (.int p3), .val (.int p4), .val (.int ((1 : Int32) + (p1 &&& (1023 : Int32)))), .val (.ref b155), .val (.ref b186), .val (.ref b230), .unset, .unset] [(.int p4)]))
  refine own_go (fun t k => XS.iconst X244.here hx rfl (hb hby at_77) k) ?_
  show own_G p.tables e below s _ _ _ (T244.setTop (mkF m 78 #[.val (.int p1), .val (.int p2), .val (.int p3), .val (.int p4), .val (.int ((1 : Int32) + (p1 &&& (1023 : Int32)))), .val (.ref b155), .val (.ref b186), .val (.ref b230), .unset, .unset] [(.int (1 : Int32)), (.int p4)]))
  refine own_go (fun t k => XS.iand X244.here hx rfl (hb hby at_78) rfl k) ?_
  show own_G p.tables e below s _ _ _ (T244.setTop (mkF m 79 #[.val (.int p1), .val (.int p2), .val (.int p3), .val (.int p4), .val (.int ((1 : Int32) + (p1 &&& (1023 : Int32)))), .val (.ref b155), .val (.ref b186), .val (.ref b230), .unset, .unset] [(.int (p4 &&& (1 : Int32)))]))
  obtain ⟨r1, hr1, hr1'⟩ : ∃ r : Int32, r = (if (p4 &&& (1 : Int32)) = (0 : Int32) then (0 : Int32) else 1) ∧ (r = 0 ∨ r = 1) := ⟨_, rfl, by split <;> simp⟩
  refine own_go (A := (T244.setTop (mkF m 87 #[.val (.int p1), .val (.int p2), .val (.int p3), .val (.int p4), .val (.int ((1 : Int32) + (p1 &&& (1023 : Int32)))), .val (.ref b155), .val (.ref b186), .val (.ref b230), .unset, .unset] [(.int r1)]))) (fun t k => ?_) ?_
  · show Steps p.tables e below (T244.setTop (mkF m 79 #[.val (.int p1), .val (.int p2), .val (.int p3), .val (.int p4), .val (.int ((1 : Int32) + (p1 &&& (1023 : Int32)))), .val (.ref b155), .val (.ref b186), .val (.ref b230), .unset, .unset] [(.int (p4 &&& (1 : Int32)))])) _
    by_cases hf : (p4 &&& (1 : Int32)) = (0 : Int32)
    · refine XS.ifYes X244.here hx rfl (pc0 := 79) (pc' := 86) rfl (hb hby at_79) rfl (Jvm.Free.XT.i0_eq_t hf) (by decide) (by decide) ?_
      show Steps p.tables e below (T244.setTop (mkF m 86 #[.val (.int p1), .val (.int p2), .val (.int p3), .val (.int p4), .val (.int ((1 : Int32) + (p1 &&& (1023 : Int32)))), .val (.ref b155), .val (.ref b186), .val (.ref b230), .unset, .unset] [])) _
      refine XS.iconst X244.here hx rfl (hb hby at_86) ?_
      show Steps p.tables e below (T244.setTop (mkF m 87 #[.val (.int p1), .val (.int p2), .val (.int p3), .val (.int p4), .val (.int ((1 : Int32) + (p1 &&& (1023 : Int32)))), .val (.ref b155), .val (.ref b186), .val (.ref b230), .unset, .unset] [(.int (0 : Int32))])) _
      rw [hr1, if_pos hf] at k
      exact k
    · refine XS.ifNo X244.here hx rfl (hb hby at_79) rfl (Jvm.Free.XT.i0_eq_f hf) ?_
      show Steps p.tables e below (T244.setTop (mkF m 82 #[.val (.int p1), .val (.int p2), .val (.int p3), .val (.int p4), .val (.int ((1 : Int32) + (p1 &&& (1023 : Int32)))), .val (.ref b155), .val (.ref b186), .val (.ref b230), .unset, .unset] [])) _
      refine XS.iconst X244.here hx rfl (hb hby at_82) ?_
      show Steps p.tables e below (T244.setTop (mkF m 83 #[.val (.int p1), .val (.int p2), .val (.int p3), .val (.int p4), .val (.int ((1 : Int32) + (p1 &&& (1023 : Int32)))), .val (.ref b155), .val (.ref b186), .val (.ref b230), .unset, .unset] [(.int (1 : Int32))])) _
      refine XS.goto X244.here hx rfl (pc0 := 83) (pc' := 87) rfl (hb hby at_83) (by decide) (by decide) ?_
      show Steps p.tables e below (T244.setTop (mkF m 87 #[.val (.int p1), .val (.int p2), .val (.int p3), .val (.int p4), .val (.int ((1 : Int32) + (p1 &&& (1023 : Int32)))), .val (.ref b155), .val (.ref b186), .val (.ref b230), .unset, .unset] [(.int (1 : Int32))])) _
      rw [hr1, if_neg hf] at k
      exact k
  show own_G p.tables e below s _ _ _ (T244.setTop (mkF m 87 #[.val (.int p1), .val (.int p2), .val (.int p3), .val (.int p4), .val (.int ((1 : Int32) + (p1 &&& (1023 : Int32)))), .val (.ref b155), .val (.ref b186), .val (.ref b230), .unset, .unset] [(.int r1)]))
  refine own_go (fun t k => XS.istore X244.here hx rfl (hb hby at_87) rfl (l' := #[.val (.int p1), .val (.int p2), .val (.int p3), .val (.int p4), .val (.int ((1 : Int32) + (p1 &&& (1023 : Int32)))), .val (.ref b155), .val (.ref b186), .val (.ref b230), .val (.int r1), .unset]) rfl k) ?_
  show own_G p.tables e below s _ _ _ (T244.setTop (mkF m 89 #[.val (.int p1), .val (.int p2), .val (.int p3), .val (.int p4), .val (.int ((1 : Int32) + (p1 &&& (1023 : Int32)))), .val (.ref b155), .val (.ref b186), .val (.ref b230), .val (.int r1), .unset] []))
  refine own_go (fun t k => XS.aload X244.here hx rfl (hb hby at_89) rfl rfl k) ?_
  show own_G p.tables e below s _ _ _ (T244.setTop (mkF m 91 #[.val (.int p1), .val (.int p2), .val (.int p3), .val (.int p4), .val (.int ((1 : Int32) + (p1 &&& (1023 : Int32)))), .val (.ref b155), .val (.ref b186), .val (.ref b230), .val (.int r1), .unset] [(.ref b230)]))
  obtain ⟨cq254, kq254, q254a, q254b, q254c⟩ := isOf hZ rfl f252
  obtain ⟨_, _, ⟨T254, L254, k254, n254⟩, -, X254, ⟨Lc254, hQ254, l254, y254, z254⟩, st254⟩ := X244.virtualBack hx (y := (⟨"com/example/sumac/sumac/RedBlackTreeMap$NodeStack", "isEmpty", "()Z"⟩ : MethodName)) (z := (⟨"com/example/sumac/sumac/RedBlackTreeMap$NodeStack", "isEmpty", "()Z"⟩ : MethodName)) hown (mvT hZ (hw _ (List.mem_of_getElem? (i := 48) rfl))) (mvT hZ (hw _ (List.mem_of_getElem? (i := 49) rfl))) (notFace_of_selects (args := #[]) (mvT hZ (hw _ (List.mem_of_getElem? (i := 51) rfl)))) (mvT hZ (hw _ (List.mem_of_getElem? (i := 51) rfl))) (mvT hZ (hw _ (List.mem_of_getElem? (i := 50) rfl))) (by decide) (backOf (W := 0) (rme l Z a0 hw [] b230 (0 : Int32) (1 : Int32) T244.heap n0 z253 Fd244 (by decide)) hZ (hw _ (List.mem_of_getElem? (i := 52) rfl)) (hw _ (List.mem_of_getElem? (i := 24) rfl)) (by decide) (by decide)) q254a q254c (g := (mkF m 91 #[.val (.int p1), .val (.int p2), .val (.int p3), .val (.int p4), .val (.int ((1 : Int32) + (p1 &&& (1023 : Int32)))), .val (.ref b155), .val (.ref b186), .val (.ref b230), .val (.int r1), .unset] [(.ref b230)])) rfl (by rw [hml]; rfl) (Steps.refl _) (argsL := []) (rest := []) (lenOf pd___Z rfl) rfl (by show 2 * 0 + _ ≤ _; exact Nat.le_of_eq rfl) (hb hby at_91) (fun _ _ => ⟨rfl, rfl, (by decide : 8 + 0 ≤ _), (by decide : 38 + 0 ≤ _)⟩)
  dsimp only [Pt.U, Pt.locs, Pt.cells, Pt.slots] at X254 l254 y254 z254 st254 hQ254
  subst l254 y254 z254
  obtain ⟨rfl, N254q, hh254⟩ := hQ254
  have N254 := Fr.app N244 N254q
  refine own_go (fun t k => st254.trans k) ?_
  show own_G p.tables e below s _ _ _ (T254.setTop (mkF m 94 #[.val (.int p1), .val (.int p2), .val (.int p3), .val (.int p4), .val (.int ((1 : Int32) + (p1 &&& (1023 : Int32)))), .val (.ref b155), .val (.ref b186), .val (.ref b230), .val (.int r1), .unset] [(.int (1 : Int32))]))
  refine own_go (fun t k => XS.ifYes X254.here hx rfl (pc0 := 94) (pc' := 99) rfl (hb hby at_94) rfl (by decide) (by decide) (by decide) k) ?_
  show own_G p.tables e below s _ _ _ (T254.setTop (mkF m 99 #[.val (.int p1), .val (.int p2), .val (.int p3), .val (.int p4), .val (.int ((1 : Int32) + (p1 &&& (1023 : Int32)))), .val (.ref b155), .val (.ref b186), .val (.ref b230), .val (.int r1), .unset] []))
  refine own_go (fun t k => XS.iload X254.here hx rfl (hb hby at_99) rfl k) ?_
  show own_G p.tables e below s _ _ _ (T254.setTop (mkF m 101 #[.val (.int p1), .val (.int p2), .val (.int p3), .val (.int p4), .val (.int ((1 : Int32) + (p1 &&& (1023 : Int32)))), .val (.ref b155), .val (.ref b186), .val (.ref b230), .val (.int r1), .unset] [(.int r1)]))
  rcases hr1' with rfl | rfl
  · show own_G p.tables e below s _ _ _ (T254.setTop (mkF m 101 #[.val (.int p1), .val (.int p2), .val (.int p3), .val (.int p4), .val (.int ((1 : Int32) + (p1 &&& (1023 : Int32)))), .val (.ref b155), .val (.ref b186), .val (.ref b230), .val (.int (0 : Int32)), .unset] [(.int (0 : Int32))]))
    refine own_go (fun t k => XS.ifYes X254.here hx rfl (pc0 := 101) (pc' := 111) rfl (hb hby at_101) rfl (by decide) (by decide) (by decide) k) ?_
    show own_G p.tables e below s _ _ _ (T254.setTop (mkF m 111 #[.val (.int p1), .val (.int p2), .val (.int p3), .val (.int p4), .val (.int ((1 : Int32) + (p1 &&& (1023 : Int32)))), .val (.ref b155), .val (.ref b186), .val (.ref b230), .val (.int (0 : Int32)), .unset] []))
    refine own_go (fun t k => XS.aload X254.here hx rfl (hb hby at_111) rfl rfl k) ?_
    show own_G p.tables e below s _ _ _ (T254.setTop (mkF m 113 #[.val (.int p1), .val (.int p2), .val (.int p3), .val (.int p4), .val (.int ((1 : Int32) + (p1 &&& (1023 : Int32)))), .val (.ref b155), .val (.ref b186), .val (.ref b230), .val (.int (0 : Int32)), .unset] [(.ref b230)]))
    refine own_go (fun t k => XS.aload X254.here hx rfl (hb hby at_113) rfl rfl k) ?_
    show own_G p.tables e below s _ _ _ (T254.setTop (mkF m 115 #[.val (.int p1), .val (.int p2), .val (.int p3), .val (.int p4), .val (.int ((1 : Int32) + (p1 &&& (1023 : Int32)))), .val (.ref b155), .val (.ref b186), .val (.ref b230), .val (.int (0 : Int32)), .unset] [(.ref b186), (.ref b230)]))
    obtain ⟨cq255, kq255, q255a, q255b, q255c⟩ := isOf hZ hh254 f252
    obtain ⟨_, _, ⟨T255, L255, k255, n255⟩, -, X255, ⟨Lc255, hQ255, l255, y255, z255⟩, st255⟩ := X254.virtualBack hx (y := (⟨"com/example/sumac/sumac/RedBlackTreeMap$NodeStack", "push", "(Lcom/example/sumac/sumac/RedBlackTreeMap$Node;)V"⟩ : MethodName)) (z := (⟨"com/example/sumac/sumac/RedBlackTreeMap$NodeStack", "push", "(Lcom/example/sumac/sumac/RedBlackTreeMap$Node;)V"⟩ : MethodName)) hown (mvT hZ (hw _ (List.mem_of_getElem? (i := 55) rfl))) (mvT hZ (hw _ (List.mem_of_getElem? (i := 56) rfl))) (notFace_of_selects (args := #[]) (mvT hZ (hw _ (List.mem_of_getElem? (i := 58) rfl)))) (mvT hZ (hw _ (List.mem_of_getElem? (i := 58) rfl))) (mvT hZ (hw _ (List.mem_of_getElem? (i := 57) rfl))) (by decide) (backOf (W := 0) (rmp0 l Z a0 hw [] b230 b186 na k1 (own_ht (p1 &&& (1023 : Int32))) T244.heap n0 z253 f252 Fn244 Fd244 V0 ne_b230 g231 gna hf3 f249 On) hZ (hw _ (List.mem_of_getElem? (i := 59) rfl)) (hw _ (List.mem_of_getElem? (i := 24) rfl)) (by decide) (by decide)) q255a q255c (g := (mkF m 115 #[.val (.int p1), .val (.int p2), .val (.int p3), .val (.int p4), .val (.int ((1 : Int32) + (p1 &&& (1023 : Int32)))), .val (.ref b155), .val (.ref b186), .val (.ref b230), .val (.int (0 : Int32)), .unset] [(.ref b186), (.ref b230)])) rfl (by rw [hml]; rfl) (Steps.refl _) (argsL := [(.ref b186)]) (rest := []) (lenOf pd__Lcom_example_sumac_sumac_RedBlackTreeMap_Node__V rfl) rfl (by show 2 * 0 + _ ≤ _; exact Nat.le_of_eq rfl) (hb hby at_115) (fun _ _ => ⟨rfl, hh254, (by decide : 8 + 0 ≤ _), (by decide : 38 + 0 ≤ _)⟩)
    dsimp only [Pt.U, Pt.locs, Pt.cells, Pt.slots] at X255 l255 y255 z255 st255 hQ255
    subst l255 y255 z255
    obtain ⟨rfl, N255q, K255, Fn255, Fd255, Vn255⟩ := hQ255
    have N255 := Fr.app N254 N255q
    refine own_go (fun t k => st255.trans k) ?_
    have f256 := f245.keep K255 (fun x => (fun q => (List.mem_cons.mp q).elim (fun e => e ▸ g231) (fun q => (List.mem_cons.mp q).elim (fun e => e ▸ gna) (fun q => nomatch q))))
    have f257 := f246.keep K255
    have f258 := f247.keep K255 (fun q => (List.mem_cons.mp q).elim n232 (fun q => (List.mem_cons.mp q).elim ne_b155 (fun q => nomatch q)))
    have f259 := f248.keep K255 (fun q => (List.mem_cons.mp q).elim n232 (fun q => (List.mem_cons.mp q).elim ne_b155 (fun q => nomatch q)))
    have f260 := f249.keep K255
    have f261 := f250.keep K255 (fun q => (List.mem_cons.mp q).elim n233 (fun q => (List.mem_cons.mp q).elim ne_b186 (fun q => nomatch q)))
    have f262 := f251.keep K255 (fun q => (List.mem_cons.mp q).elim n233 (fun q => (List.mem_cons.mp q).elim ne_b186 (fun q => nomatch q)))
    have f263 := f252.keep K255
    have z264 := Nat.le_trans z253 K255.1
    show own_G p.tables e below s _ _ _ (T255.setTop (mkF m 118 #[.val (.int p1), .val (.int p2), .val (.int p3), .val (.int p4), .val (.int ((1 : Int32) + (p1 &&& (1023 : Int32)))), .val (.ref b155), .val (.ref b186), .val (.ref b230), .val (.int (0 : Int32)), .unset] []))
    refine own_go (fun t k => XS.aload X255.here hx rfl (hb hby at_118) rfl rfl k) ?_
    show own_G p.tables e below s _ _ _ (T255.setTop (mkF m 120 #[.val (.int p1), .val (.int p2), .val (.int p3), .val (.int p4), .val (.int ((1 : Int32) + (p1 &&& (1023 : Int32)))), .val (.ref b155), .val (.ref b186), .val (.ref b230), .val (.int (0 : Int32)), .unset] [(.ref b230)]))
    obtain ⟨cq265, kq265, q265a, q265b, q265c⟩ := isOf hZ rfl f263
    obtain ⟨_, _, ⟨T265, L265, k265, n265⟩, -, X265, ⟨Lc265, hQ265, l265, y265, z265⟩, st265⟩ := X255.virtualBack hx (y := (⟨"com/example/sumac/sumac/RedBlackTreeMap$NodeStack", "isEmpty", "()Z"⟩ : MethodName)) (z := (⟨"com/example/sumac/sumac/RedBlackTreeMap$NodeStack", "isEmpty", "()Z"⟩ : MethodName)) hown (mvT hZ (hw _ (List.mem_of_getElem? (i := 48) rfl))) (mvT hZ (hw _ (List.mem_of_getElem? (i := 49) rfl))) (notFace_of_selects (args := #[]) (mvT hZ (hw _ (List.mem_of_getElem? (i := 51) rfl)))) (mvT hZ (hw _ (List.mem_of_getElem? (i := 51) rfl))) (mvT hZ (hw _ (List.mem_of_getElem? (i := 50) rfl))) (by decide) (backOf (W := 0) (rme l Z a0 hw [] b230 (1 : Int32) (0 : Int32) T255.heap n0 z264 Fd255 (by decide)) hZ (hw _ (List.mem_of_getElem? (i := 52) rfl)) (hw _ (List.mem_of_getElem? (i := 24) rfl)) (by decide) (by decide)) q265a q265c (g := (mkF m 120 #[.val (.int p1), .val (.int p2), .val (.int p3), .val (.int p4), .val (.int ((1 : Int32) + (p1 &&& (1023 : Int32)))), .val (.ref b155), .val (.ref b186), .val (.ref b230), .val (.int (0 : Int32)), .unset] [(.ref b230)])) rfl (by rw [hml]; rfl) (Steps.refl _) (argsL := []) (rest := []) (lenOf pd___Z rfl) rfl (by show 2 * 0 + _ ≤ _; exact Nat.le_of_eq rfl) (hb hby at_120) (fun _ _ => ⟨rfl, rfl, (by decide : 8 + 0 ≤ _), (by decide : 38 + 0 ≤ _)⟩)
    dsimp only [Pt.U, Pt.locs, Pt.cells, Pt.slots] at X265 l265 y265 z265 st265 hQ265
    subst l265 y265 z265
    obtain ⟨rfl, N265q, hh265⟩ := hQ265
    have N265 := Fr.app N255 N265q
    refine own_go (fun t k => st265.trans k) ?_
    show own_G p.tables e below s _ _ _ (T265.setTop (mkF m 123 #[.val (.int p1), .val (.int p2), .val (.int p3), .val (.int p4), .val (.int ((1 : Int32) + (p1 &&& (1023 : Int32)))), .val (.ref b155), .val (.ref b186), .val (.ref b230), .val (.int (0 : Int32)), .unset] [(.int (0 : Int32))]))
    refine own_go (fun t k => XS.ifNo X265.here hx rfl (hb hby at_123) rfl (by decide) k) ?_
    show own_G p.tables e below s _ _ _ (T265.setTop (mkF m 126 #[.val (.int p1), .val (.int p2), .val (.int p3), .val (.int p4), .val (.int ((1 : Int32) + (p1 &&& (1023 : Int32)))), .val (.ref b155), .val (.ref b186), .val (.ref b230), .val (.int (0 : Int32)), .unset] []))
    refine own_go (fun t k => XS.aload X265.here hx rfl (hb hby at_126) rfl rfl k) ?_
    show own_G p.tables e below s _ _ _ (T265.setTop (mkF m 128 #[.val (.int p1), .val (.int p2), .val (.int p3), .val (.int p4), .val (.int ((1 : Int32) + (p1 &&& (1023 : Int32)))), .val (.ref b155), .val (.ref b186), .val (.ref b230), .val (.int (0 : Int32)), .unset] [(.ref b230)]))
    obtain ⟨cq266, kq266, q266a, q266b, q266c⟩ := isOf hZ hh265 f263
    obtain ⟨_, _, ⟨T266, L266, k266, n266⟩, -, X266, ⟨Lc266, hQ266, l266, y266, z266⟩, st266⟩ := X265.virtualBack hx (y := (⟨"com/example/sumac/sumac/RedBlackTreeMap$NodeStack", "peek", "()Lcom/example/sumac/sumac/RedBlackTreeMap$Node;"⟩ : MethodName)) (z := (⟨"com/example/sumac/sumac/RedBlackTreeMap$NodeStack", "peek", "()Lcom/example/sumac/sumac/RedBlackTreeMap$Node;"⟩ : MethodName)) hown (mvT hZ (hw _ (List.mem_of_getElem? (i := 61) rfl))) (mvT hZ (hw _ (List.mem_of_getElem? (i := 62) rfl))) (notFace_of_selects (args := #[]) (mvT hZ (hw _ (List.mem_of_getElem? (i := 64) rfl)))) (mvT hZ (hw _ (List.mem_of_getElem? (i := 64) rfl))) (mvT hZ (hw _ (List.mem_of_getElem? (i := 63) rfl))) (by decide) (backOf (W := 0) (rmk1 l Z a0 hw [] b230 na b186 (.null : Value) k1 (own_ht (p1 &&& (1023 : Int32))) T255.heap n0 z264 Fn255 Fd255 Vn255 hf3) hZ (hw _ (List.mem_of_getElem? (i := 65) rfl)) (hw _ (List.mem_of_getElem? (i := 24) rfl)) (by decide) (by decide)) q266a q266c (g := (mkF m 128 #[.val (.int p1), .val (.int p2), .val (.int p3), .val (.int p4), .val (.int ((1 : Int32) + (p1 &&& (1023 : Int32)))), .val (.ref b155), .val (.ref b186), .val (.ref b230), .val (.int (0 : Int32)), .unset] [(.ref b230)])) rfl (by rw [hml]; rfl) (Steps.refl _) (argsL := []) (rest := []) (lenOf pd___Lcom_example_sumac_sumac_RedBlackTreeMap_Node_ rfl) rfl (by show 2 * 0 + _ ≤ _; exact Nat.le_of_eq rfl) (hb hby at_128) (fun _ _ => ⟨rfl, hh265, (by decide : 8 + 0 ≤ _), (by decide : 38 + 0 ≤ _)⟩)
    dsimp only [Pt.U, Pt.locs, Pt.cells, Pt.slots] at X266 l266 y266 z266 st266 hQ266
    subst l266 y266 z266
    obtain ⟨rfl, N266q, hh266⟩ := hQ266
    have N266 := Fr.app N265 N266q
    refine own_go (fun t k => st266.trans k) ?_
    show own_G p.tables e below s _ _ _ (T266.setTop (mkF m 131 #[.val (.int p1), .val (.int p2), .val (.int p3), .val (.int p4), .val (.int ((1 : Int32) + (p1 &&& (1023 : Int32)))), .val (.ref b155), .val (.ref b186), .val (.ref b230), .val (.int (0 : Int32)), .unset] [(.ref b186)]))
    refine own_go (fun t k => XS.aload X266.here hx rfl (hb hby at_131) rfl rfl k) ?_
    show own_G p.tables e below s _ _ _ (T266.setTop (mkF m 133 #[.val (.int p1), .val (.int p2), .val (.int p3), .val (.int p4), .val (.int ((1 : Int32) + (p1 &&& (1023 : Int32)))), .val (.ref b155), .val (.ref b186), .val (.ref b230), .val (.int (0 : Int32)), .unset] [(.ref b186), (.ref b186)]))
    refine own_go (fun t k => Jvm.Free.XT.acmpYes X266.here hx rfl (pc0 := 133) (pc' := 138) rfl (hb hby at_133) rfl rfl rfl (Jvm.Free.XT.aa_eq_t rfl) (by decide) (by decide) k) ?_
    show own_G p.tables e below s _ _ _ (T266.setTop (mkF m 138 #[.val (.int p1), .val (.int p2), .val (.int p3), .val (.int p4), .val (.int ((1 : Int32) + (p1 &&& (1023 : Int32)))), .val (.ref b155), .val (.ref b186), .val (.ref b230), .val (.int (0 : Int32)), .unset] []))
    refine own_go (fun t k => XS.aload X266.here hx rfl (hb hby at_138) rfl rfl k) ?_
    show own_G p.tables e below s _ _ _ (T266.setTop (mkF m 140 #[.val (.int p1), .val (.int p2), .val (.int p3), .val (.int p4), .val (.int ((1 : Int32) + (p1 &&& (1023 : Int32)))), .val (.ref b155), .val (.ref b186), .val (.ref b230), .val (.int (0 : Int32)), .unset] [(.ref b230)]))
    refine own_go (fun t k => XS.iloadN X266.here hx rfl (hb hby at_140) rfl k) ?_
    show own_G p.tables e below s _ _ _ (T266.setTop (mkF m 141 #[.val (.int p1), .val (.int p2), .val (.int p3), .val (.int p4), .val (.int ((1 : Int32) + (p1 &&& (1023 : Int32)))), .val (.ref b155), .val (.ref b186), .val (.ref b230), .val (.int (0 : Int32)), .unset] [(.int p4), (.ref b230)]))
    refine own_go (fun t k => XS.bipush X266.here hx rfl (hb hby at_141) k) ?_
    show own_G p.tables e below s _ _ _ (T266.setTop (mkF m 143 #[.val (.int p1), .val (.int p2), .val (.int p3), .val (.int p4), .val (.int ((1 : Int32) + (p1 &&& (1023 : Int32)))), .val (.ref b155), .val (.ref b186), .val (.ref b230), .val (.int (0 : Int32)), .unset] [(.int (8 : Int32)), (.int p4), (.ref b230)]))
    refine own_go (fun t k => XS.iand X266.here hx rfl (hb hby at_143) rfl k) ?_
    show own_G p.tables e below s _ _ _ (T266.setTop (mkF m 144 #[.val (.int p1), .val (.int p2), .val (.int p3), .val (.int p4), .val (.int ((1 : Int32) + (p1 &&& (1023 : Int32)))), .val (.ref b155), .val (.ref b186), .val (.ref b230), .val (.int (0 : Int32)), .unset] [(.int (p4 &&& (8 : Int32))), (.ref b230)]))
    obtain ⟨r8, hr8, hr8'⟩ : ∃ r : Int32, r = (if (p4 &&& (8 : Int32)) = (0 : Int32) then (0 : Int32) else 1) ∧ (r = 0 ∨ r = 1) := ⟨_, rfl, by split <;> simp⟩
    refine own_go (A := (T266.setTop (mkF m 152 #[.val (.int p1), .val (.int p2), .val (.int p3), .val (.int p4), .val (.int ((1 : Int32) + (p1 &&& (1023 : Int32)))), .val (.ref b155), .val (.ref b186), .val (.ref b230), .val (.int (0 : Int32)), .unset] [(.int r8), (.ref b230)]))) (fun t k => ?_) ?_
    · show Steps p.tables e below (T266.setTop (mkF m 144 #[.val (.int p1), .val (.int p2), .val (.int p3), .val (.int p4), .val (.int ((1 : Int32) + (p1 &&& (1023 : Int32)))), .val (.ref b155), .val (.ref b186), .val (.ref b230), .val (.int (0 : Int32)), .unset] [(.int (p4 &&& (8 : Int32))), (.ref b230)])) _
      by_cases hf : (p4 &&& (8 : Int32)) = (0 : Int32)
      · refine XS.ifYes X266.here hx rfl (pc0 := 144) (pc' := 151) rfl (hb hby at_144) rfl (Jvm.Free.XT.i0_eq_t hf) (by decide) (by decide) ?_
        show Steps p.tables e below (T266.setTop (mkF m 151 #[.val (.int p1), .val (.int p2), .val (.int p3), .val (.int p4), .val (.int ((1 : Int32) + (p1 &&& (1023 : Int32)))), .val (.ref b155), .val (.ref b186), .val (.ref b230), .val (.int (0 : Int32)), .unset] [(.ref b230)])) _
        refine XS.iconst X266.here hx rfl (hb hby at_151) ?_
        show Steps p.tables e below (T266.setTop (mkF m 152 #[.val (.int p1), .val (.int p2), .val (.int p3), .val (.int p4), .val (.int ((1 : Int32) + (p1 &&& (1023 : Int32)))), .val (.ref b155), .val (.ref b186), .val (.ref b230), .val (.int (0 : Int32)), .unset] [(.int (0 : Int32)), (.ref b230)])) _
        rw [hr8, if_pos hf] at k
        exact k
      · refine XS.ifNo X266.here hx rfl (hb hby at_144) rfl (Jvm.Free.XT.i0_eq_f hf) ?_
        show Steps p.tables e below (T266.setTop (mkF m 147 #[.val (.int p1), .val (.int p2), .val (.int p3), .val (.int p4), .val (.int ((1 : Int32) + (p1 &&& (1023 : Int32)))), .val (.ref b155), .val (.ref b186), .val (.ref b230), .val (.int (0 : Int32)), .unset] [(.ref b230)])) _
        refine XS.iconst X266.here hx rfl (hb hby at_147) ?_
        show Steps p.tables e below (T266.setTop (mkF m 148 #[.val (.int p1), .val (.int p2), .val (.int p3), .val (.int p4), .val (.int ((1 : Int32) + (p1 &&& (1023 : Int32)))), .val (.ref b155), .val (.ref b186), .val (.ref b230), .val (.int (0 : Int32)), .unset] [(.int (1 : Int32)), (.ref b230)])) _
        refine XS.goto X266.here hx rfl (pc0 := 148) (pc' := 152) rfl (hb hby at_148) (by decide) (by decide) ?_
        show Steps p.tables e below (T266.setTop (mkF m 152 #[.val (.int p1), .val (.int p2), .val (.int p3), .val (.int p4), .val (.int ((1 : Int32) + (p1 &&& (1023 : Int32)))), .val (.ref b155), .val (.ref b186), .val (.ref b230), .val (.int (0 : Int32)), .unset] [(.int (1 : Int32)), (.ref b230)])) _
        rw [hr8, if_neg hf] at k
        exact k
    show own_G p.tables e below s _ _ _ (T266.setTop (mkF m 152 #[.val (.int p1), .val (.int p2), .val (.int p3), .val (.int p4), .val (.int ((1 : Int32) + (p1 &&& (1023 : Int32)))), .val (.ref b155), .val (.ref b186), .val (.ref b230), .val (.int (0 : Int32)), .unset] [(.int r8), (.ref b230)]))
    obtain ⟨cq267, kq267, q267a, q267b, q267c⟩ := isOf hZ hh266 f263
    obtain ⟨_, _, ⟨T267, L267, k267, n267⟩, -, X267, ⟨Lc267, hQ267, l267, y267, z267⟩, st267⟩ := X266.virtualBack hx (y := (⟨"com/example/sumac/sumac/RedBlackTreeMap$NodeStack", "step", "(Z)Lcom/example/sumac/sumac/RedBlackTreeMap$Node;"⟩ : MethodName)) (z := (⟨"com/example/sumac/sumac/RedBlackTreeMap$NodeStack", "step", "(Z)Lcom/example/sumac/sumac/RedBlackTreeMap$Node;"⟩ : MethodName)) hown (mvT hZ (hw _ (List.mem_of_getElem? (i := 66) rfl))) (mvT hZ (hw _ (List.mem_of_getElem? (i := 67) rfl))) (notFace_of_selects (args := #[]) (mvT hZ (hw _ (List.mem_of_getElem? (i := 69) rfl)))) (mvT hZ (hw _ (List.mem_of_getElem? (i := 69) rfl))) (mvT hZ (hw _ (List.mem_of_getElem? (i := 68) rfl))) (by decide) (backOf (W := 0) (rmt1 l Z a0 hw [] b230 na b186 (.null : Value) k1 (own_ht (p1 &&& (1023 : Int32))) r8 T255.heap n0 z264 f263 Fn255 Fd255 Vn255 ne_b230 g231 gna hf3 f261 f262 n233) hZ (hw _ (List.mem_of_getElem? (i := 70) rfl)) (hw _ (List.mem_of_getElem? (i := 24) rfl)) (by decide) (by decide)) q267a q267c (g := (mkF m 152 #[.val (.int p1), .val (.int p2), .val (.int p3), .val (.int p4), .val (.int ((1 : Int32) + (p1 &&& (1023 : Int32)))), .val (.ref b155), .val (.ref b186), .val (.ref b230), .val (.int (0 : Int32)), .unset] [(.int r8), (.ref b230)])) rfl (by rw [hml]; rfl) (Steps.refl _) (argsL := [(.int r8)]) (rest := []) (lenOf pd__Z_Lcom_example_sumac_sumac_RedBlackTreeMap_Node_ rfl) rfl (by show 2 * 0 + _ ≤ _; exact Nat.le_of_eq rfl) (hb hby at_152) (fun _ _ => ⟨rfl, hh266, (by decide : 8 + 0 ≤ _), (by decide : 38 + 0 ≤ _)⟩)
    dsimp only [Pt.U, Pt.locs, Pt.cells, Pt.slots] at X267 l267 y267 z267 st267 hQ267
    subst l267 y267 z267
    obtain ⟨rfl, N267q, K267, Fn267, Fd267⟩ := hQ267
    have N267 := Fr.app N266 N267q
    refine own_go (fun t k => st267.trans k) ?_
    have f268 := f256.keep K267 (fun x => (fun q => (List.mem_cons.mp q).elim (fun e => e ▸ g231) (fun q => nomatch q)))
    have f269 := f257.keep K267
    have f270 := f258.keep K267 (fun q => (List.mem_cons.mp q).elim n232 (fun q => nomatch q))
    have f271 := f259.keep K267 (fun q => (List.mem_cons.mp q).elim n232 (fun q => nomatch q))
    have f272 := f260.keep K267
    have f273 := f261.keep K267 (fun q => (List.mem_cons.mp q).elim n233 (fun q => nomatch q))
    have f274 := f262.keep K267 (fun q => (List.mem_cons.mp q).elim n233 (fun q => nomatch q))
    have f275 := f263.keep K267
    have f276 := Vn255.keep K267 (fun q => (List.mem_cons.mp q).elim (Ne.symm ne_b230) (fun q => nomatch q))
    have z277 := Nat.le_trans z264 K267.1
    show own_G p.tables e below s _ _ _ (T267.setTop (mkF m 155 #[.val (.int p1), .val (.int p2), .val (.int p3), .val (.int p4), .val (.int ((1 : Int32) + (p1 &&& (1023 : Int32)))), .val (.ref b155), .val (.ref b186), .val (.ref b230), .val (.int (0 : Int32)), .unset] [(.ref b186)]))
    refine own_go (fun t k => XS.astore X267.here hx rfl (hb hby at_155) rfl rfl (l' := #[.val (.int p1), .val (.int p2), .val (.int p3), .val (.int p4), .val (.int ((1 : Int32) + (p1 &&& (1023 : Int32)))), .val (.ref b155), .val (.ref b186), .val (.ref b230), .val (.int (0 : Int32)), .val (.ref b186)]) rfl k) ?_
    show own_G p.tables e below s _ _ _ (T267.setTop (mkF m 157 #[.val (.int p1), .val (.int p2), .val (.int p3), .val (.int p4), .val (.int ((1 : Int32) + (p1 &&& (1023 : Int32)))), .val (.ref b155), .val (.ref b186), .val (.ref b230), .val (.int (0 : Int32)), .val (.ref b186)] []))
    refine own_go (fun t k => XS.aload X267.here hx rfl (hb hby at_157) rfl rfl k) ?_
    show own_G p.tables e below s _ _ _ (T267.setTop (mkF m 159 #[.val (.int p1), .val (.int p2), .val (.int p3), .val (.int p4), .val (.int ((1 : Int32) + (p1 &&& (1023 : Int32)))), .val (.ref b155), .val (.ref b186), .val (.ref b230), .val (.int (0 : Int32)), .val (.ref b186)] [(.ref b186)]))
    refine own_go (fun t k => XS.aload X267.here hx rfl (hb hby at_159) rfl rfl k) ?_
    show own_G p.tables e below s _ _ _ (T267.setTop (mkF m 161 #[.val (.int p1), .val (.int p2), .val (.int p3), .val (.int p4), .val (.int ((1 : Int32) + (p1 &&& (1023 : Int32)))), .val (.ref b155), .val (.ref b186), .val (.ref b230), .val (.int (0 : Int32)), .val (.ref b186)] [(.ref b186), (.ref b186)]))
    refine own_go (fun t k => Jvm.Free.XT.acmpYes X267.here hx rfl (pc0 := 161) (pc' := 166) rfl (hb hby at_161) rfl rfl rfl (Jvm.Free.XT.aa_eq_t rfl) (by decide) (by decide) k) ?_
    show own_G p.tables e below s _ _ _ (T267.setTop (mkF m 166 #[.val (.int p1), .val (.int p2), .val (.int p3), .val (.int p4), .val (.int ((1 : Int32) + (p1 &&& (1023 : Int32)))), .val (.ref b155), .val (.ref b186), .val (.ref b230), .val (.int (0 : Int32)), .val (.ref b186)] []))
    refine own_go (fun t k => XS.iload X267.here hx rfl (hb hby at_166) rfl k) ?_
    show own_G p.tables e below s _ _ _ (T267.setTop (mkF m 168 #[.val (.int p1), .val (.int p2), .val (.int p3), .val (.int p4), .val (.int ((1 : Int32) + (p1 &&& (1023 : Int32)))), .val (.ref b155), .val (.ref b186), .val (.ref b230), .val (.int (0 : Int32)), .val (.ref b186)] [(.int (0 : Int32))]))
    refine own_go (fun t k => XS.ifYes X267.here hx rfl (pc0 := 168) (pc' := 195) rfl (hb hby at_168) rfl (by decide) (by decide) (by decide) k) ?_
    show own_G p.tables e below s _ _ _ (T267.setTop (mkF m 195 #[.val (.int p1), .val (.int p2), .val (.int p3), .val (.int p4), .val (.int ((1 : Int32) + (p1 &&& (1023 : Int32)))), .val (.ref b155), .val (.ref b186), .val (.ref b230), .val (.int (0 : Int32)), .val (.ref b186)] []))
    refine own_go (fun t k => XS.aload X267.here hx rfl (hb hby at_195) rfl rfl k) ?_
    show own_G p.tables e below s _ _ _ (T267.setTop (mkF m 197 #[.val (.int p1), .val (.int p2), .val (.int p3), .val (.int p4), .val (.int ((1 : Int32) + (p1 &&& (1023 : Int32)))), .val (.ref b155), .val (.ref b186), .val (.ref b230), .val (.int (0 : Int32)), .val (.ref b186)] [(.ref b230)]))
    obtain ⟨cq278, kq278, q278a, q278b, q278c⟩ := isOf hZ rfl f275
    obtain ⟨_, _, ⟨T278, L278, k278, n278⟩, -, X278, ⟨Lc278, hQ278, l278, y278, z278⟩, st278⟩ := X267.virtualBack hx (y := (⟨"com/example/sumac/sumac/RedBlackTreeMap$NodeStack", "isEmpty", "()Z"⟩ : MethodName)) (z := (⟨"com/example/sumac/sumac/RedBlackTreeMap$NodeStack", "isEmpty", "()Z"⟩ : MethodName)) hown (mvT hZ (hw _ (List.mem_of_getElem? (i := 48) rfl))) (mvT hZ (hw _ (List.mem_of_getElem? (i := 49) rfl))) (notFace_of_selects (args := #[]) (mvT hZ (hw _ (List.mem_of_getElem? (i := 51) rfl)))) (mvT hZ (hw _ (List.mem_of_getElem? (i := 51) rfl))) (mvT hZ (hw _ (List.mem_of_getElem? (i := 50) rfl))) (by decide) (backOf (W := 0) (rme l Z a0 hw [] b230 (0 : Int32) (1 : Int32) T267.heap n0 z277 Fd267 (by decide)) hZ (hw _ (List.mem_of_getElem? (i := 52) rfl)) (hw _ (List.mem_of_getElem? (i := 24) rfl)) (by decide) (by decide)) q278a q278c (g := (mkF m 197 #[.val (.int p1), .val (.int p2), .val (.int p3), .val (.int p4), .val (.int ((1 : Int32) + (p1 &&& (1023 : Int32)))), .val (.ref b155), .val (.ref b186), .val (.ref b230), .val (.int (0 : Int32)), .val (.ref b186)] [(.ref b230)])) rfl (by rw [hml]; rfl) (Steps.refl _) (argsL := []) (rest := []) (lenOf pd___Z rfl) rfl (by show 2 * 0 + _ ≤ _; exact Nat.le_of_eq rfl) (hb hby at_197) (fun _ _ => ⟨rfl, rfl, (by decide : 8 + 0 ≤ _), (by decide : 38 + 0 ≤ _)⟩)
    dsimp only [Pt.U, Pt.locs, Pt.cells, Pt.slots] at X278 l278 y278 z278 st278 hQ278
    subst l278 y278 z278
    obtain ⟨rfl, N278q, hh278⟩ := hQ278
    have N278 := Fr.app N267 N278q
    refine own_go (fun t k => st278.trans k) ?_
    show own_G p.tables e below s _ _ _ (T278.setTop (mkF m 200 #[.val (.int p1), .val (.int p2), .val (.int p3), .val (.int p4), .val (.int ((1 : Int32) + (p1 &&& (1023 : Int32)))), .val (.ref b155), .val (.ref b186), .val (.ref b230), .val (.int (0 : Int32)), .val (.ref b186)] [(.int (1 : Int32))]))
    exact own_retN X278 hx hlk (t := .boolean) (z' := (1 : Int32)) Bd.returns (by simp) (hb hby at_200) (rfl) (by rw [hh278]; exact ⟨rfl, N278⟩) (by decide) (by decide)
  · show own_G p.tables e below s _ _ _ (T254.setTop (mkF m 101 #[.val (.int p1), .val (.int p2), .val (.int p3), .val (.int p4), .val (.int ((1 : Int32) + (p1 &&& (1023 : Int32)))), .val (.ref b155), .val (.ref b186), .val (.ref b230), .val (.int (1 : Int32)), .unset] [(.int (1 : Int32))]))
    refine own_go (fun t k => XS.ifNo X254.here hx rfl (hb hby at_101) rfl (by decide) k) ?_
    show own_G p.tables e below s _ _ _ (T254.setTop (mkF m 104 #[.val (.int p1), .val (.int p2), .val (.int p3), .val (.int p4), .val (.int ((1 : Int32) + (p1 &&& (1023 : Int32)))), .val (.ref b155), .val (.ref b186), .val (.ref b230), .val (.int (1 : Int32)), .unset] []))
    refine own_go (fun t k => XS.aload X254.here hx rfl (hb hby at_104) rfl rfl k) ?_
    show own_G p.tables e below s _ _ _ (T254.setTop (mkF m 106 #[.val (.int p1), .val (.int p2), .val (.int p3), .val (.int p4), .val (.int ((1 : Int32) + (p1 &&& (1023 : Int32)))), .val (.ref b155), .val (.ref b186), .val (.ref b230), .val (.int (1 : Int32)), .unset] [(.ref b230)]))
    refine own_go (fun t k => XS.aload X254.here hx rfl (hb hby at_106) rfl rfl k) ?_
    show own_G p.tables e below s _ _ _ (T254.setTop (mkF m 108 #[.val (.int p1), .val (.int p2), .val (.int p3), .val (.int p4), .val (.int ((1 : Int32) + (p1 &&& (1023 : Int32)))), .val (.ref b155), .val (.ref b186), .val (.ref b230), .val (.int (1 : Int32)), .unset] [(.ref b155), (.ref b230)]))
    obtain ⟨cq279, kq279, q279a, q279b, q279c⟩ := isOf hZ hh254 f252
    obtain ⟨_, _, ⟨T279, L279, k279, n279⟩, -, X279, ⟨Lc279, hQ279, l279, y279, z279⟩, st279⟩ := X254.virtualBack hx (y := (⟨"com/example/sumac/sumac/RedBlackTreeMap$NodeStack", "push", "(Lcom/example/sumac/sumac/RedBlackTreeMap$Node;)V"⟩ : MethodName)) (z := (⟨"com/example/sumac/sumac/RedBlackTreeMap$NodeStack", "push", "(Lcom/example/sumac/sumac/RedBlackTreeMap$Node;)V"⟩ : MethodName)) hown (mvT hZ (hw _ (List.mem_of_getElem? (i := 55) rfl))) (mvT hZ (hw _ (List.mem_of_getElem? (i := 56) rfl))) (notFace_of_selects (args := #[]) (mvT hZ (hw _ (List.mem_of_getElem? (i := 58) rfl)))) (mvT hZ (hw _ (List.mem_of_getElem? (i := 58) rfl))) (mvT hZ (hw _ (List.mem_of_getElem? (i := 57) rfl))) (by decide) (backOf (W := 0) (rmp0 l Z a0 hw [] b230 b155 na k1 (own_ht (p1 &&& (1023 : Int32))) T244.heap n0 z253 f252 Fn244 Fd244 V0 ne_b230 g231 gna hf3 f246 On) hZ (hw _ (List.mem_of_getElem? (i := 59) rfl)) (hw _ (List.mem_of_getElem? (i := 24) rfl)) (by decide) (by decide)) q279a q279c (g := (mkF m 108 #[.val (.int p1), .val (.int p2), .val (.int p3), .val (.int p4), .val (.int ((1 : Int32) + (p1 &&& (1023 : Int32)))), .val (.ref b155), .val (.ref b186), .val (.ref b230), .val (.int (1 : Int32)), .unset] [(.ref b155), (.ref b230)])) rfl (by rw [hml]; rfl) (Steps.refl _) (argsL := [(.ref b155)]) (rest := []) (lenOf pd__Lcom_example_sumac_sumac_RedBlackTreeMap_Node__V rfl) rfl (by show 2 * 0 + _ ≤ _; exact Nat.le_of_eq rfl) (hb hby at_108) (fun _ _ => ⟨rfl, hh254, (by decide : 8 + 0 ≤ _), (by decide : 38 + 0 ≤ _)⟩)
    dsimp only [Pt.U, Pt.locs, Pt.cells, Pt.slots] at X279 l279 y279 z279 st279 hQ279
    subst l279 y279 z279
    obtain ⟨rfl, N279q, K279, Fn279, Fd279, Vn279⟩ := hQ279
    have N279 := Fr.app N254 N279q
    refine own_go (fun t k => st279.trans k) ?_
    have f280 := f245.keep K279 (fun x => (fun q => (List.mem_cons.mp q).elim (fun e => e ▸ g231) (fun q => (List.mem_cons.mp q).elim (fun e => e ▸ gna) (fun q => nomatch q))))
    have f281 := f246.keep K279
    have f282 := f247.keep K279 (fun q => (List.mem_cons.mp q).elim n232 (fun q => (List.mem_cons.mp q).elim ne_b155 (fun q => nomatch q)))
    have f283 := f248.keep K279 (fun q => (List.mem_cons.mp q).elim n232 (fun q => (List.mem_cons.mp q).elim ne_b155 (fun q => nomatch q)))
    have f284 := f249.keep K279
    have f285 := f250.keep K279 (fun q => (List.mem_cons.mp q).elim n233 (fun q => (List.mem_cons.mp q).elim ne_b186 (fun q => nomatch q)))
    have f286 := f251.keep K279 (fun q => (List.mem_cons.mp q).elim n233 (fun q => (List.mem_cons.mp q).elim ne_b186 (fun q => nomatch q)))
    have f287 := f252.keep K279
    have z288 := Nat.le_trans z253 K279.1
    show own_G p.tables e below s _ _ _ (T279.setTop (mkF m 111 #[.val (.int p1), .val (.int p2), .val (.int p3), .val (.int p4), .val (.int ((1 : Int32) + (p1 &&& (1023 : Int32)))), .val (.ref b155), .val (.ref b186), .val (.ref b230), .val (.int (1 : Int32)), .unset] []))
    refine own_go (fun t k => XS.aload X279.here hx rfl (hb hby at_111) rfl rfl k) ?_
    show own_G p.tables e below s _ _ _ (T279.setTop (mkF m 113 #[.val (.int p1), .val (.int p2), .val (.int p3), .val (.int p4), .val (.int ((1 : Int32) + (p1 &&& (1023 : Int32)))), .val (.ref b155), .val (.ref b186), .val (.ref b230), .val (.int (1 : Int32)), .unset] [(.ref b230)]))
    refine own_go (fun t k => XS.aload X279.here hx rfl (hb hby at_113) rfl rfl k) ?_
    show own_G p.tables e below s _ _ _ (T279.setTop (mkF m 115 #[.val (.int p1), .val (.int p2), .val (.int p3), .val (.int p4), .val (.int ((1 : Int32) + (p1 &&& (1023 : Int32)))), .val (.ref b155), .val (.ref b186), .val (.ref b230), .val (.int (1 : Int32)), .unset] [(.ref b186), (.ref b230)]))
    obtain ⟨cq289, kq289, q289a, q289b, q289c⟩ := isOf hZ rfl f287
    obtain ⟨_, _, ⟨T289, L289, k289, n289⟩, -, X289, ⟨Lc289, hQ289, l289, y289, z289⟩, st289⟩ := X279.virtualBack hx (y := (⟨"com/example/sumac/sumac/RedBlackTreeMap$NodeStack", "push", "(Lcom/example/sumac/sumac/RedBlackTreeMap$Node;)V"⟩ : MethodName)) (z := (⟨"com/example/sumac/sumac/RedBlackTreeMap$NodeStack", "push", "(Lcom/example/sumac/sumac/RedBlackTreeMap$Node;)V"⟩ : MethodName)) hown (mvT hZ (hw _ (List.mem_of_getElem? (i := 55) rfl))) (mvT hZ (hw _ (List.mem_of_getElem? (i := 56) rfl))) (notFace_of_selects (args := #[]) (mvT hZ (hw _ (List.mem_of_getElem? (i := 58) rfl)))) (mvT hZ (hw _ (List.mem_of_getElem? (i := 58) rfl))) (mvT hZ (hw _ (List.mem_of_getElem? (i := 57) rfl))) (by decide) (backOf (W := 0) (rmp1 l Z a0 hw [] b230 b186 na b155 k1 (own_ht (p1 &&& (1023 : Int32))) T279.heap n0 z288 f287 Fn279 Fd279 Vn279 ne_b230 g231 gna hf3 f284 On) hZ (hw _ (List.mem_of_getElem? (i := 59) rfl)) (hw _ (List.mem_of_getElem? (i := 24) rfl)) (by decide) (by decide)) q289a q289c (g := (mkF m 115 #[.val (.int p1), .val (.int p2), .val (.int p3), .val (.int p4), .val (.int ((1 : Int32) + (p1 &&& (1023 : Int32)))), .val (.ref b155), .val (.ref b186), .val (.ref b230), .val (.int (1 : Int32)), .unset] [(.ref b186), (.ref b230)])) rfl (by rw [hml]; rfl) (Steps.refl _) (argsL := [(.ref b186)]) (rest := []) (lenOf pd__Lcom_example_sumac_sumac_RedBlackTreeMap_Node__V rfl) rfl (by show 2 * 0 + _ ≤ _; exact Nat.le_of_eq rfl) (hb hby at_115) (fun _ _ => ⟨rfl, rfl, (by decide : 8 + 0 ≤ _), (by decide : 38 + 0 ≤ _)⟩)
    dsimp only [Pt.U, Pt.locs, Pt.cells, Pt.slots] at X289 l289 y289 z289 st289 hQ289
    subst l289 y289 z289
    obtain ⟨rfl, N289q, K289, Fn289, Fd289, Vn289⟩ := hQ289
    have N289 := Fr.app N279 N289q
    refine own_go (fun t k => st289.trans k) ?_
    have f290 := f280.keep K289 (fun x => (fun q => (List.mem_cons.mp q).elim (fun e => e ▸ g231) (fun q => (List.mem_cons.mp q).elim (fun e => e ▸ gna) (fun q => nomatch q))))
    have f291 := f281.keep K289
    have f292 := f282.keep K289 (fun q => (List.mem_cons.mp q).elim n232 (fun q => (List.mem_cons.mp q).elim ne_b155 (fun q => nomatch q)))
    have f293 := f283.keep K289 (fun q => (List.mem_cons.mp q).elim n232 (fun q => (List.mem_cons.mp q).elim ne_b155 (fun q => nomatch q)))
    have f294 := f284.keep K289
    have f295 := f285.keep K289 (fun q => (List.mem_cons.mp q).elim n233 (fun q => (List.mem_cons.mp q).elim ne_b186 (fun q => nomatch q)))
    have f296 := f286.keep K289 (fun q => (List.mem_cons.mp q).elim n233 (fun q => (List.mem_cons.mp q).elim ne_b186 (fun q => nomatch q)))
    have f297 := f287.keep K289
    have z298 := Nat.le_trans z288 K289.1
    show own_G p.tables e below s _ _ _ (T289.setTop (mkF m 118 #[.val (.int p1), .val (.int p2), .val (.int p3), .val (.int p4), .val (.int ((1 : Int32) + (p1 &&& (1023 : Int32)))), .val (.ref b155), .val (.ref b186), .val (.ref b230), .val (.int (1 : Int32)), .unset] []))
    refine own_go (fun t k => XS.aload X289.here hx rfl (hb hby at_118) rfl rfl k) ?_
    show own_G p.tables e below s _ _ _ (T289.setTop (mkF m 120 #[.val (.int p1), .val (.int p2), .val (.int p3), .val (.int p4), .val (.int ((1 : Int32) + (p1 &&& (1023 : Int32)))), .val (.ref b155), .val (.ref b186), .val (.ref b230), .val (.int (1 : Int32)), .unset] [(.ref b230)]))
    obtain ⟨cq299, kq299, q299a, q299b, q299c⟩ := isOf hZ rfl f297
    obtain ⟨_, _, ⟨T299, L299, k299, n299⟩, -, X299, ⟨Lc299, hQ299, l299, y299, z299⟩, st299⟩ := X289.virtualBack hx (y := (⟨"com/example/sumac/sumac/RedBlackTreeMap$NodeStack", "isEmpty", "()Z"⟩ : MethodName)) (z := (⟨"com/example/sumac/sumac/RedBlackTreeMap$NodeStack", "isEmpty", "()Z"⟩ : MethodName)) hown (mvT hZ (hw _ (List.mem_of_getElem? (i := 48) rfl))) (mvT hZ (hw _ (List.mem_of_getElem? (i := 49) rfl))) (notFace_of_selects (args := #[]) (mvT hZ (hw _ (List.mem_of_getElem? (i := 51) rfl)))) (mvT hZ (hw _ (List.mem_of_getElem? (i := 51) rfl))) (mvT hZ (hw _ (List.mem_of_getElem? (i := 50) rfl))) (by decide) (backOf (W := 0) (rme l Z a0 hw [] b230 (2 : Int32) (0 : Int32) T289.heap n0 z298 Fd289 (by decide)) hZ (hw _ (List.mem_of_getElem? (i := 52) rfl)) (hw _ (List.mem_of_getElem? (i := 24) rfl)) (by decide) (by decide)) q299a q299c (g := (mkF m 120 #[.val (.int p1), .val (.int p2), .val (.int p3), .val (.int p4), .val (.int ((1 : Int32) + (p1 &&& (1023 : Int32)))), .val (.ref b155), .val (.ref b186), .val (.ref b230), .val (.int (1 : Int32)), .unset] [(.ref b230)])) rfl (by rw [hml]; rfl) (Steps.refl _) (argsL := []) (rest := []) (lenOf pd___Z rfl) rfl (by show 2 * 0 + _ ≤ _; exact Nat.le_of_eq rfl) (hb hby at_120) (fun _ _ => ⟨rfl, rfl, (by decide : 8 + 0 ≤ _), (by decide : 38 + 0 ≤ _)⟩)
    dsimp only [Pt.U, Pt.locs, Pt.cells, Pt.slots] at X299 l299 y299 z299 st299 hQ299
    subst l299 y299 z299
    obtain ⟨rfl, N299q, hh299⟩ := hQ299
    have N299 := Fr.app N289 N299q
    refine own_go (fun t k => st299.trans k) ?_
    show own_G p.tables e below s _ _ _ (T299.setTop (mkF m 123 #[.val (.int p1), .val (.int p2), .val (.int p3), .val (.int p4), .val (.int ((1 : Int32) + (p1 &&& (1023 : Int32)))), .val (.ref b155), .val (.ref b186), .val (.ref b230), .val (.int (1 : Int32)), .unset] [(.int (0 : Int32))]))
    refine own_go (fun t k => XS.ifNo X299.here hx rfl (hb hby at_123) rfl (by decide) k) ?_
    show own_G p.tables e below s _ _ _ (T299.setTop (mkF m 126 #[.val (.int p1), .val (.int p2), .val (.int p3), .val (.int p4), .val (.int ((1 : Int32) + (p1 &&& (1023 : Int32)))), .val (.ref b155), .val (.ref b186), .val (.ref b230), .val (.int (1 : Int32)), .unset] []))
    refine own_go (fun t k => XS.aload X299.here hx rfl (hb hby at_126) rfl rfl k) ?_
    show own_G p.tables e below s _ _ _ (T299.setTop (mkF m 128 #[.val (.int p1), .val (.int p2), .val (.int p3), .val (.int p4), .val (.int ((1 : Int32) + (p1 &&& (1023 : Int32)))), .val (.ref b155), .val (.ref b186), .val (.ref b230), .val (.int (1 : Int32)), .unset] [(.ref b230)]))
    obtain ⟨cq300, kq300, q300a, q300b, q300c⟩ := isOf hZ hh299 f297
    obtain ⟨_, _, ⟨T300, L300, k300, n300⟩, -, X300, ⟨Lc300, hQ300, l300, y300, z300⟩, st300⟩ := X299.virtualBack hx (y := (⟨"com/example/sumac/sumac/RedBlackTreeMap$NodeStack", "peek", "()Lcom/example/sumac/sumac/RedBlackTreeMap$Node;"⟩ : MethodName)) (z := (⟨"com/example/sumac/sumac/RedBlackTreeMap$NodeStack", "peek", "()Lcom/example/sumac/sumac/RedBlackTreeMap$Node;"⟩ : MethodName)) hown (mvT hZ (hw _ (List.mem_of_getElem? (i := 61) rfl))) (mvT hZ (hw _ (List.mem_of_getElem? (i := 62) rfl))) (notFace_of_selects (args := #[]) (mvT hZ (hw _ (List.mem_of_getElem? (i := 64) rfl)))) (mvT hZ (hw _ (List.mem_of_getElem? (i := 64) rfl))) (mvT hZ (hw _ (List.mem_of_getElem? (i := 63) rfl))) (by decide) (backOf (W := 0) (rmk2 l Z a0 hw [] b230 na b155 b186 k1 (own_ht (p1 &&& (1023 : Int32))) T289.heap n0 z298 Fn289 Fd289 Vn289 hf3) hZ (hw _ (List.mem_of_getElem? (i := 65) rfl)) (hw _ (List.mem_of_getElem? (i := 24) rfl)) (by decide) (by decide)) q300a q300c (g := (mkF m 128 #[.val (.int p1), .val (.int p2), .val (.int p3), .val (.int p4), .val (.int ((1 : Int32) + (p1 &&& (1023 : Int32)))), .val (.ref b155), .val (.ref b186), .val (.ref b230), .val (.int (1 : Int32)), .unset] [(.ref b230)])) rfl (by rw [hml]; rfl) (Steps.refl _) (argsL := []) (rest := []) (lenOf pd___Lcom_example_sumac_sumac_RedBlackTreeMap_Node_ rfl) rfl (by show 2 * 0 + _ ≤ _; exact Nat.le_of_eq rfl) (hb hby at_128) (fun _ _ => ⟨rfl, hh299, (by decide : 8 + 0 ≤ _), (by decide : 38 + 0 ≤ _)⟩)
    dsimp only [Pt.U, Pt.locs, Pt.cells, Pt.slots] at X300 l300 y300 z300 st300 hQ300
    subst l300 y300 z300
    obtain ⟨rfl, N300q, hh300⟩ := hQ300
    have N300 := Fr.app N299 N300q
    refine own_go (fun t k => st300.trans k) ?_
    show own_G p.tables e below s _ _ _ (T300.setTop (mkF m 131 #[.val (.int p1), .val (.int p2), .val (.int p3), .val (.int p4), .val (.int ((1 : Int32) + (p1 &&& (1023 : Int32)))), .val (.ref b155), .val (.ref b186), .val (.ref b230), .val (.int (1 : Int32)), .unset] [(.ref b186)]))
    refine own_go (fun t k => XS.aload X300.here hx rfl (hb hby at_131) rfl rfl k) ?_
    show own_G p.tables e below s _ _ _ (T300.setTop (mkF m 133 #[.val (.int p1), .val (.int p2), .val (.int p3), .val (.int p4), .val (.int ((1 : Int32) + (p1 &&& (1023 : Int32)))), .val (.ref b155), .val (.ref b186), .val (.ref b230), .val (.int (1 : Int32)), .unset] [(.ref b186), (.ref b186)]))
    refine own_go (fun t k => Jvm.Free.XT.acmpYes X300.here hx rfl (pc0 := 133) (pc' := 138) rfl (hb hby at_133) rfl rfl rfl (Jvm.Free.XT.aa_eq_t rfl) (by decide) (by decide) k) ?_
    show own_G p.tables e below s _ _ _ (T300.setTop (mkF m 138 #[.val (.int p1), .val (.int p2), .val (.int p3), .val (.int p4), .val (.int ((1 : Int32) + (p1 &&& (1023 : Int32)))), .val (.ref b155), .val (.ref b186), .val (.ref b230), .val (.int (1 : Int32)), .unset] []))
    refine own_go (fun t k => XS.aload X300.here hx rfl (hb hby at_138) rfl rfl k) ?_
    show own_G p.tables e below s _ _ _ (T300.setTop (mkF m 140 #[.val (.int p1), .val (.int p2), .val (.int p3), .val (.int p4), .val (.int ((1 : Int32) + (p1 &&& (1023 : Int32)))), .val (.ref b155), .val (.ref b186), .val (.ref b230), .val (.int (1 : Int32)), .unset] [(.ref b230)]))
    refine own_go (fun t k => XS.iloadN X300.here hx rfl (hb hby at_140) rfl k) ?_
    show own_G p.tables e below s _ _ _ (T300.setTop (mkF m 141 #[.val (.int p1), .val (.int p2), .val (.int p3), .val (.int p4), .val (.int ((1 : Int32) + (p1 &&& (1023 : Int32)))), .val (.ref b155), .val (.ref b186), .val (.ref b230), .val (.int (1 : Int32)), .unset] [(.int p4), (.ref b230)]))
    refine own_go (fun t k => XS.bipush X300.here hx rfl (hb hby at_141) k) ?_
    show own_G p.tables e below s _ _ _ (T300.setTop (mkF m 143 #[.val (.int p1), .val (.int p2), .val (.int p3), .val (.int p4), .val (.int ((1 : Int32) + (p1 &&& (1023 : Int32)))), .val (.ref b155), .val (.ref b186), .val (.ref b230), .val (.int (1 : Int32)), .unset] [(.int (8 : Int32)), (.int p4), (.ref b230)]))
    refine own_go (fun t k => XS.iand X300.here hx rfl (hb hby at_143) rfl k) ?_
    show own_G p.tables e below s _ _ _ (T300.setTop (mkF m 144 #[.val (.int p1), .val (.int p2), .val (.int p3), .val (.int p4), .val (.int ((1 : Int32) + (p1 &&& (1023 : Int32)))), .val (.ref b155), .val (.ref b186), .val (.ref b230), .val (.int (1 : Int32)), .unset] [(.int (p4 &&& (8 : Int32))), (.ref b230)]))
    obtain ⟨r8, hr8, hr8'⟩ : ∃ r : Int32, r = (if (p4 &&& (8 : Int32)) = (0 : Int32) then (0 : Int32) else 1) ∧ (r = 0 ∨ r = 1) := ⟨_, rfl, by split <;> simp⟩
    refine own_go (A := (T300.setTop (mkF m 152 #[.val (.int p1), .val (.int p2), .val (.int p3), .val (.int p4), .val (.int ((1 : Int32) + (p1 &&& (1023 : Int32)))), .val (.ref b155), .val (.ref b186), .val (.ref b230), .val (.int (1 : Int32)), .unset] [(.int r8), (.ref b230)]))) (fun t k => ?_) ?_
    · show Steps p.tables e below (T300.setTop (mkF m 144 #[.val (.int p1), .val (.int p2), .val (.int p3), .val (.int p4), .val (.int ((1 : Int32) + (p1 &&& (1023 : Int32)))), .val (.ref b155), .val (.ref b186), .val (.ref b230), .val (.int (1 : Int32)), .unset] [(.int (p4 &&& (8 : Int32))), (.ref b230)])) _
      by_cases hf : (p4 &&& (8 : Int32)) = (0 : Int32)
      · refine XS.ifYes X300.here hx rfl (pc0 := 144) (pc' := 151) rfl (hb hby at_144) rfl (Jvm.Free.XT.i0_eq_t hf) (by decide) (by decide) ?_
        show Steps p.tables e below (T300.setTop (mkF m 151 #[.val (.int p1), .val (.int p2), .val (.int p3), .val (.int p4), .val (.int ((1 : Int32) + (p1 &&& (1023 : Int32)))), .val (.ref b155), .val (.ref b186), .val (.ref b230), .val (.int (1 : Int32)), .unset] [(.ref b230)])) _
        refine XS.iconst X300.here hx rfl (hb hby at_151) ?_
        show Steps p.tables e below (T300.setTop (mkF m 152 #[.val (.int p1), .val (.int p2), .val (.int p3), .val (.int p4), .val (.int ((1 : Int32) + (p1 &&& (1023 : Int32)))), .val (.ref b155), .val (.ref b186), .val (.ref b230), .val (.int (1 : Int32)), .unset] [(.int (0 : Int32)), (.ref b230)])) _
        rw [hr8, if_pos hf] at k
        exact k
      · refine XS.ifNo X300.here hx rfl (hb hby at_144) rfl (Jvm.Free.XT.i0_eq_f hf) ?_
        show Steps p.tables e below (T300.setTop (mkF m 147 #[.val (.int p1), .val (.int p2), .val (.int p3), .val (.int p4), .val (.int ((1 : Int32) + (p1 &&& (1023 : Int32)))), .val (.ref b155), .val (.ref b186), .val (.ref b230), .val (.int (1 : Int32)), .unset] [(.ref b230)])) _
        refine XS.iconst X300.here hx rfl (hb hby at_147) ?_
        show Steps p.tables e below (T300.setTop (mkF m 148 #[.val (.int p1), .val (.int p2), .val (.int p3), .val (.int p4), .val (.int ((1 : Int32) + (p1 &&& (1023 : Int32)))), .val (.ref b155), .val (.ref b186), .val (.ref b230), .val (.int (1 : Int32)), .unset] [(.int (1 : Int32)), (.ref b230)])) _
        refine XS.goto X300.here hx rfl (pc0 := 148) (pc' := 152) rfl (hb hby at_148) (by decide) (by decide) ?_
        show Steps p.tables e below (T300.setTop (mkF m 152 #[.val (.int p1), .val (.int p2), .val (.int p3), .val (.int p4), .val (.int ((1 : Int32) + (p1 &&& (1023 : Int32)))), .val (.ref b155), .val (.ref b186), .val (.ref b230), .val (.int (1 : Int32)), .unset] [(.int (1 : Int32)), (.ref b230)])) _
        rw [hr8, if_neg hf] at k
        exact k
    show own_G p.tables e below s _ _ _ (T300.setTop (mkF m 152 #[.val (.int p1), .val (.int p2), .val (.int p3), .val (.int p4), .val (.int ((1 : Int32) + (p1 &&& (1023 : Int32)))), .val (.ref b155), .val (.ref b186), .val (.ref b230), .val (.int (1 : Int32)), .unset] [(.int r8), (.ref b230)]))
    obtain ⟨cq301, kq301, q301a, q301b, q301c⟩ := isOf hZ hh300 f297
    obtain ⟨_, _, ⟨T301, L301, k301, n301⟩, -, X301, ⟨Lc301, hQ301, l301, y301, z301⟩, st301⟩ := X300.virtualBack hx (y := (⟨"com/example/sumac/sumac/RedBlackTreeMap$NodeStack", "step", "(Z)Lcom/example/sumac/sumac/RedBlackTreeMap$Node;"⟩ : MethodName)) (z := (⟨"com/example/sumac/sumac/RedBlackTreeMap$NodeStack", "step", "(Z)Lcom/example/sumac/sumac/RedBlackTreeMap$Node;"⟩ : MethodName)) hown (mvT hZ (hw _ (List.mem_of_getElem? (i := 66) rfl))) (mvT hZ (hw _ (List.mem_of_getElem? (i := 67) rfl))) (notFace_of_selects (args := #[]) (mvT hZ (hw _ (List.mem_of_getElem? (i := 69) rfl)))) (mvT hZ (hw _ (List.mem_of_getElem? (i := 69) rfl))) (mvT hZ (hw _ (List.mem_of_getElem? (i := 68) rfl))) (by decide) (backOf (W := 0) (rmt2 l Z a0 hw [] b230 na b155 b186 k1 (own_ht (p1 &&& (1023 : Int32))) r8 T289.heap n0 z298 f297 Fn289 Fd289 Vn289 ne_b230 g231 gna hf3 f295 f296 n233) hZ (hw _ (List.mem_of_getElem? (i := 70) rfl)) (hw _ (List.mem_of_getElem? (i := 24) rfl)) (by decide) (by decide)) q301a q301c (g := (mkF m 152 #[.val (.int p1), .val (.int p2), .val (.int p3), .val (.int p4), .val (.int ((1 : Int32) + (p1 &&& (1023 : Int32)))), .val (.ref b155), .val (.ref b186), .val (.ref b230), .val (.int (1 : Int32)), .unset] [(.int r8), (.ref b230)])) rfl (by rw [hml]; rfl) (Steps.refl _) (argsL := [(.int r8)]) (rest := []) (lenOf pd__Z_Lcom_example_sumac_sumac_RedBlackTreeMap_Node_ rfl) rfl (by show 2 * 0 + _ ≤ _; exact Nat.le_of_eq rfl) (hb hby at_152) (fun _ _ => ⟨rfl, hh300, (by decide : 8 + 0 ≤ _), (by decide : 38 + 0 ≤ _)⟩)
    dsimp only [Pt.U, Pt.locs, Pt.cells, Pt.slots] at X301 l301 y301 z301 st301 hQ301
    subst l301 y301 z301
    obtain ⟨rfl, N301q, K301, Fn301, Fd301⟩ := hQ301
    have N301 := Fr.app N300 N301q
    refine own_go (fun t k => st301.trans k) ?_
    have f302 := f290.keep K301 (fun x => (fun q => (List.mem_cons.mp q).elim (fun e => e ▸ g231) (fun q => nomatch q)))
    have f303 := f291.keep K301
    have f304 := f292.keep K301 (fun q => (List.mem_cons.mp q).elim n232 (fun q => nomatch q))
    have f305 := f293.keep K301 (fun q => (List.mem_cons.mp q).elim n232 (fun q => nomatch q))
    have f306 := f294.keep K301
    have f307 := f295.keep K301 (fun q => (List.mem_cons.mp q).elim n233 (fun q => nomatch q))
    have f308 := f296.keep K301 (fun q => (List.mem_cons.mp q).elim n233 (fun q => nomatch q))
    have f309 := f297.keep K301
    have f310 := Vn289.keep K301 (fun q => (List.mem_cons.mp q).elim (Ne.symm ne_b230) (fun q => nomatch q))
    have z311 := Nat.le_trans z298 K301.1
    show own_G p.tables e below s _ _ _ (T301.setTop (mkF m 155 #[.val (.int p1), .val (.int p2), .val (.int p3), .val (.int p4), .val (.int ((1 : Int32) + (p1 &&& (1023 : Int32)))), .val (.ref b155), .val (.ref b186), .val (.ref b230), .val (.int (1 : Int32)), .unset] [(.ref b186)]))
    refine own_go (fun t k => XS.astore X301.here hx rfl (hb hby at_155) rfl rfl (l' := #[.val (.int p1), .val (.int p2), .val (.int p3), .val (.int p4), .val (.int ((1 : Int32) + (p1 &&& (1023 : Int32)))), .val (.ref b155), .val (.ref b186), .val (.ref b230), .val (.int (1 : Int32)), .val (.ref b186)]) rfl k) ?_
    show own_G p.tables e below s _ _ _ (T301.setTop (mkF m 157 #[.val (.int p1), .val (.int p2), .val (.int p3), .val (.int p4), .val (.int ((1 : Int32) + (p1 &&& (1023 : Int32)))), .val (.ref b155), .val (.ref b186), .val (.ref b230), .val (.int (1 : Int32)), .val (.ref b186)] []))
    refine own_go (fun t k => XS.aload X301.here hx rfl (hb hby at_157) rfl rfl k) ?_
    show own_G p.tables e below s _ _ _ (T301.setTop (mkF m 159 #[.val (.int p1), .val (.int p2), .val (.int p3), .val (.int p4), .val (.int ((1 : Int32) + (p1 &&& (1023 : Int32)))), .val (.ref b155), .val (.ref b186), .val (.ref b230), .val (.int (1 : Int32)), .val (.ref b186)] [(.ref b186)]))
    refine own_go (fun t k => XS.aload X301.here hx rfl (hb hby at_159) rfl rfl k) ?_
    show own_G p.tables e below s _ _ _ (T301.setTop (mkF m 161 #[.val (.int p1), .val (.int p2), .val (.int p3), .val (.int p4), .val (.int ((1 : Int32) + (p1 &&& (1023 : Int32)))), .val (.ref b155), .val (.ref b186), .val (.ref b230), .val (.int (1 : Int32)), .val (.ref b186)] [(.ref b186), (.ref b186)]))
    refine own_go (fun t k => Jvm.Free.XT.acmpYes X301.here hx rfl (pc0 := 161) (pc' := 166) rfl (hb hby at_161) rfl rfl rfl (Jvm.Free.XT.aa_eq_t rfl) (by decide) (by decide) k) ?_
    show own_G p.tables e below s _ _ _ (T301.setTop (mkF m 166 #[.val (.int p1), .val (.int p2), .val (.int p3), .val (.int p4), .val (.int ((1 : Int32) + (p1 &&& (1023 : Int32)))), .val (.ref b155), .val (.ref b186), .val (.ref b230), .val (.int (1 : Int32)), .val (.ref b186)] []))
    refine own_go (fun t k => XS.iload X301.here hx rfl (hb hby at_166) rfl k) ?_
    show own_G p.tables e below s _ _ _ (T301.setTop (mkF m 168 #[.val (.int p1), .val (.int p2), .val (.int p3), .val (.int p4), .val (.int ((1 : Int32) + (p1 &&& (1023 : Int32)))), .val (.ref b155), .val (.ref b186), .val (.ref b230), .val (.int (1 : Int32)), .val (.ref b186)] [(.int (1 : Int32))]))
    refine own_go (fun t k => XS.ifNo X301.here hx rfl (hb hby at_168) rfl (by decide) k) ?_
    show own_G p.tables e below s _ _ _ (T301.setTop (mkF m 171 #[.val (.int p1), .val (.int p2), .val (.int p3), .val (.int p4), .val (.int ((1 : Int32) + (p1 &&& (1023 : Int32)))), .val (.ref b155), .val (.ref b186), .val (.ref b230), .val (.int (1 : Int32)), .val (.ref b186)] []))
    refine own_go (fun t k => XS.aload X301.here hx rfl (hb hby at_171) rfl rfl k) ?_
    show own_G p.tables e below s _ _ _ (T301.setTop (mkF m 173 #[.val (.int p1), .val (.int p2), .val (.int p3), .val (.int p4), .val (.int ((1 : Int32) + (p1 &&& (1023 : Int32)))), .val (.ref b155), .val (.ref b186), .val (.ref b230), .val (.int (1 : Int32)), .val (.ref b186)] [(.ref b230)]))
    obtain ⟨cq312, kq312, q312a, q312b, q312c⟩ := isOf hZ rfl f309
    obtain ⟨_, _, ⟨T312, L312, k312, n312⟩, -, X312, ⟨Lc312, hQ312, l312, y312, z312⟩, st312⟩ := X301.virtualBack hx (y := (⟨"com/example/sumac/sumac/RedBlackTreeMap$NodeStack", "isEmpty", "()Z"⟩ : MethodName)) (z := (⟨"com/example/sumac/sumac/RedBlackTreeMap$NodeStack", "isEmpty", "()Z"⟩ : MethodName)) hown (mvT hZ (hw _ (List.mem_of_getElem? (i := 48) rfl))) (mvT hZ (hw _ (List.mem_of_getElem? (i := 49) rfl))) (notFace_of_selects (args := #[]) (mvT hZ (hw _ (List.mem_of_getElem? (i := 51) rfl)))) (mvT hZ (hw _ (List.mem_of_getElem? (i := 51) rfl))) (mvT hZ (hw _ (List.mem_of_getElem? (i := 50) rfl))) (by decide) (backOf (W := 0) (rme l Z a0 hw [] b230 (1 : Int32) (0 : Int32) T301.heap n0 z311 Fd301 (by decide)) hZ (hw _ (List.mem_of_getElem? (i := 52) rfl)) (hw _ (List.mem_of_getElem? (i := 24) rfl)) (by decide) (by decide)) q312a q312c (g := (mkF m 173 #[.val (.int p1), .val (.int p2), .val (.int p3), .val (.int p4), .val (.int ((1 : Int32) + (p1 &&& (1023 : Int32)))), .val (.ref b155), .val (.ref b186), .val (.ref b230), .val (.int (1 : Int32)), .val (.ref b186)] [(.ref b230)])) rfl (by rw [hml]; rfl) (Steps.refl _) (argsL := []) (rest := []) (lenOf pd___Z rfl) rfl (by show 2 * 0 + _ ≤ _; exact Nat.le_of_eq rfl) (hb hby at_173) (fun _ _ => ⟨rfl, rfl, (by decide : 8 + 0 ≤ _), (by decide : 38 + 0 ≤ _)⟩)
    dsimp only [Pt.U, Pt.locs, Pt.cells, Pt.slots] at X312 l312 y312 z312 st312 hQ312
    subst l312 y312 z312
    obtain ⟨rfl, N312q, hh312⟩ := hQ312
    have N312 := Fr.app N301 N312q
    refine own_go (fun t k => st312.trans k) ?_
    show own_G p.tables e below s _ _ _ (T312.setTop (mkF m 176 #[.val (.int p1), .val (.int p2), .val (.int p3), .val (.int p4), .val (.int ((1 : Int32) + (p1 &&& (1023 : Int32)))), .val (.ref b155), .val (.ref b186), .val (.ref b230), .val (.int (1 : Int32)), .val (.ref b186)] [(.int (0 : Int32))]))
    refine own_go (fun t k => XS.ifNo X312.here hx rfl (hb hby at_176) rfl (by decide) k) ?_
    show own_G p.tables e below s _ _ _ (T312.setTop (mkF m 179 #[.val (.int p1), .val (.int p2), .val (.int p3), .val (.int p4), .val (.int ((1 : Int32) + (p1 &&& (1023 : Int32)))), .val (.ref b155), .val (.ref b186), .val (.ref b230), .val (.int (1 : Int32)), .val (.ref b186)] []))
    refine own_go (fun t k => XS.aload X312.here hx rfl (hb hby at_179) rfl rfl k) ?_
    show own_G p.tables e below s _ _ _ (T312.setTop (mkF m 181 #[.val (.int p1), .val (.int p2), .val (.int p3), .val (.int p4), .val (.int ((1 : Int32) + (p1 &&& (1023 : Int32)))), .val (.ref b155), .val (.ref b186), .val (.ref b230), .val (.int (1 : Int32)), .val (.ref b186)] [(.ref b230)]))
    obtain ⟨cq313, kq313, q313a, q313b, q313c⟩ := isOf hZ hh312 f309
    obtain ⟨_, _, ⟨T313, L313, k313, n313⟩, -, X313, ⟨Lc313, hQ313, l313, y313, z313⟩, st313⟩ := X312.virtualBack hx (y := (⟨"com/example/sumac/sumac/RedBlackTreeMap$NodeStack", "peek", "()Lcom/example/sumac/sumac/RedBlackTreeMap$Node;"⟩ : MethodName)) (z := (⟨"com/example/sumac/sumac/RedBlackTreeMap$NodeStack", "peek", "()Lcom/example/sumac/sumac/RedBlackTreeMap$Node;"⟩ : MethodName)) hown (mvT hZ (hw _ (List.mem_of_getElem? (i := 61) rfl))) (mvT hZ (hw _ (List.mem_of_getElem? (i := 62) rfl))) (notFace_of_selects (args := #[]) (mvT hZ (hw _ (List.mem_of_getElem? (i := 64) rfl)))) (mvT hZ (hw _ (List.mem_of_getElem? (i := 64) rfl))) (mvT hZ (hw _ (List.mem_of_getElem? (i := 63) rfl))) (by decide) (backOf (W := 0) (rmk1 l Z a0 hw [] b230 na b155 ((.ref b186) : Value) k1 (own_ht (p1 &&& (1023 : Int32))) T301.heap n0 z311 Fn301 Fd301 f310 hf3) hZ (hw _ (List.mem_of_getElem? (i := 65) rfl)) (hw _ (List.mem_of_getElem? (i := 24) rfl)) (by decide) (by decide)) q313a q313c (g := (mkF m 181 #[.val (.int p1), .val (.int p2), .val (.int p3), .val (.int p4), .val (.int ((1 : Int32) + (p1 &&& (1023 : Int32)))), .val (.ref b155), .val (.ref b186), .val (.ref b230), .val (.int (1 : Int32)), .val (.ref b186)] [(.ref b230)])) rfl (by rw [hml]; rfl) (Steps.refl _) (argsL := []) (rest := []) (lenOf pd___Lcom_example_sumac_sumac_RedBlackTreeMap_Node_ rfl) rfl (by show 2 * 0 + _ ≤ _; exact Nat.le_of_eq rfl) (hb hby at_181) (fun _ _ => ⟨rfl, hh312, (by decide : 8 + 0 ≤ _), (by decide : 38 + 0 ≤ _)⟩)
    dsimp only [Pt.U, Pt.locs, Pt.cells, Pt.slots] at X313 l313 y313 z313 st313 hQ313
    subst l313 y313 z313
    obtain ⟨rfl, N313q, hh313⟩ := hQ313
    have N313 := Fr.app N312 N313q
    refine own_go (fun t k => st313.trans k) ?_
    show own_G p.tables e below s _ _ _ (T313.setTop (mkF m 184 #[.val (.int p1), .val (.int p2), .val (.int p3), .val (.int p4), .val (.int ((1 : Int32) + (p1 &&& (1023 : Int32)))), .val (.ref b155), .val (.ref b186), .val (.ref b230), .val (.int (1 : Int32)), .val (.ref b186)] [(.ref b155)]))
    refine own_go (fun t k => XS.aload X313.here hx rfl (hb hby at_184) rfl rfl k) ?_
    show own_G p.tables e below s _ _ _ (T313.setTop (mkF m 186 #[.val (.int p1), .val (.int p2), .val (.int p3), .val (.int p4), .val (.int ((1 : Int32) + (p1 &&& (1023 : Int32)))), .val (.ref b155), .val (.ref b186), .val (.ref b230), .val (.int (1 : Int32)), .val (.ref b186)] [(.ref b155), (.ref b155)]))
    refine own_go (fun t k => Jvm.Free.XT.acmpNo X313.here hx rfl (hb hby at_186) rfl rfl rfl (Jvm.Free.XT.aa_ne_f rfl) k) ?_
    show own_G p.tables e below s _ _ _ (T313.setTop (mkF m 189 #[.val (.int p1), .val (.int p2), .val (.int p3), .val (.int p4), .val (.int ((1 : Int32) + (p1 &&& (1023 : Int32)))), .val (.ref b155), .val (.ref b186), .val (.ref b230), .val (.int (1 : Int32)), .val (.ref b186)] []))
    refine own_go (fun t k => XS.iconst X313.here hx rfl (hb hby at_189) k) ?_
    show own_G p.tables e below s _ _ _ (T313.setTop (mkF m 190 #[.val (.int p1), .val (.int p2), .val (.int p3), .val (.int p4), .val (.int ((1 : Int32) + (p1 &&& (1023 : Int32)))), .val (.ref b155), .val (.ref b186), .val (.ref b230), .val (.int (1 : Int32)), .val (.ref b186)] [(.int (1 : Int32))]))
    refine own_go (fun t k => XS.goto X313.here hx rfl (pc0 := 190) (pc' := 194) rfl (hb hby at_190) (by decide) (by decide) k) ?_
    show own_G p.tables e below s _ _ _ (T313.setTop (mkF m 194 #[.val (.int p1), .val (.int p2), .val (.int p3), .val (.int p4), .val (.int ((1 : Int32) + (p1 &&& (1023 : Int32)))), .val (.ref b155), .val (.ref b186), .val (.ref b230), .val (.int (1 : Int32)), .val (.ref b186)] [(.int (1 : Int32))]))
    exact own_retN X313 hx hlk (t := .boolean) (z' := (1 : Int32)) Bd.returns (by simp) (hb hby at_194) (rfl) (by rw [hh313]; exact ⟨rfl, N313⟩) (by decide) (by decide)
set_option maxRecDepth 65536 in
set_option maxHeartbeats 40000000 in
theorem comes_1 {Post : Tables → Env → Array Value → State → Outcome → State → Prop} (hpost : ∀ tb e args s v u, (limb_1_1.after args s (.returned v) u = true ∧ limb_1_2.after args s (.returned v) u = true ∧ True) → FrameEnd s (.returned v) u (Jvm.fieldLocs frame_1_writes args s ++ Jvm.arrayLocs frame_1_arrays args s ++ Jvm.staticLocs frame_1_statics s) 24 192 → Post tb e args s (.returned v) u) :
    ArmFor flags0 classFile x code maxLocals ret World_1 tables_1 room_1 Calls_1 rest_1 Pre_1 Post := by
  intro l hfl _ _ p e ha hc hk s m args below hf hA hF happ hP
  obtain ⟨hcalls, hrest, hpre⟩ := hP
  obtain ⟨-, -, -, hnamed, -, -, -, hat⟩ := (Spec.applies_iff hf).mp happ
  obtain ⟨hg, hn⟩ := and_e (Cond.before_iff.mp (show (Jvm.Cond.and given_1 narrow_1).before args s = true from hpre))
  obtain ⟨gc, g0'⟩ := and_e hg
  obtain ⟨ga0, g1'⟩ := and_e g0'
  obtain ⟨ga1, g2'⟩ := and_e g1'
  obtain ⟨ga2, g3'⟩ := and_e g2'
  have ga3 := g3'
  obtain ⟨w0, w1, w2, w3, rfl⟩ : ∃ w0 w1 w2 w3 : Value, args = #[w0, w1, w2, w3] := by
    have hs : args.size = 4 := by simpa [Cond.value, given_1] using gc
    obtain ⟨L⟩ := args
    match L, hs with
    | [w0, w1, w2, w3], _ => exact ⟨w0, w1, w2, w3, rfl⟩
  have hw := fun d (hd : d ∈ tables_1) => atoms_spec (ws := Jvm.Cond.code x code maxLocals ret :: tables_1) hat d (List.mem_cons_of_mem _ hd)
  have hfit : Fit s := fun {y c} hc i hi => by
    obtain ⟨ha, rfl⟩ := Array.getElem?_eq_some_iff.mp hc
    have q := List.all_eq_true.mp ((Array.all_eq_true_iff_forall_mem.mp hF) _ (Array.getElem_mem ha)) i (List.mem_range.mpr hi)
    simpa [Array.getElem?_eq_getElem hi] using q
  obtain ⟨hsets, hown0⟩ := atoms_of _ (rest_1_c_eq ▸ (show rest_1_c.before _ s = true from hrest))
  have hr0 := Cond.before_iff.mp hown0
  obtain ⟨i0, ei0⟩ := is_v ga0
  obtain rfl : w0 = (.int i0) := Option.some.inj ei0
  obtain ⟨i1, ei1⟩ := is_v ga1
  obtain rfl : w1 = (.int i1) := Option.some.inj ei1
  obtain ⟨i2, ei2⟩ := is_v ga2
  obtain rfl : w2 = (.int i2) := Option.some.inj ei2
  obtain ⟨i3, ei3⟩ := is_v ga3
  obtain rfl : w3 = (.int i3) := Option.some.inj ei3
  have eh := own_eqI (Cond.before_iff.mp (hsets _ (List.mem_of_getElem? (i := 3) rfl)))
  obtain ⟨ca, eca⟩ := arr_v (Cond.before_iff.mp (hsets _ (List.mem_of_getElem? (i := 4) rfl)))
  obtain ⟨cl, A⟩ := Arr.start eca (Cond.before_iff.mp (hsets _ (List.mem_of_getElem? (i := 4) rfl)))
  obtain ⟨l1, l2⟩ := own_len eca A (own_eqI (Cond.before_iff.mp (hsets _ (List.mem_of_getElem? (i := 6) rfl))))
  have l3 : cl.slots.size = 256 := by
    have q := len_toInt l1
    rw [l2] at q
    have : (256 : Int32).toInt = 256 := rfl
    omega
  have C0 : own_C s s.heap ca cl := ⟨Sta.start eh (Or.inl (hsets _ (List.mem_of_getElem? (i := 1) rfl))), Sta.start eca (Or.inr ⟨(hw _ (List.mem_of_getElem? (i := 8) rfl)), hsets _ (List.mem_of_getElem? (i := 2) rfl)⟩), A, l3, fun j hj => by
    obtain ⟨w, h1, h2⟩ := elem_fit hfit A hj
    exact ⟨w, h1, by cases w <;> first | rfl | cases h2⟩⟩
  obtain ⟨n, o, h1, h2, h3, _, L, rfl, ⟨rfl, N⟩, hq⟩ := rm0 l s _ hw tables_1 i0 i1 i2 i3 ca cl s.heap s.heap.size (Nat.le_refl _) (Old.start s) C0 p e ha hc hk s m _ below hf ((Spec.applies_iff_loose hf).mp happ).1 ⟨rfl, State.Warmed39.refl s, rfl⟩ trivial
  refine ⟨n, _, h1, h2, h3, hpost _ _ _ _ _ _ ⟨Cond.after_iff.mpr rfl, Cond.after_iff.mpr (eq_i res_at (Term.int_eval (1)) rfl), trivial⟩ ⟨hq.1, hq.2.1, (hq.2.2.sift fun y hy => Or.inr (N y hy)).mono (by decide) (by decide)⟩⟩
theorem main_1_1 : Claimed_1_1 := comes_1 fun _ _ _ _ _ _ h hF => ⟨h.1, hF⟩
theorem main_1_2 : Claimed_1_2 := comes_1 fun _ _ _ _ _ _ h hF => ⟨h.2.1, hF⟩
end Jvm.Pilot.@@N@@
namespace Jvm.Pilot.@@N@@
open Jvm Jvm.ClassFile Sem Op Lib Jvm.Free Jvm.Stand Jvm.Pilot.@@N@@.Jvm.D
/-! MADE BY PROGRAM (witnessworld.py) out of the Statement's table words and the real class files: 26 classes; the members and pool entries that the words name. The judged class is class 1, her method 1. -/
namespace start1
open Jvm.ClassFile
def u (s : String) : CpInfo := .utf8 (stringToUtf16 s)
/-- a pool by its gaps: so many unusable entries, then the entry; so many at the end -/
def gap : Nat → List CpInfo → List CpInfo
  | 0, r => r
  | n + 1, r => .unusable :: gap n r
def poolList (es : List (Nat × CpInfo)) (last : Nat) : List CpInfo := es.foldr (fun e r => gap e.1 (e.2 :: r)) (gap last [])
def pool (es : List (Nat × CpInfo)) (last : Nat) : Array CpInfo := ⟨poolList es last⟩
def fileOf (pool : Array CpInfo) (this : Nat) (attrs : Array Attribute := #[]) (ms : Array MethodInfo := #[]) (fl : Nat := 33) (sup : Nat := 0) (ifs : Array Nat := #[]) (fds : Array FieldInfo := #[]) : ClassFile where
  minorVersion := 0
  majorVersion := 65
  constantPool := pool
  accessFlags := fl
  thisClass := this
  superClass := sup
  interfaces := ifs
  fields := fds
  methods := ms
  attributes := attrs
def plain (name : String) (sup : Option ClassId) : Class where
  name := name
  kind := .ordinary
  loader := none
  accessFlags := 33
  super := sup
  interfaces := #[]
  cf := none
  fields := #[]
  methods := #[]
  instanceTypes := #[]
  staticTypes := #[]
  resolved := #[]
  callSites := []
  init := .initialized
  statics := none
  mirror := none

def pool0 : Array CpInfo := pool [(5, u "<init>"), (0, u "()V"), (1, .class_ 10), (1, u "java/lang/Object")] 113

def k0c0 : Code := { maxStack := 0, maxLocals := 1, code := object_method_1_code, exceptionTable := #[], attributes := #[] }
def k0m0 : Method := { name := "<init>", desc := "()V", sig := { parameters := [], returnType := none }, accessFlags := 1, code := some k0c0 }
/-- java/lang/Object -/
def k0 : Class := { plain "java/lang/Object" none with
  accessFlags := 33
  interfaces := #[]
  cf := some (fileOf pool0 8 #[] #[{ accessFlags := 1, nameIndex := 5, descriptorIndex := 6, attributes := #[] }] 33 0 #[] #[])
  fields := #[]
  methods := #[k0m0]
  instanceTypes := #[]
  staticTypes := #[]
  resolved := Array.replicate 124 none
  statics := none }

def pool1 : Array CpInfo := pool [(2, .class_ 4), (1, u "java/lang/Object"), (0, u "<init>"), (0, u "()V"), (0, .class_ 8), (0, u "com/example/sumac/sumac/RedBlackTreeMap$Node"), (0, .methodref 10 11), (0, .class_ 12), (0, .nameAndType 13 14), (0, u "java/lang/Integer"), (0, u "valueOf"), (0, u "(I)Ljava/lang/Integer;"), (0, .methodref 7 16), (0, .nameAndType 5 17), (0, u "(Ljava/lang/Object;Ljava/lang/Object;Z)V"), (0, .class_ 19), (0, u "com/example/sumac/sumac/RedBlackTreeMap$NodeStack"), (0, .methodref 18 21), (0, .nameAndType 5 22), (0, u "(I)V"), (0, .methodref 18 24), (0, .nameAndType 25 26), (0, u "isEmpty"), (0, u "()Z"), (0, .methodref 18 28), (0, .nameAndType 29 30), (0, u "push"), (0, u "(Lcom/example/sumac/sumac/RedBlackTreeMap$Node;)V"), (0, .methodref 18 32), (0, .nameAndType 33 34), (0, u "peek"), (0, u "()Lcom/example/sumac/sumac/RedBlackTreeMap$Node;"), (0, .methodref 18 36), (0, .nameAndType 37 38), (0, u "step"), (0, u "(Z)Lcom/example/sumac/sumac/RedBlackTreeMap$Node;"), (0, .class_ 40), (0, u "com/example/sumac/sumac/NodeStackPushPinLaw"), (2, u "law"), (0, u "(IIII)Z")] 8

def k1m0 : Method := { name := "<init>", desc := "()V", sig := { parameters := [], returnType := none }, accessFlags := 1, code := none }
def k1c1 : Code := { maxStack := 6, maxLocals := 10, code := code, exceptionTable := #[], attributes := #[] }
def k1m1 : Method := { name := "law", desc := "(IIII)Z", sig := { parameters := [.int, .int, .int, .int], returnType := some .boolean }, accessFlags := 9, code := some k1c1 }
/-- com/example/sumac/sumac/NodeStackPushPinLaw -/
def k1 : Class := { plain "com/example/sumac/sumac/NodeStackPushPinLaw" (some 0) with
  accessFlags := 49
  interfaces := #[]
  cf := some (fileOf pool1 39 #[] #[{ accessFlags := 1, nameIndex := 5, descriptorIndex := 6, attributes := #[] }, { accessFlags := 9, nameIndex := 43, descriptorIndex := 44, attributes := #[] }] 49 2 #[] #[])
  fields := #[]
  methods := #[k1m0, k1m1]
  instanceTypes := #[]
  staticTypes := #[]
  resolved := Array.replicate 53 none
  statics := none }

def pool2 : Array CpInfo := pool [(23, .class_ 25), (1, u "java/util/Map$Entry"), (6, .class_ 34), (1, u "java/util/Map"), (34, .class_ 70), (0, u "java/lang/Object")] 107

/-- java/util/Map$Entry -/
def k2 : Class := { plain "java/util/Map$Entry" (some 0) with
  accessFlags := 1537
  interfaces := #[]
  cf := some (fileOf pool2 23 #[.nestHost 32] #[] 1537 69 #[] #[])
  fields := #[]
  methods := #[]
  instanceTypes := #[]
  staticTypes := #[]
  resolved := Array.replicate 178 none
  statics := none }

def pool3 : Array CpInfo := pool [(3, .methodref 4 5), (0, .class_ 6), (0, .nameAndType 7 8), (0, u "java/lang/Object"), (0, u "<init>"), (0, u "()V"), (0, .fieldref 10 11), (0, .class_ 12), (0, .nameAndType 13 14), (0, u "com/example/sumac/sumac/RedBlackTreeMap$Node"), (0, u "key"), (0, u "Ljava/lang/Object;"), (0, .fieldref 10 16), (0, .nameAndType 17 14), (0, u "value"), (0, .integer 2147483649), (0, .fieldref 10 20), (0, .nameAndType 21 22), (0, u "sizeAndColour"), (0, u "I"), (2, .class_ 26), (0, u "java/util/Map$Entry"), (27, u "RED"), (1, u "left"), (0, u "Lcom/example/sumac/sumac/RedBlackTreeMap$Node;"), (2, u "right"), (2, u "(Ljava/lang/Object;Ljava/lang/Object;Z)V"), (31, .class_ 96), (0, u "com/example/sumac/sumac/RedBlackTreeMap")] 19

def k3c0 : Code := { maxStack := 2, maxLocals := 4, code := prog_6_method_1_code, exceptionTable := #[], attributes := #[] }
def k3m0 : Method := { name := "<init>", desc := "(Ljava/lang/Object;Ljava/lang/Object;Z)V", sig := { parameters := [(.object "java/lang/Object"), (.object "java/lang/Object"), .boolean], returnType := none }, accessFlags := 0, code := some k3c0 }
/-- com/example/sumac/sumac/RedBlackTreeMap$Node -/
def k3 : Class := { plain "com/example/sumac/sumac/RedBlackTreeMap$Node" (some 0) with
  accessFlags := 48
  interfaces := #[2]
  cf := some (fileOf pool3 10 #[.nestHost 95] #[{ accessFlags := 0, nameIndex := 7, descriptorIndex := 63, attributes := #[] }] 48 4 #[25] #[{ accessFlags := 26, nameIndex := 54, descriptorIndex := 22, attributes := #[] }, { accessFlags := 0, nameIndex := 56, descriptorIndex := 57, attributes := #[] }, { accessFlags := 0, nameIndex := 60, descriptorIndex := 57, attributes := #[] }, { accessFlags := 0, nameIndex := 13, descriptorIndex := 14, attributes := #[] }, { accessFlags := 0, nameIndex := 17, descriptorIndex := 14, attributes := #[] }, { accessFlags := 2, nameIndex := 21, descriptorIndex := 22, attributes := #[] }])
  fields := #[{ name := "RED", type := .int, accessFlags := 26, slot := 0, constantValue := 0 }, { name := "left", type := (.object "com/example/sumac/sumac/RedBlackTreeMap$Node"), accessFlags := 0, slot := 0, constantValue := 0 }, { name := "right", type := (.object "com/example/sumac/sumac/RedBlackTreeMap$Node"), accessFlags := 0, slot := 1, constantValue := 0 }, { name := "key", type := (.object "java/lang/Object"), accessFlags := 0, slot := 2, constantValue := 0 }, { name := "value", type := (.object "java/lang/Object"), accessFlags := 0, slot := 3, constantValue := 0 }, { name := "sizeAndColour", type := .int, accessFlags := 2, slot := 4, constantValue := 0 }]
  methods := #[k3m0]
  instanceTypes := #[(.object "com/example/sumac/sumac/RedBlackTreeMap$Node"), (.object "com/example/sumac/sumac/RedBlackTreeMap$Node"), (.object "java/lang/Object"), (.object "java/lang/Object"), .int]
  staticTypes := #[.int]
  resolved := Array.replicate 116 none
  statics := none }

def pool4 : Array CpInfo := pool [(1, .class_ 2), (0, u "java/io/Serializable"), (0, .class_ 4), (0, u "java/lang/Object")] 2

/-- java/io/Serializable -/
def k4 : Class := { plain "java/io/Serializable" (some 0) with
  accessFlags := 1537
  interfaces := #[]
  cf := some (fileOf pool4 1 #[] #[] 1537 3 #[] #[])
  fields := #[]
  methods := #[]
  instanceTypes := #[]
  staticTypes := #[]
  resolved := Array.replicate 7 none
  statics := none }

def pool5 : Array CpInfo := pool [(1, .methodref 2 3), (0, .class_ 4), (0, .nameAndType 5 6), (0, u "java/lang/Object"), (0, u "<init>"), (0, u "()V"), (1, .class_ 10), (1, u "java/lang/Number"), (2, .class_ 14), (0, u "java/io/Serializable"), (0, u "serialVersionUID"), (0, u "J")] 20

def k5c0 : Code := { maxStack := 1, maxLocals := 1, code := jdk_18_method_1_code, exceptionTable := #[], attributes := #[] }
def k5m0 : Method := { name := "<init>", desc := "()V", sig := { parameters := [], returnType := none }, accessFlags := 1, code := some k5c0 }
/-- java/lang/Number -/
def k5 : Class := { plain "java/lang/Number" (some 0) with
  accessFlags := 1057
  interfaces := #[4]
  cf := some (fileOf pool5 8 #[] #[{ accessFlags := 1, nameIndex := 5, descriptorIndex := 6, attributes := #[] }] 1057 2 #[13] #[{ accessFlags := 26, nameIndex := 15, descriptorIndex := 16, attributes := #[] }])
  fields := #[{ name := "serialVersionUID", type := .long, accessFlags := 26, slot := 0, constantValue := 0 }]
  methods := #[k5m0]
  instanceTypes := #[]
  staticTypes := #[.long]
  resolved := Array.replicate 37 none
  statics := none }

def pool6 : Array CpInfo := pool [(1, .class_ 2), (0, u "java/lang/Comparable"), (0, .class_ 4), (0, u "java/lang/Object")] 7

/-- java/lang/Comparable -/
def k6 : Class := { plain "java/lang/Comparable" (some 0) with
  accessFlags := 1537
  interfaces := #[]
  cf := some (fileOf pool6 1 #[] #[] 1537 3 #[] #[])
  fields := #[]
  methods := #[]
  instanceTypes := #[]
  staticTypes := #[]
  resolved := Array.replicate 12 none
  statics := none }

def pool7 : Array CpInfo := pool [(1, .class_ 2), (0, u "java/lang/constant/Constable"), (0, .class_ 4), (0, u "java/lang/Object")] 6

/-- java/lang/constant/Constable -/
def k7 : Class := { plain "java/lang/constant/Constable" (some 0) with
  accessFlags := 1537
  interfaces := #[]
  cf := some (fileOf pool7 1 #[] #[] 1537 3 #[] #[])
  fields := #[]
  methods := #[]
  instanceTypes := #[]
  staticTypes := #[]
  resolved := Array.replicate 11 none
  statics := none }

def pool8 : Array CpInfo := pool [(1, .class_ 2), (0, u "java/lang/constant/ConstantDesc"), (0, .class_ 4), (0, u "java/lang/Object")] 32

/-- java/lang/constant/ConstantDesc -/
def k8 : Class := { plain "java/lang/constant/ConstantDesc" (some 0) with
  accessFlags := 1537
  interfaces := #[]
  cf := some (fileOf pool8 1 #[] #[] 1537 3 #[] #[])
  fields := #[]
  methods := #[]
  instanceTypes := #[]
  staticTypes := #[]
  resolved := Array.replicate 37 none
  statics := none }

def pool9 : Array CpInfo := pool [(1, .class_ 2), (0, u "java/lang/Integer"), (16, u "digits"), (0, u "[C"), (32, u "numberOfLeadingZeros"), (0, u "(I)I"), (12, u "<init>"), (17, u "DigitOnes"), (0, u "[B"), (2, u "DigitTens"), (10, .nameAndType 67 101), (0, u "()V"), (85, u "valueOf"), (0, u "(I)Ljava/lang/Integer;"), (0, .class_ 190), (0, u "java/lang/Integer$IntegerCache"), (0, .fieldref 189 192), (0, .nameAndType 193 194), (0, u "high"), (0, u "I"), (0, .fieldref 189 196), (0, .nameAndType 197 198), (0, u "cache"), (0, u "[Ljava/lang/Integer;"), (0, .methodref 1 200), (0, .nameAndType 67 201), (0, u "(I)V"), (0, .methodref 203 100), (0, .class_ 204), (0, u "java/lang/Number"), (0, .fieldref 1 206), (0, .nameAndType 207 194), (0, u "value"), (56, .integer 65536), (37, u "TYPE"), (0, u "Ljava/lang/Class;"), (0, .class_ 305), (0, u "java/lang/Comparable"), (0, .class_ 307), (0, u "java/lang/constant/Constable"), (0, .class_ 309), (0, u "java/lang/constant/ConstantDesc"), (0, u "MIN_VALUE"), (1, u "MAX_VALUE"), (3, u "SIZE"), (1, u "BYTES"), (1, u "serialVersionUID"), (0, u "J")] 131

def k9c0 : Code := { maxStack := 3, maxLocals := 1, code := jdk_33_method_22_code, exceptionTable := #[], attributes := #[] }
def k9m0 : Method := { name := "valueOf", desc := "(I)Ljava/lang/Integer;", sig := { parameters := [.int], returnType := some (.object "java/lang/Integer") }, accessFlags := 9, code := some k9c0 }
def k9c1 : Code := { maxStack := 2, maxLocals := 2, code := jdk_33_method_23_code, exceptionTable := #[], attributes := #[] }
def k9m1 : Method := { name := "<init>", desc := "(I)V", sig := { parameters := [.int], returnType := none }, accessFlags := 1, code := some k9c1 }
def k9c2 : Code := { maxStack := 3, maxLocals := 2, code := jdk_33_method_47_code, exceptionTable := #[], attributes := #[] }
def k9m2 : Method := { name := "numberOfLeadingZeros", desc := "(I)I", sig := { parameters := [.int], returnType := some .int }, accessFlags := 9, code := some k9c2 }
/-- java/lang/Integer -/
def k9 : Class := { plain "java/lang/Integer" (some 5) with
  accessFlags := 49
  interfaces := #[6, 7, 8]
  cf := some (fileOf pool9 1 #[.nestMembers #[189]] #[{ accessFlags := 9, nameIndex := 187, descriptorIndex := 188, attributes := #[] }, { accessFlags := 1, nameIndex := 67, descriptorIndex := 201, attributes := #[] }, { accessFlags := 9, nameIndex := 53, descriptorIndex := 54, attributes := #[] }] 49 203 #[304, 306, 308] #[{ accessFlags := 25, nameIndex := 310, descriptorIndex := 194, attributes := #[] }, { accessFlags := 25, nameIndex := 312, descriptorIndex := 194, attributes := #[] }, { accessFlags := 25, nameIndex := 302, descriptorIndex := 303, attributes := #[] }, { accessFlags := 24, nameIndex := 19, descriptorIndex := 20, attributes := #[] }, { accessFlags := 24, nameIndex := 89, descriptorIndex := 86, attributes := #[] }, { accessFlags := 24, nameIndex := 85, descriptorIndex := 86, attributes := #[] }, { accessFlags := 18, nameIndex := 207, descriptorIndex := 194, attributes := #[] }, { accessFlags := 25, nameIndex := 316, descriptorIndex := 194, attributes := #[] }, { accessFlags := 25, nameIndex := 318, descriptorIndex := 194, attributes := #[] }, { accessFlags := 26, nameIndex := 320, descriptorIndex := 321, attributes := #[] }])
  fields := #[{ name := "MIN_VALUE", type := .int, accessFlags := 25, slot := 0, constantValue := 0 }, { name := "MAX_VALUE", type := .int, accessFlags := 25, slot := 1, constantValue := 0 }, { name := "TYPE", type := (.object "java/lang/Class"), accessFlags := 25, slot := 2, constantValue := 0 }, { name := "digits", type := (.array .char), accessFlags := 24, slot := 3, constantValue := 0 }, { name := "DigitTens", type := (.array .byte), accessFlags := 24, slot := 4, constantValue := 0 }, { name := "DigitOnes", type := (.array .byte), accessFlags := 24, slot := 5, constantValue := 0 }, { name := "value", type := .int, accessFlags := 18, slot := 0, constantValue := 0 }, { name := "SIZE", type := .int, accessFlags := 25, slot := 6, constantValue := 0 }, { name := "BYTES", type := .int, accessFlags := 25, slot := 7, constantValue := 0 }, { name := "serialVersionUID", type := .long, accessFlags := 26, slot := 8, constantValue := 0 }]
  methods := #[k9m0, k9m1, k9m2]
  instanceTypes := #[.int]
  staticTypes := #[.int, .int, (.object "java/lang/Class"), (.array .char), (.array .byte), (.array .byte), .int, .int, .long]
  resolved := Array.replicate 453 none
  statics := none }

def pool10 : Array CpInfo := pool [(2, .class_ 4), (1, u "java/lang/Object"), (0, u "<init>"), (0, u "()V"), (0, .class_ 8), (0, u "java/lang/Integer"), (7, .class_ 18), (1, u "java/lang/Integer$IntegerCache"), (0, u "$assertionsDisabled"), (0, u "Z"), (26, u "high"), (0, u "I"), (8, u "archivedCache"), (0, u "[Ljava/lang/Integer;"), (12, u "cache"), (0, u "low")] 27

def k10m0 : Method := { name := "<init>", desc := "()V", sig := { parameters := [], returnType := none }, accessFlags := 2, code := none }
/-- java/lang/Integer$IntegerCache -/
def k10 : Class := { plain "java/lang/Integer$IntegerCache" (some 0) with
  accessFlags := 48
  interfaces := #[]
  cf := some (fileOf pool10 16 #[.nestHost 7] #[{ accessFlags := 2, nameIndex := 5, descriptorIndex := 6, attributes := #[] }] 48 2 #[] #[{ accessFlags := 24, nameIndex := 72, descriptorIndex := 48, attributes := #[] }, { accessFlags := 24, nameIndex := 47, descriptorIndex := 48, attributes := #[] }, { accessFlags := 24, nameIndex := 71, descriptorIndex := 58, attributes := #[] }, { accessFlags := 8, nameIndex := 57, descriptorIndex := 58, attributes := #[] }, { accessFlags := 4120, nameIndex := 19, descriptorIndex := 20, attributes := #[] }])
  fields := #[{ name := "low", type := .int, accessFlags := 24, slot := 0, constantValue := 0 }, { name := "high", type := .int, accessFlags := 24, slot := 1, constantValue := 0 }, { name := "cache", type := (.array (.object "java/lang/Integer")), accessFlags := 24, slot := 2, constantValue := 0 }, { name := "archivedCache", type := (.array (.object "java/lang/Integer")), accessFlags := 8, slot := 3, constantValue := 0 }, { name := "$assertionsDisabled", type := .boolean, accessFlags := 4120, slot := 4, constantValue := 0 }]
  methods := #[k10m0]
  instanceTypes := #[]
  staticTypes := #[.int, .int, (.array (.object "java/lang/Integer")), (.array (.object "java/lang/Integer")), .boolean]
  resolved := Array.replicate 100 none
  statics := some 0 }

def pool11 : Array CpInfo := pool [(1, .methodref 2 3), (0, .class_ 4), (0, .nameAndType 5 6), (0, u "java/lang/Object"), (0, u "<init>"), (0, u "()V"), (0, .methodref 8 9), (0, .class_ 10), (0, .nameAndType 11 12), (0, u "com/example/sumac/sumac/RedBlackTreeMap"), (0, u "maxHeight"), (0, u "(J)I"), (0, .methodref 8 14), (0, .nameAndType 15 16), (0, u "newNodeArray"), (0, u "(I)[Lcom/example/sumac/sumac/RedBlackTreeMap$Node;"), (0, .fieldref 18 19), (0, .class_ 20), (0, .nameAndType 21 22), (0, u "com/example/sumac/sumac/RedBlackTreeMap$NodeStack"), (0, u "nodes"), (0, u "[Lcom/example/sumac/sumac/RedBlackTreeMap$Node;"), (0, .fieldref 18 24), (0, .nameAndType 25 26), (0, u "depth"), (0, u "I"), (0, .methodref 18 28), (0, .nameAndType 29 30), (0, u "push"), (0, u "(Lcom/example/sumac/sumac/RedBlackTreeMap$Node;)V"), (0, .methodref 8 32), (0, .nameAndType 33 34), (0, u "child"), (0, u "(Lcom/example/sumac/sumac/RedBlackTreeMap$Node;Z)Lcom/example/sumac/sumac/RedBlackTreeMap$Node;"), (0, .methodref 18 36), (0, .nameAndType 37 38), (0, u "pushSpine"), (0, u "(Lcom/example/sumac/sumac/RedBlackTreeMap$Node;Z)V"), (2, u "(I)V"), (2, u "isEmpty"), (0, u "()Z"), (1, u "peek"), (0, u "()Lcom/example/sumac/sumac/RedBlackTreeMap$Node;"), (6, u "step"), (0, u "(Z)Lcom/example/sumac/sumac/RedBlackTreeMap$Node;")] 8

def k11c0 : Code := { maxStack := 3, maxLocals := 2, code := prog_7_method_1_code, exceptionTable := #[], attributes := #[] }
def k11m0 : Method := { name := "<init>", desc := "(I)V", sig := { parameters := [.int], returnType := none }, accessFlags := 0, code := some k11c0 }
def k11c1 : Code := { maxStack := 1, maxLocals := 1, code := prog_7_method_2_code, exceptionTable := #[], attributes := #[] }
def k11m1 : Method := { name := "isEmpty", desc := "()Z", sig := { parameters := [], returnType := some .boolean }, accessFlags := 0, code := some k11c1 }
def k11c2 : Code := { maxStack := 3, maxLocals := 1, code := prog_7_method_3_code, exceptionTable := #[], attributes := #[] }
def k11m2 : Method := { name := "peek", desc := "()Lcom/example/sumac/sumac/RedBlackTreeMap$Node;", sig := { parameters := [], returnType := some (.object "com/example/sumac/sumac/RedBlackTreeMap$Node") }, accessFlags := 0, code := some k11c2 }
def k11c3 : Code := { maxStack := 5, maxLocals := 2, code := prog_7_method_4_code, exceptionTable := #[], attributes := #[] }
def k11m3 : Method := { name := "push", desc := "(Lcom/example/sumac/sumac/RedBlackTreeMap$Node;)V", sig := { parameters := [(.object "com/example/sumac/sumac/RedBlackTreeMap$Node")], returnType := none }, accessFlags := 0, code := some k11c3 }
def k11c4 : Code := { maxStack := 2, maxLocals := 4, code := prog_7_method_6_code, exceptionTable := #[], attributes := #[] }
def k11m4 : Method := { name := "pushSpine", desc := "(Lcom/example/sumac/sumac/RedBlackTreeMap$Node;Z)V", sig := { parameters := [(.object "com/example/sumac/sumac/RedBlackTreeMap$Node"), .boolean], returnType := none }, accessFlags := 0, code := some k11c4 }
def k11c5 : Code := { maxStack := 4, maxLocals := 3, code := prog_7_method_7_code, exceptionTable := #[], attributes := #[] }
def k11m5 : Method := { name := "step", desc := "(Z)Lcom/example/sumac/sumac/RedBlackTreeMap$Node;", sig := { parameters := [.boolean], returnType := some (.object "com/example/sumac/sumac/RedBlackTreeMap$Node") }, accessFlags := 0, code := some k11c5 }
/-- com/example/sumac/sumac/RedBlackTreeMap$NodeStack -/
def k11 : Class := { plain "com/example/sumac/sumac/RedBlackTreeMap$NodeStack" (some 0) with
  accessFlags := 48
  interfaces := #[]
  cf := some (fileOf pool11 18 #[.nestHost 8] #[{ accessFlags := 0, nameIndex := 5, descriptorIndex := 41, attributes := #[] }, { accessFlags := 0, nameIndex := 44, descriptorIndex := 45, attributes := #[] }, { accessFlags := 0, nameIndex := 47, descriptorIndex := 48, attributes := #[] }, { accessFlags := 0, nameIndex := 29, descriptorIndex := 30, attributes := #[] }, { accessFlags := 0, nameIndex := 37, descriptorIndex := 38, attributes := #[] }, { accessFlags := 0, nameIndex := 55, descriptorIndex := 56, attributes := #[] }] 48 2 #[] #[{ accessFlags := 18, nameIndex := 21, descriptorIndex := 22, attributes := #[] }, { accessFlags := 2, nameIndex := 25, descriptorIndex := 26, attributes := #[] }])
  fields := #[{ name := "nodes", type := (.array (.object "com/example/sumac/sumac/RedBlackTreeMap$Node")), accessFlags := 18, slot := 0, constantValue := 0 }, { name := "depth", type := .int, accessFlags := 2, slot := 1, constantValue := 0 }]
  methods := #[k11m0, k11m1, k11m2, k11m3, k11m4, k11m5]
  instanceTypes := #[(.array (.object "com/example/sumac/sumac/RedBlackTreeMap$Node")), .int]
  staticTypes := #[]
  resolved := Array.replicate 65 none
  statics := none }

def pool12 : Array CpInfo := pool [(2, .class_ 4), (1, u "java/util/Map"), (31, .class_ 37), (0, u "java/util/Map$Entry"), (55, .class_ 94), (0, u "java/lang/Object")] 168

/-- java/util/Map -/
def k12 : Class := { plain "java/util/Map" (some 0) with
  accessFlags := 1537
  interfaces := #[]
  cf := some (fileOf pool12 2 #[.nestMembers #[36]] #[] 1537 93 #[] #[])
  fields := #[]
  methods := #[]
  instanceTypes := #[]
  staticTypes := #[]
  resolved := Array.replicate 263 none
  statics := none }

def pool13 : Array CpInfo := pool [(2, .class_ 4), (1, u "java/lang/Object"), (0, u "<init>"), (0, u "()V"), (1, .class_ 10), (1, u "java/util/AbstractMap"), (42, .class_ 54), (0, u "java/util/Map"), (9, u "keySet"), (0, u "Ljava/util/Set;"), (0, .class_ 67), (0, u "java/util/AbstractMap$1"), (5, u "values"), (0, u "Ljava/util/Collection;"), (0, .class_ 76), (0, u "java/util/AbstractMap$2"), (104, .class_ 182), (0, u "java/util/AbstractMap$ViewCollection"), (0, .class_ 184), (0, u "java/util/AbstractMap$SimpleImmutableEntry"), (0, .class_ 186), (0, u "java/util/AbstractMap$SimpleEntry"), (0, .class_ 188), (0, u "java/util/AbstractMap$2$1"), (0, .class_ 190), (0, u "java/util/AbstractMap$1$1")] 5

def k13m0 : Method := { name := "<init>", desc := "()V", sig := { parameters := [], returnType := none }, accessFlags := 4, code := none }
/-- java/util/AbstractMap -/
def k13 : Class := { plain "java/util/AbstractMap" (some 0) with
  accessFlags := 1057
  interfaces := #[12]
  cf := some (fileOf pool13 8 #[.nestMembers #[181, 183, 185, 75, 187, 66, 189]] #[{ accessFlags := 4, nameIndex := 5, descriptorIndex := 6, attributes := #[] }] 1057 2 #[53] #[{ accessFlags := 128, nameIndex := 64, descriptorIndex := 65, attributes := #[] }, { accessFlags := 128, nameIndex := 73, descriptorIndex := 74, attributes := #[] }])
  fields := #[{ name := "keySet", type := (.object "java/util/Set"), accessFlags := 128, slot := 0, constantValue := 0 }, { name := "values", type := (.object "java/util/Collection"), accessFlags := 128, slot := 1, constantValue := 0 }]
  methods := #[k13m0]
  instanceTypes := #[(.object "java/util/Set"), (.object "java/util/Collection")]
  staticTypes := #[]
  resolved := Array.replicate 196 none
  statics := none }

def pool14 : Array CpInfo := pool [(2, .class_ 4), (1, u "java/util/SequencedMap"), (38, .class_ 44), (0, u "java/util/SequencedMap$1SeqKeySet"), (3, .class_ 49), (0, u "java/util/SequencedMap$1SeqValues"), (1, .class_ 52), (0, u "java/util/SequencedMap$1SeqEntrySet"), (1, .class_ 55), (0, u "java/lang/Object"), (0, .class_ 57), (0, u "java/util/Map")] 48

/-- java/util/SequencedMap -/
def k14 : Class := { plain "java/util/SequencedMap" (some 0) with
  accessFlags := 1537
  interfaces := #[12]
  cf := some (fileOf pool14 2 #[.nestMembers #[51, 48, 43]] #[] 1537 54 #[56] #[])
  fields := #[]
  methods := #[]
  instanceTypes := #[]
  staticTypes := #[]
  resolved := Array.replicate 106 none
  statics := none }

def pool15 : Array CpInfo := pool [(14, .class_ 16), (1, u "java/util/SortedMap"), (2, .class_ 20), (0, u "java/lang/Object"), (0, .class_ 22), (0, u "java/util/SequencedMap")] 50

/-- java/util/SortedMap -/
def k15 : Class := { plain "java/util/SortedMap" (some 0) with
  accessFlags := 1537
  interfaces := #[14]
  cf := some (fileOf pool15 14 #[] #[] 1537 19 #[21] #[])
  fields := #[]
  methods := #[]
  instanceTypes := #[]
  staticTypes := #[]
  resolved := Array.replicate 73 none
  statics := none }

def pool16 : Array CpInfo := pool [(2, .class_ 4), (1, u "java/util/NavigableMap"), (5, .class_ 11), (0, u "java/lang/Object"), (0, .class_ 13), (0, u "java/util/SortedMap")] 53

/-- java/util/NavigableMap -/
def k16 : Class := { plain "java/util/NavigableMap" (some 0) with
  accessFlags := 1537
  interfaces := #[15]
  cf := some (fileOf pool16 2 #[] #[] 1537 10 #[12] #[])
  fields := #[]
  methods := #[]
  instanceTypes := #[]
  staticTypes := #[]
  resolved := Array.replicate 67 none
  statics := none }

def pool17 : Array CpInfo := pool [(1, .class_ 2), (0, u "java/lang/Cloneable"), (0, .class_ 4), (0, u "java/lang/Object")] 2

/-- java/lang/Cloneable -/
def k17 : Class := { plain "java/lang/Cloneable" (some 0) with
  accessFlags := 1537
  interfaces := #[]
  cf := some (fileOf pool17 1 #[] #[] 1537 3 #[] #[])
  fields := #[]
  methods := #[]
  instanceTypes := #[]
  staticTypes := #[]
  resolved := Array.replicate 7 none
  statics := none }

def pool18 : Array CpInfo := pool [(2, .class_ 4), (1, u "java/util/AbstractMap"), (0, u "<init>"), (0, u "()V"), (1, .class_ 10), (1, u "com/example/sumac/sumac/RedBlackTreeMap"), (0, u "comparator"), (0, u "Ljava/util/Comparator;"), (14, u "size"), (0, u "I"), (5, .class_ 36), (1, u "com/example/sumac/sumac/RedBlackTreeMap$Node"), (4, u "root"), (0, u "Lcom/example/sumac/sumac/RedBlackTreeMap$Node;"), (9, u "modCount"), (10, .fieldref 34 64), (0, .nameAndType 65 42), (0, u "left"), (0, .fieldref 34 67), (0, .nameAndType 68 42), (0, u "right"), (109, u "wholeView"), (0, u "Lcom/example/sumac/sumac/SubMap;"), (82, u "rotations"), (0, u "J"), (63, .class_ 329), (1, u "com/example/sumac/sumac/RedBlackTreeMap$NodeStack"), (4, u "child"), (0, u "(Lcom/example/sumac/sumac/RedBlackTreeMap$Node;Z)Lcom/example/sumac/sumac/RedBlackTreeMap$Node;"), (23, u "(J)I"), (8, .class_ 369), (0, u "java/lang/Long"), (0, .methodref 368 371), (0, .nameAndType 372 359), (0, u "numberOfLeadingZeros"), (73, .class_ 447), (0, u "com/example/sumac/sumac/RedBlackTreeMap$1"), (13, .class_ 463), (1, u "com/example/sumac/sumac/RedBlackTreeMap$SortedKeys"), (8, .class_ 473), (0, u "java/util/NavigableMap"), (0, .class_ 475), (0, u "java/io/Serializable"), (0, .class_ 477), (0, u "java/lang/Cloneable"), (0, u "serialVersionUID"), (3, u "ROOT"), (93, u "newNodeArray"), (0, u "(I)[Lcom/example/sumac/sumac/RedBlackTreeMap$Node;"), (1, u "maxHeight")] 61

def k18m0 : Method := { name := "<init>", desc := "()V", sig := { parameters := [], returnType := none }, accessFlags := 1, code := none }
def k18c1 : Code := { maxStack := 1, maxLocals := 1, code := prog_4_method_76_code, exceptionTable := #[], attributes := #[] }
def k18m1 : Method := { name := "newNodeArray", desc := "(I)[Lcom/example/sumac/sumac/RedBlackTreeMap$Node;", sig := { parameters := [.int], returnType := some (.array (.object "com/example/sumac/sumac/RedBlackTreeMap$Node")) }, accessFlags := 10, code := some k18c1 }
def k18c2 : Code := { maxStack := 6, maxLocals := 2, code := prog_4_method_77_code, exceptionTable := #[], attributes := #[] }
def k18m2 : Method := { name := "maxHeight", desc := "(J)I", sig := { parameters := [.long], returnType := some .int }, accessFlags := 10, code := some k18c2 }
def k18c3 : Code := { maxStack := 1, maxLocals := 2, code := prog_4_method_87_code, exceptionTable := #[], attributes := #[] }
def k18m3 : Method := { name := "child", desc := "(Lcom/example/sumac/sumac/RedBlackTreeMap$Node;Z)Lcom/example/sumac/sumac/RedBlackTreeMap$Node;", sig := { parameters := [(.object "com/example/sumac/sumac/RedBlackTreeMap$Node"), .boolean], returnType := some (.object "com/example/sumac/sumac/RedBlackTreeMap$Node") }, accessFlags := 10, code := some k18c3 }
/-- com/example/sumac/sumac/RedBlackTreeMap -/
def k18 : Class := { plain "com/example/sumac/sumac/RedBlackTreeMap" (some 13) with
  accessFlags := 49
  interfaces := #[16, 4, 17]
  cf := some (fileOf pool18 8 #[.nestMembers #[34, 461, 327, 446]] #[{ accessFlags := 1, nameIndex := 5, descriptorIndex := 6, attributes := #[] }, { accessFlags := 10, nameIndex := 576, descriptorIndex := 577, attributes := #[] }, { accessFlags := 10, nameIndex := 579, descriptorIndex := 359, attributes := #[] }, { accessFlags := 10, nameIndex := 334, descriptorIndex := 335, attributes := #[] }] 49 2 #[472, 474, 476] #[{ accessFlags := 26, nameIndex := 478, descriptorIndex := 263, attributes := #[] }, { accessFlags := 26, nameIndex := 482, descriptorIndex := 263, attributes := #[] }, { accessFlags := 18, nameIndex := 11, descriptorIndex := 12, attributes := #[] }, { accessFlags := 128, nameIndex := 41, descriptorIndex := 42, attributes := #[] }, { accessFlags := 128, nameIndex := 27, descriptorIndex := 28, attributes := #[] }, { accessFlags := 128, nameIndex := 262, descriptorIndex := 263, attributes := #[] }, { accessFlags := 128, nameIndex := 52, descriptorIndex := 28, attributes := #[] }, { accessFlags := 130, nameIndex := 178, descriptorIndex := 179, attributes := #[] }])
  fields := #[{ name := "serialVersionUID", type := .long, accessFlags := 26, slot := 0, constantValue := 0 }, { name := "ROOT", type := .long, accessFlags := 26, slot := 1, constantValue := 0 }, { name := "comparator", type := (.object "java/util/Comparator"), accessFlags := 18, slot := 2, constantValue := 0 }, { name := "root", type := (.object "com/example/sumac/sumac/RedBlackTreeMap$Node"), accessFlags := 128, slot := 3, constantValue := 0 }, { name := "size", type := .int, accessFlags := 128, slot := 4, constantValue := 0 }, { name := "rotations", type := .long, accessFlags := 128, slot := 5, constantValue := 0 }, { name := "modCount", type := .int, accessFlags := 128, slot := 6, constantValue := 0 }, { name := "wholeView", type := (.object "com/example/sumac/sumac/SubMap"), accessFlags := 130, slot := 7, constantValue := 0 }]
  methods := #[k18m0, k18m1, k18m2, k18m3]
  instanceTypes := #[(.object "java/util/Set"), (.object "java/util/Collection"), (.object "java/util/Comparator"), (.object "com/example/sumac/sumac/RedBlackTreeMap$Node"), .int, .long, .int, (.object "com/example/sumac/sumac/SubMap")]
  staticTypes := #[.long, .long]
  resolved := Array.replicate 641 none
  statics := none }

def pool19 : Array CpInfo := pool [(1, .class_ 2), (0, u "java/lang/Long"), (15, .class_ 20), (1, u "java/lang/Integer"), (79, u "numberOfLeadingZeros"), (0, u "(J)I"), (133, .class_ 237), (1, u "java/lang/Long$LongCache"), (33, .class_ 272), (0, u "java/lang/Number"), (2, u "value"), (0, u "J"), (31, .methodref 18 309), (0, .nameAndType 100 310), (0, u "(I)I"), (50, u "TYPE"), (0, u "Ljava/lang/Class;"), (0, .class_ 364), (0, u "java/lang/Comparable"), (0, .class_ 366), (0, u "java/lang/constant/Constable"), (0, .class_ 368), (0, u "java/lang/constant/ConstantDesc"), (0, u "MIN_VALUE"), (1, u "MAX_VALUE"), (4, u "SIZE"), (0, u "I"), (1, u "BYTES"), (1, u "serialVersionUID")] 142

def k19c0 : Code := { maxStack := 3, maxLocals := 3, code := jdk_35_method_48_code, exceptionTable := #[], attributes := #[] }
def k19m0 : Method := { name := "numberOfLeadingZeros", desc := "(J)I", sig := { parameters := [.long], returnType := some .int }, accessFlags := 9, code := some k19c0 }
/-- java/lang/Long -/
def k19 : Class := { plain "java/lang/Long" (some 5) with
  accessFlags := 49
  interfaces := #[6, 7, 8]
  cf := some (fileOf pool19 1 #[.nestMembers #[235]] #[{ accessFlags := 9, nameIndex := 100, descriptorIndex := 101, attributes := #[] }] 49 271 #[363, 365, 367] #[{ accessFlags := 25, nameIndex := 369, descriptorIndex := 276, attributes := #[] }, { accessFlags := 25, nameIndex := 371, descriptorIndex := 276, attributes := #[] }, { accessFlags := 25, nameIndex := 361, descriptorIndex := 362, attributes := #[] }, { accessFlags := 18, nameIndex := 275, descriptorIndex := 276, attributes := #[] }, { accessFlags := 25, nameIndex := 376, descriptorIndex := 377, attributes := #[] }, { accessFlags := 25, nameIndex := 379, descriptorIndex := 377, attributes := #[] }, { accessFlags := 26, nameIndex := 381, descriptorIndex := 276, attributes := #[] }])
  fields := #[{ name := "MIN_VALUE", type := .long, accessFlags := 25, slot := 0, constantValue := 0 }, { name := "MAX_VALUE", type := .long, accessFlags := 25, slot := 1, constantValue := 0 }, { name := "TYPE", type := (.object "java/lang/Class"), accessFlags := 25, slot := 2, constantValue := 0 }, { name := "value", type := .long, accessFlags := 18, slot := 0, constantValue := 0 }, { name := "SIZE", type := .int, accessFlags := 25, slot := 3, constantValue := 0 }, { name := "BYTES", type := .int, accessFlags := 25, slot := 4, constantValue := 0 }, { name := "serialVersionUID", type := .long, accessFlags := 26, slot := 5, constantValue := 0 }]
  methods := #[k19m0]
  instanceTypes := #[.long]
  staticTypes := #[.long, .long, (.object "java/lang/Class"), .int, .int, .long]
  resolved := Array.replicate 524 none
  statics := none }

/-- the primitive byte -/
def k20 : Class := { plain "byte" none with kind := .primitive 'B', accessFlags := 0x411 }
/-- [B -/
def k21 : Class := { plain "[B" (some 0) with kind := .array 20 .byte, interfaces := #[17, 4], accessFlags := 1041 }

/-- the primitive int -/
def k22 : Class := { plain "int" none with kind := .primitive 'I', accessFlags := 0x411 }
/-- [I -/
def k23 : Class := { plain "[I" (some 0) with kind := .array 22 .int, interfaces := #[17, 4], accessFlags := 1041 }

/-- [Lcom/example/sumac/sumac/RedBlackTreeMap$Node; -/
def k24 : Class := { plain "[Lcom/example/sumac/sumac/RedBlackTreeMap$Node;" (some 0) with kind := .array 3 (.object "com/example/sumac/sumac/RedBlackTreeMap$Node"), interfaces := #[17, 4], accessFlags := 1041 }

/-- [Ljava/lang/Integer; -/
def k25 : Class := { plain "[Ljava/lang/Integer;" (some 0) with kind := .array 9 (.object "java/lang/Integer"), interfaces := #[17, 4], accessFlags := 1041 }

def heap : Heap := #[{ cls := 10, slots := #[.int 0, .int 127, .ref 1, .null, .int 0], vm := .statics 10 },
  { cls := 25, slots := #[.ref 2, .ref 3, .ref 4, .ref 5, .ref 6, .ref 7, .ref 8, .ref 9, .ref 10, .ref 11, .ref 12, .ref 13, .ref 14, .ref 15, .ref 16, .ref 17, .ref 18, .ref 19, .ref 20, .ref 21, .ref 22, .ref 23, .ref 24, .ref 25, .ref 26, .ref 27, .ref 28, .ref 29, .ref 30, .ref 31, .ref 32, .ref 33, .ref 34, .ref 35, .ref 36, .ref 37, .ref 38, .ref 39, .ref 40, .ref 41, .ref 42, .ref 43, .ref 44, .ref 45, .ref 46, .ref 47, .ref 48, .ref 49, .ref 50, .ref 51, .ref 52, .ref 53, .ref 54, .ref 55, .ref 56, .ref 57, .ref 58, .ref 59, .ref 60, .ref 61, .ref 62, .ref 63, .ref 64, .ref 65, .ref 66, .ref 67, .ref 68, .ref 69, .ref 70, .ref 71, .ref 72, .ref 73, .ref 74, .ref 75, .ref 76, .ref 77, .ref 78, .ref 79, .ref 80, .ref 81, .ref 82, .ref 83, .ref 84, .ref 85, .ref 86, .ref 87, .ref 88, .ref 89, .ref 90, .ref 91, .ref 92, .ref 93, .ref 94, .ref 95, .ref 96, .ref 97, .ref 98, .ref 99, .ref 100, .ref 101, .ref 102, .ref 103, .ref 104, .ref 105, .ref 106, .ref 107, .ref 108, .ref 109, .ref 110, .ref 111, .ref 112, .ref 113, .ref 114, .ref 115, .ref 116, .ref 117, .ref 118, .ref 119, .ref 120, .ref 121, .ref 122, .ref 123, .ref 124, .ref 125, .ref 126, .ref 127, .ref 128, .ref 129, .ref 130, .ref 131, .ref 132, .ref 133, .ref 134, .ref 135, .ref 136, .ref 137, .ref 138, .ref 139, .ref 140, .ref 141, .ref 142, .ref 143, .ref 144, .ref 145, .ref 146, .ref 147, .ref 148, .ref 149, .ref 150, .ref 151, .ref 152, .ref 153, .ref 154, .ref 155, .ref 156, .ref 157, .ref 158, .ref 159, .ref 160, .ref 161, .ref 162, .ref 163, .ref 164, .ref 165, .ref 166, .ref 167, .ref 168, .ref 169, .ref 170, .ref 171, .ref 172, .ref 173, .ref 174, .ref 175, .ref 176, .ref 177, .ref 178, .ref 179, .ref 180, .ref 181, .ref 182, .ref 183, .ref 184, .ref 185, .ref 186, .ref 187, .ref 188, .ref 189, .ref 190, .ref 191, .ref 192, .ref 193, .ref 194, .ref 195, .ref 196, .ref 197, .ref 198, .ref 199, .ref 200, .ref 201, .ref 202, .ref 203, .ref 204, .ref 205, .ref 206, .ref 207, .ref 208, .ref 209, .ref 210, .ref 211, .ref 212, .ref 213, .ref 214, .ref 215, .ref 216, .ref 217, .ref 218, .ref 219, .ref 220, .ref 221, .ref 222, .ref 223, .ref 224, .ref 225, .ref 226, .ref 227, .ref 228, .ref 229, .ref 230, .ref 231, .ref 232, .ref 233, .ref 234, .ref 235, .ref 236, .ref 237, .ref 238, .ref 239, .ref 240, .ref 241, .ref 242, .ref 243, .ref 244, .ref 245, .ref 246, .ref 247, .ref 248, .ref 249, .ref 250, .ref 251, .ref 252, .ref 253, .ref 254, .ref 255, .ref 256, .ref 257], vm := .none },
  { cls := 9, slots := #[.int (-128)], vm := .none },
  { cls := 9, slots := #[.int (-127)], vm := .none },
  { cls := 9, slots := #[.int (-126)], vm := .none },
  { cls := 9, slots := #[.int (-125)], vm := .none },
  { cls := 9, slots := #[.int (-124)], vm := .none },
  { cls := 9, slots := #[.int (-123)], vm := .none },
  { cls := 9, slots := #[.int (-122)], vm := .none },
  { cls := 9, slots := #[.int (-121)], vm := .none },
  { cls := 9, slots := #[.int (-120)], vm := .none },
  { cls := 9, slots := #[.int (-119)], vm := .none },
  { cls := 9, slots := #[.int (-118)], vm := .none },
  { cls := 9, slots := #[.int (-117)], vm := .none },
  { cls := 9, slots := #[.int (-116)], vm := .none },
  { cls := 9, slots := #[.int (-115)], vm := .none },
  { cls := 9, slots := #[.int (-114)], vm := .none },
  { cls := 9, slots := #[.int (-113)], vm := .none },
  { cls := 9, slots := #[.int (-112)], vm := .none },
  { cls := 9, slots := #[.int (-111)], vm := .none },
  { cls := 9, slots := #[.int (-110)], vm := .none },
  { cls := 9, slots := #[.int (-109)], vm := .none },
  { cls := 9, slots := #[.int (-108)], vm := .none },
  { cls := 9, slots := #[.int (-107)], vm := .none },
  { cls := 9, slots := #[.int (-106)], vm := .none },
  { cls := 9, slots := #[.int (-105)], vm := .none },
  { cls := 9, slots := #[.int (-104)], vm := .none },
  { cls := 9, slots := #[.int (-103)], vm := .none },
  { cls := 9, slots := #[.int (-102)], vm := .none },
  { cls := 9, slots := #[.int (-101)], vm := .none },
  { cls := 9, slots := #[.int (-100)], vm := .none },
  { cls := 9, slots := #[.int (-99)], vm := .none },
  { cls := 9, slots := #[.int (-98)], vm := .none },
  { cls := 9, slots := #[.int (-97)], vm := .none },
  { cls := 9, slots := #[.int (-96)], vm := .none },
  { cls := 9, slots := #[.int (-95)], vm := .none },
  { cls := 9, slots := #[.int (-94)], vm := .none },
  { cls := 9, slots := #[.int (-93)], vm := .none },
  { cls := 9, slots := #[.int (-92)], vm := .none },
  { cls := 9, slots := #[.int (-91)], vm := .none },
  { cls := 9, slots := #[.int (-90)], vm := .none },
  { cls := 9, slots := #[.int (-89)], vm := .none },
  { cls := 9, slots := #[.int (-88)], vm := .none },
  { cls := 9, slots := #[.int (-87)], vm := .none },
  { cls := 9, slots := #[.int (-86)], vm := .none },
  { cls := 9, slots := #[.int (-85)], vm := .none },
  { cls := 9, slots := #[.int (-84)], vm := .none },
  { cls := 9, slots := #[.int (-83)], vm := .none },
  { cls := 9, slots := #[.int (-82)], vm := .none },
  { cls := 9, slots := #[.int (-81)], vm := .none },
  { cls := 9, slots := #[.int (-80)], vm := .none },
  { cls := 9, slots := #[.int (-79)], vm := .none },
  { cls := 9, slots := #[.int (-78)], vm := .none },
  { cls := 9, slots := #[.int (-77)], vm := .none },
  { cls := 9, slots := #[.int (-76)], vm := .none },
  { cls := 9, slots := #[.int (-75)], vm := .none },
  { cls := 9, slots := #[.int (-74)], vm := .none },
  { cls := 9, slots := #[.int (-73)], vm := .none },
  { cls := 9, slots := #[.int (-72)], vm := .none },
  { cls := 9, slots := #[.int (-71)], vm := .none },
  { cls := 9, slots := #[.int (-70)], vm := .none },
  { cls := 9, slots := #[.int (-69)], vm := .none },
  { cls := 9, slots := #[.int (-68)], vm := .none },
  { cls := 9, slots := #[.int (-67)], vm := .none },
  { cls := 9, slots := #[.int (-66)], vm := .none },
  { cls := 9, slots := #[.int (-65)], vm := .none },
  { cls := 9, slots := #[.int (-64)], vm := .none },
  { cls := 9, slots := #[.int (-63)], vm := .none },
  { cls := 9, slots := #[.int (-62)], vm := .none },
  { cls := 9, slots := #[.int (-61)], vm := .none },
  { cls := 9, slots := #[.int (-60)], vm := .none },
  { cls := 9, slots := #[.int (-59)], vm := .none },
  { cls := 9, slots := #[.int (-58)], vm := .none },
  { cls := 9, slots := #[.int (-57)], vm := .none },
  { cls := 9, slots := #[.int (-56)], vm := .none },
  { cls := 9, slots := #[.int (-55)], vm := .none },
  { cls := 9, slots := #[.int (-54)], vm := .none },
  { cls := 9, slots := #[.int (-53)], vm := .none },
  { cls := 9, slots := #[.int (-52)], vm := .none },
  { cls := 9, slots := #[.int (-51)], vm := .none },
  { cls := 9, slots := #[.int (-50)], vm := .none },
  { cls := 9, slots := #[.int (-49)], vm := .none },
  { cls := 9, slots := #[.int (-48)], vm := .none },
  { cls := 9, slots := #[.int (-47)], vm := .none },
  { cls := 9, slots := #[.int (-46)], vm := .none },
  { cls := 9, slots := #[.int (-45)], vm := .none },
  { cls := 9, slots := #[.int (-44)], vm := .none },
  { cls := 9, slots := #[.int (-43)], vm := .none },
  { cls := 9, slots := #[.int (-42)], vm := .none },
  { cls := 9, slots := #[.int (-41)], vm := .none },
  { cls := 9, slots := #[.int (-40)], vm := .none },
  { cls := 9, slots := #[.int (-39)], vm := .none },
  { cls := 9, slots := #[.int (-38)], vm := .none },
  { cls := 9, slots := #[.int (-37)], vm := .none },
  { cls := 9, slots := #[.int (-36)], vm := .none },
  { cls := 9, slots := #[.int (-35)], vm := .none },
  { cls := 9, slots := #[.int (-34)], vm := .none },
  { cls := 9, slots := #[.int (-33)], vm := .none },
  { cls := 9, slots := #[.int (-32)], vm := .none },
  { cls := 9, slots := #[.int (-31)], vm := .none },
  { cls := 9, slots := #[.int (-30)], vm := .none },
  { cls := 9, slots := #[.int (-29)], vm := .none },
  { cls := 9, slots := #[.int (-28)], vm := .none },
  { cls := 9, slots := #[.int (-27)], vm := .none },
  { cls := 9, slots := #[.int (-26)], vm := .none },
  { cls := 9, slots := #[.int (-25)], vm := .none },
  { cls := 9, slots := #[.int (-24)], vm := .none },
  { cls := 9, slots := #[.int (-23)], vm := .none },
  { cls := 9, slots := #[.int (-22)], vm := .none },
  { cls := 9, slots := #[.int (-21)], vm := .none },
  { cls := 9, slots := #[.int (-20)], vm := .none },
  { cls := 9, slots := #[.int (-19)], vm := .none },
  { cls := 9, slots := #[.int (-18)], vm := .none },
  { cls := 9, slots := #[.int (-17)], vm := .none },
  { cls := 9, slots := #[.int (-16)], vm := .none },
  { cls := 9, slots := #[.int (-15)], vm := .none },
  { cls := 9, slots := #[.int (-14)], vm := .none },
  { cls := 9, slots := #[.int (-13)], vm := .none },
  { cls := 9, slots := #[.int (-12)], vm := .none },
  { cls := 9, slots := #[.int (-11)], vm := .none },
  { cls := 9, slots := #[.int (-10)], vm := .none },
  { cls := 9, slots := #[.int (-9)], vm := .none },
  { cls := 9, slots := #[.int (-8)], vm := .none },
  { cls := 9, slots := #[.int (-7)], vm := .none },
  { cls := 9, slots := #[.int (-6)], vm := .none },
  { cls := 9, slots := #[.int (-5)], vm := .none },
  { cls := 9, slots := #[.int (-4)], vm := .none },
  { cls := 9, slots := #[.int (-3)], vm := .none },
  { cls := 9, slots := #[.int (-2)], vm := .none },
  { cls := 9, slots := #[.int (-1)], vm := .none },
  { cls := 9, slots := #[.int 0], vm := .none },
  { cls := 9, slots := #[.int 1], vm := .none },
  { cls := 9, slots := #[.int 2], vm := .none },
  { cls := 9, slots := #[.int 3], vm := .none },
  { cls := 9, slots := #[.int 4], vm := .none },
  { cls := 9, slots := #[.int 5], vm := .none },
  { cls := 9, slots := #[.int 6], vm := .none },
  { cls := 9, slots := #[.int 7], vm := .none },
  { cls := 9, slots := #[.int 8], vm := .none },
  { cls := 9, slots := #[.int 9], vm := .none },
  { cls := 9, slots := #[.int 10], vm := .none },
  { cls := 9, slots := #[.int 11], vm := .none },
  { cls := 9, slots := #[.int 12], vm := .none },
  { cls := 9, slots := #[.int 13], vm := .none },
  { cls := 9, slots := #[.int 14], vm := .none },
  { cls := 9, slots := #[.int 15], vm := .none },
  { cls := 9, slots := #[.int 16], vm := .none },
  { cls := 9, slots := #[.int 17], vm := .none },
  { cls := 9, slots := #[.int 18], vm := .none },
  { cls := 9, slots := #[.int 19], vm := .none },
  { cls := 9, slots := #[.int 20], vm := .none },
  { cls := 9, slots := #[.int 21], vm := .none },
  { cls := 9, slots := #[.int 22], vm := .none },
  { cls := 9, slots := #[.int 23], vm := .none },
  { cls := 9, slots := #[.int 24], vm := .none },
  { cls := 9, slots := #[.int 25], vm := .none },
  { cls := 9, slots := #[.int 26], vm := .none },
  { cls := 9, slots := #[.int 27], vm := .none },
  { cls := 9, slots := #[.int 28], vm := .none },
  { cls := 9, slots := #[.int 29], vm := .none },
  { cls := 9, slots := #[.int 30], vm := .none },
  { cls := 9, slots := #[.int 31], vm := .none },
  { cls := 9, slots := #[.int 32], vm := .none },
  { cls := 9, slots := #[.int 33], vm := .none },
  { cls := 9, slots := #[.int 34], vm := .none },
  { cls := 9, slots := #[.int 35], vm := .none },
  { cls := 9, slots := #[.int 36], vm := .none },
  { cls := 9, slots := #[.int 37], vm := .none },
  { cls := 9, slots := #[.int 38], vm := .none },
  { cls := 9, slots := #[.int 39], vm := .none },
  { cls := 9, slots := #[.int 40], vm := .none },
  { cls := 9, slots := #[.int 41], vm := .none },
  { cls := 9, slots := #[.int 42], vm := .none },
  { cls := 9, slots := #[.int 43], vm := .none },
  { cls := 9, slots := #[.int 44], vm := .none },
  { cls := 9, slots := #[.int 45], vm := .none },
  { cls := 9, slots := #[.int 46], vm := .none },
  { cls := 9, slots := #[.int 47], vm := .none },
  { cls := 9, slots := #[.int 48], vm := .none },
  { cls := 9, slots := #[.int 49], vm := .none },
  { cls := 9, slots := #[.int 50], vm := .none },
  { cls := 9, slots := #[.int 51], vm := .none },
  { cls := 9, slots := #[.int 52], vm := .none },
  { cls := 9, slots := #[.int 53], vm := .none },
  { cls := 9, slots := #[.int 54], vm := .none },
  { cls := 9, slots := #[.int 55], vm := .none },
  { cls := 9, slots := #[.int 56], vm := .none },
  { cls := 9, slots := #[.int 57], vm := .none },
  { cls := 9, slots := #[.int 58], vm := .none },
  { cls := 9, slots := #[.int 59], vm := .none },
  { cls := 9, slots := #[.int 60], vm := .none },
  { cls := 9, slots := #[.int 61], vm := .none },
  { cls := 9, slots := #[.int 62], vm := .none },
  { cls := 9, slots := #[.int 63], vm := .none },
  { cls := 9, slots := #[.int 64], vm := .none },
  { cls := 9, slots := #[.int 65], vm := .none },
  { cls := 9, slots := #[.int 66], vm := .none },
  { cls := 9, slots := #[.int 67], vm := .none },
  { cls := 9, slots := #[.int 68], vm := .none },
  { cls := 9, slots := #[.int 69], vm := .none },
  { cls := 9, slots := #[.int 70], vm := .none },
  { cls := 9, slots := #[.int 71], vm := .none },
  { cls := 9, slots := #[.int 72], vm := .none },
  { cls := 9, slots := #[.int 73], vm := .none },
  { cls := 9, slots := #[.int 74], vm := .none },
  { cls := 9, slots := #[.int 75], vm := .none },
  { cls := 9, slots := #[.int 76], vm := .none },
  { cls := 9, slots := #[.int 77], vm := .none },
  { cls := 9, slots := #[.int 78], vm := .none },
  { cls := 9, slots := #[.int 79], vm := .none },
  { cls := 9, slots := #[.int 80], vm := .none },
  { cls := 9, slots := #[.int 81], vm := .none },
  { cls := 9, slots := #[.int 82], vm := .none },
  { cls := 9, slots := #[.int 83], vm := .none },
  { cls := 9, slots := #[.int 84], vm := .none },
  { cls := 9, slots := #[.int 85], vm := .none },
  { cls := 9, slots := #[.int 86], vm := .none },
  { cls := 9, slots := #[.int 87], vm := .none },
  { cls := 9, slots := #[.int 88], vm := .none },
  { cls := 9, slots := #[.int 89], vm := .none },
  { cls := 9, slots := #[.int 90], vm := .none },
  { cls := 9, slots := #[.int 91], vm := .none },
  { cls := 9, slots := #[.int 92], vm := .none },
  { cls := 9, slots := #[.int 93], vm := .none },
  { cls := 9, slots := #[.int 94], vm := .none },
  { cls := 9, slots := #[.int 95], vm := .none },
  { cls := 9, slots := #[.int 96], vm := .none },
  { cls := 9, slots := #[.int 97], vm := .none },
  { cls := 9, slots := #[.int 98], vm := .none },
  { cls := 9, slots := #[.int 99], vm := .none },
  { cls := 9, slots := #[.int 100], vm := .none },
  { cls := 9, slots := #[.int 101], vm := .none },
  { cls := 9, slots := #[.int 102], vm := .none },
  { cls := 9, slots := #[.int 103], vm := .none },
  { cls := 9, slots := #[.int 104], vm := .none },
  { cls := 9, slots := #[.int 105], vm := .none },
  { cls := 9, slots := #[.int 106], vm := .none },
  { cls := 9, slots := #[.int 107], vm := .none },
  { cls := 9, slots := #[.int 108], vm := .none },
  { cls := 9, slots := #[.int 109], vm := .none },
  { cls := 9, slots := #[.int 110], vm := .none },
  { cls := 9, slots := #[.int 111], vm := .none },
  { cls := 9, slots := #[.int 112], vm := .none },
  { cls := 9, slots := #[.int 113], vm := .none },
  { cls := 9, slots := #[.int 114], vm := .none },
  { cls := 9, slots := #[.int 115], vm := .none },
  { cls := 9, slots := #[.int 116], vm := .none },
  { cls := 9, slots := #[.int 117], vm := .none },
  { cls := 9, slots := #[.int 118], vm := .none },
  { cls := 9, slots := #[.int 119], vm := .none },
  { cls := 9, slots := #[.int 120], vm := .none },
  { cls := 9, slots := #[.int 121], vm := .none },
  { cls := 9, slots := #[.int 122], vm := .none },
  { cls := 9, slots := #[.int 123], vm := .none },
  { cls := 9, slots := #[.int 124], vm := .none },
  { cls := 9, slots := #[.int 125], vm := .none },
  { cls := 9, slots := #[.int 126], vm := .none },
  { cls := 9, slots := #[.int 127], vm := .none }]
def classes : Array Class := #[k0, k1, k2, k3, k4, k5, k6, k7, k8, k9, k10, k11, k12, k13, k14, k15, k16, k17, k18, k19, k20, k21, k22, k23, k24, k25]
def interned : List (Array UInt16 × Addr) := []
def slotsUsed : Nat := 517
def theMethod : MethodId := ⟨1, 1⟩
def args0 : Array Value := #[.int 0, .int 1, .int 2, .int 3]
def aboutOver (below : List Frame) : State where
  vm := { classes := classes, interned := interned.toArray }
  heap := heap
  slotsUsed := slotsUsed
  threads := #[{ frames := .invoking theMethod args0 :: below }]
def below0 : List Frame := [.native { method := ⟨0, 0⟩, args := #[] }]
def about1 : State := aboutOver below0
def p0 : Program := .bare "" "" ""
def e0 : Env := launch0.env 0 0 0
theorem w_frames : about1.frames = Frame.invoking theMethod args0 :: below0 := rfl
set_option maxRecDepth 65536 in
theorem w_args : argsFit about1.vm theMethod args0 = true := by decide +kernel
set_option maxRecDepth 65536 in
theorem w_heap : heapFits about1 = true := by decide +kernel
set_option maxRecDepth 65536 in
theorem w_runnable : about1.curStatus? = some .runnable := by decide +kernel
set_option maxRecDepth 65536 in
theorem w_alone : about1.alone = true := by decide +kernel
set_option maxRecDepth 65536 in
theorem w_named : about1.methodNamed? x = some theMethod := by decide +kernel
set_option maxRecDepth 65536 in
theorem w_hears : about1.hears theMethod below0 = true := by decide +kernel
set_option maxRecDepth 65536 in
theorem w_ripe : about1.ripe theMethod args0 below0 = true := by decide +kernel
theorem w_running : about1.status = .running := rfl
set_option maxRecDepth 65536 in
theorem w_room : about1.hasRoom e0.platform room_1 = true :=
  launch0.hasRoom_least _ room_1 (by decide +kernel) (by decide +kernel) (by decide +kernel) (by decide +kernel) (by decide +kernel) (by decide +kernel)
theorem allAtoms_all (ts : List Jvm.Cond) (a : Array Jvm.Value) (st : Jvm.State) : (allAtoms ts).before a st = ts.all (fun c => c.before a st) := by
  induction ts with
  | nil => rfl
  | cons c t ih =>
    show (Jvm.Cond.and c (allAtoms t)).before a st = _
    rw [Jvm.Cond.before_and, ih, List.all_cons]
def words1 : List Jvm.Cond := Jvm.Cond.code x code maxLocals ret :: tables_1
/-- a 'code' word, met by the world's own term for the bytes: nothing is compared byte by byte -/
theorem code_word {y : MethodName} {bytes : ByteArray} {mx : Nat} {rt : Option FieldType} {a : Array Value} {s : State} {m : MethodId} {meth : Method} {c : Code} (h1 : s.methodNamed? y = some m) (h2 : s.vm.method? m = some meth) (h3 : meth.code = some c) (h4 : c.code = bytes)
    (h5 : (c.maxLocals == mx && c.exceptionTable.isEmpty && decide (c.maxStack ≤ mostOperands) && decide (meth.sig.returnType = rt) && !meth.locks && decide (parseMethodDescriptor y.desc = some meth.sig)) = true) : (Jvm.Cond.code y bytes mx rt).before a s = true := by
  simp only [Bool.and_eq_true, beq_iff_eq, Bool.not_eq_true', decide_eq_true_eq] at h5
  obtain ⟨⟨⟨⟨⟨g1, g2⟩, g3⟩, g4⟩, g5⟩, g6⟩ := h5
  simp [Cond.before, Cond.holds, Cond.value, h1, h2, h3, h4, g1, g2, g3, g4, g5, g6]
def isCode : Jvm.Cond → Bool
  | .code _ _ _ _ => true
  | _ => false
theorem all_split {L : List Jvm.Cond} {P : Jvm.Cond → Bool} (h1 : L.all (fun c => isCode c || P c) = true) (h2 : ∀ c ∈ L.filter isCode, P c = true) : L.all P = true := by
  refine List.all_eq_true.mpr fun c hc => ?_
  have h := List.all_eq_true.mp h1 c hc
  rcases Bool.eq_false_or_eq_true (isCode c) with hi | hi
  · exact h2 c (List.mem_filter.mpr ⟨hc, hi⟩)
  · simpa [hi] using h
set_option maxRecDepth 65536 in
theorem w_c0 : (Jvm.Cond.code x code maxLocals ret).before args0 about1 = true := code_word (m := ⟨1, 1⟩) (meth := k1m1) (c := k1c1) (by decide +kernel) rfl rfl rfl (by decide +kernel)
set_option maxRecDepth 65536 in
theorem w_c1 : (Jvm.Cond.code ({ cls := "java/lang/Integer", name := "valueOf", desc := "(I)Ljava/lang/Integer;" } : Jvm.MethodName) jdk_33_method_22_code (1 : Nat) (Option.some (Jvm.ClassFile.FieldType.object "java/lang/Integer"))).before args0 about1 = true := code_word (m := ⟨9, 0⟩) (meth := k9m0) (c := k9c0) (by decide +kernel) rfl rfl rfl (by decide +kernel)
set_option maxRecDepth 65536 in
theorem w_c2 : (Jvm.Cond.code ({ cls := "com/example/sumac/sumac/RedBlackTreeMap$Node", name := "<init>", desc := "(Ljava/lang/Object;Ljava/lang/Object;Z)V" } : Jvm.MethodName) prog_6_method_1_code (4 : Nat) (Option.none : Option Jvm.ClassFile.FieldType)).before args0 about1 = true := code_word (m := ⟨3, 0⟩) (meth := k3m0) (c := k3c0) (by decide +kernel) rfl rfl rfl (by decide +kernel)
set_option maxRecDepth 65536 in
theorem w_c3 : (Jvm.Cond.code ({ cls := "java/lang/Object", name := "<init>", desc := "()V" } : Jvm.MethodName) object_method_1_code (1 : Nat) (Option.none : Option Jvm.ClassFile.FieldType)).before args0 about1 = true := code_word (m := ⟨0, 0⟩) (meth := k0m0) (c := k0c0) (by decide +kernel) rfl rfl rfl (by decide +kernel)
set_option maxRecDepth 65536 in
theorem w_c4 : (Jvm.Cond.code ({ cls := "com/example/sumac/sumac/RedBlackTreeMap$NodeStack", name := "<init>", desc := "(I)V" } : Jvm.MethodName) prog_7_method_1_code (2 : Nat) (Option.none : Option Jvm.ClassFile.FieldType)).before args0 about1 = true := code_word (m := ⟨11, 0⟩) (meth := k11m0) (c := k11c0) (by decide +kernel) rfl rfl rfl (by decide +kernel)
set_option maxRecDepth 65536 in
theorem w_c5 : (Jvm.Cond.code ({ cls := "com/example/sumac/sumac/RedBlackTreeMap", name := "maxHeight", desc := "(J)I" } : Jvm.MethodName) prog_4_method_77_code (2 : Nat) (Option.some Jvm.ClassFile.FieldType.int)).before args0 about1 = true := code_word (m := ⟨18, 2⟩) (meth := k18m2) (c := k18c2) (by decide +kernel) rfl rfl rfl (by decide +kernel)
set_option maxRecDepth 65536 in
theorem w_c6 : (Jvm.Cond.code ({ cls := "java/lang/Long", name := "numberOfLeadingZeros", desc := "(J)I" } : Jvm.MethodName) jdk_35_method_48_code (3 : Nat) (Option.some Jvm.ClassFile.FieldType.int)).before args0 about1 = true := code_word (m := ⟨19, 0⟩) (meth := k19m0) (c := k19c0) (by decide +kernel) rfl rfl rfl (by decide +kernel)
set_option maxRecDepth 65536 in
theorem w_c7 : (Jvm.Cond.code ({ cls := "java/lang/Integer", name := "numberOfLeadingZeros", desc := "(I)I" } : Jvm.MethodName) jdk_33_method_47_code (2 : Nat) (Option.some Jvm.ClassFile.FieldType.int)).before args0 about1 = true := code_word (m := ⟨9, 2⟩) (meth := k9m2) (c := k9c2) (by decide +kernel) rfl rfl rfl (by decide +kernel)
set_option maxRecDepth 65536 in
theorem w_c8 : (Jvm.Cond.code ({ cls := "com/example/sumac/sumac/RedBlackTreeMap", name := "newNodeArray", desc := "(I)[Lcom/example/sumac/sumac/RedBlackTreeMap$Node;" } : Jvm.MethodName) prog_4_method_76_code (1 : Nat) (Option.some (Jvm.ClassFile.FieldType.array (Jvm.ClassFile.FieldType.object "com/example/sumac/sumac/RedBlackTreeMap$Node")))).before args0 about1 = true := code_word (m := ⟨18, 1⟩) (meth := k18m1) (c := k18c1) (by decide +kernel) rfl rfl rfl (by decide +kernel)
set_option maxRecDepth 65536 in
theorem w_c9 : (Jvm.Cond.code ({ cls := "com/example/sumac/sumac/RedBlackTreeMap$NodeStack", name := "isEmpty", desc := "()Z" } : Jvm.MethodName) prog_7_method_2_code (1 : Nat) (Option.some Jvm.ClassFile.FieldType.boolean)).before args0 about1 = true := code_word (m := ⟨11, 1⟩) (meth := k11m1) (c := k11c1) (by decide +kernel) rfl rfl rfl (by decide +kernel)
set_option maxRecDepth 65536 in
theorem w_c10 : (Jvm.Cond.code ({ cls := "com/example/sumac/sumac/RedBlackTreeMap$NodeStack", name := "push", desc := "(Lcom/example/sumac/sumac/RedBlackTreeMap$Node;)V" } : Jvm.MethodName) prog_7_method_4_code (2 : Nat) (Option.none : Option Jvm.ClassFile.FieldType)).before args0 about1 = true := code_word (m := ⟨11, 3⟩) (meth := k11m3) (c := k11c3) (by decide +kernel) rfl rfl rfl (by decide +kernel)
set_option maxRecDepth 65536 in
theorem w_c11 : (Jvm.Cond.code ({ cls := "com/example/sumac/sumac/RedBlackTreeMap$NodeStack", name := "peek", desc := "()Lcom/example/sumac/sumac/RedBlackTreeMap$Node;" } : Jvm.MethodName) prog_7_method_3_code (1 : Nat) (Option.some (Jvm.ClassFile.FieldType.object "com/example/sumac/sumac/RedBlackTreeMap$Node"))).before args0 about1 = true := code_word (m := ⟨11, 2⟩) (meth := k11m2) (c := k11c2) (by decide +kernel) rfl rfl rfl (by decide +kernel)
set_option maxRecDepth 65536 in
theorem w_c12 : (Jvm.Cond.code ({ cls := "com/example/sumac/sumac/RedBlackTreeMap$NodeStack", name := "step", desc := "(Z)Lcom/example/sumac/sumac/RedBlackTreeMap$Node;" } : Jvm.MethodName) prog_7_method_7_code (3 : Nat) (Option.some (Jvm.ClassFile.FieldType.object "com/example/sumac/sumac/RedBlackTreeMap$Node"))).before args0 about1 = true := code_word (m := ⟨11, 5⟩) (meth := k11m5) (c := k11c5) (by decide +kernel) rfl rfl rfl (by decide +kernel)
set_option maxRecDepth 65536 in
theorem w_c13 : (Jvm.Cond.code ({ cls := "com/example/sumac/sumac/RedBlackTreeMap", name := "child", desc := "(Lcom/example/sumac/sumac/RedBlackTreeMap$Node;Z)Lcom/example/sumac/sumac/RedBlackTreeMap$Node;" } : Jvm.MethodName) prog_4_method_87_code (2 : Nat) (Option.some (Jvm.ClassFile.FieldType.object "com/example/sumac/sumac/RedBlackTreeMap$Node"))).before args0 about1 = true := code_word (m := ⟨18, 3⟩) (meth := k18m3) (c := k18c3) (by decide +kernel) rfl rfl rfl (by decide +kernel)
set_option maxRecDepth 65536 in
theorem w_c14 : (Jvm.Cond.code ({ cls := "com/example/sumac/sumac/RedBlackTreeMap$NodeStack", name := "pushSpine", desc := "(Lcom/example/sumac/sumac/RedBlackTreeMap$Node;Z)V" } : Jvm.MethodName) prog_7_method_6_code (4 : Nat) (Option.none : Option Jvm.ClassFile.FieldType)).before args0 about1 = true := code_word (m := ⟨11, 4⟩) (meth := k11m4) (c := k11c4) (by decide +kernel) rfl rfl rfl (by decide +kernel)
set_option maxRecDepth 65536 in
theorem w_c15 : (Jvm.Cond.code ({ cls := "java/lang/Integer", name := "<init>", desc := "(I)V" } : Jvm.MethodName) jdk_33_method_23_code (2 : Nat) (Option.none : Option Jvm.ClassFile.FieldType)).before args0 about1 = true := code_word (m := ⟨9, 1⟩) (meth := k9m1) (c := k9c1) (by decide +kernel) rfl rfl rfl (by decide +kernel)
set_option maxRecDepth 65536 in
theorem w_c16 : (Jvm.Cond.code ({ cls := "java/lang/Number", name := "<init>", desc := "()V" } : Jvm.MethodName) jdk_18_method_1_code (1 : Nat) (Option.none : Option Jvm.ClassFile.FieldType)).before args0 about1 = true := code_word (m := ⟨5, 0⟩) (meth := k5m0) (c := k5c0) (by decide +kernel) rfl rfl rfl (by decide +kernel)
def codes1 : List Jvm.Cond := [Jvm.Cond.code x code maxLocals ret, Jvm.Cond.code ({ cls := "java/lang/Integer", name := "valueOf", desc := "(I)Ljava/lang/Integer;" } : Jvm.MethodName) jdk_33_method_22_code (1 : Nat) (Option.some (Jvm.ClassFile.FieldType.object "java/lang/Integer")), Jvm.Cond.code ({ cls := "com/example/sumac/sumac/RedBlackTreeMap$Node", name := "<init>", desc := "(Ljava/lang/Object;Ljava/lang/Object;Z)V" } : Jvm.MethodName) prog_6_method_1_code (4 : Nat) (Option.none : Option Jvm.ClassFile.FieldType), Jvm.Cond.code ({ cls := "java/lang/Object", name := "<init>", desc := "()V" } : Jvm.MethodName) object_method_1_code (1 : Nat) (Option.none : Option Jvm.ClassFile.FieldType), Jvm.Cond.code ({ cls := "com/example/sumac/sumac/RedBlackTreeMap$NodeStack", name := "<init>", desc := "(I)V" } : Jvm.MethodName) prog_7_method_1_code (2 : Nat) (Option.none : Option Jvm.ClassFile.FieldType), Jvm.Cond.code ({ cls := "com/example/sumac/sumac/RedBlackTreeMap", name := "maxHeight", desc := "(J)I" } : Jvm.MethodName) prog_4_method_77_code (2 : Nat) (Option.some Jvm.ClassFile.FieldType.int), Jvm.Cond.code ({ cls := "java/lang/Long", name := "numberOfLeadingZeros", desc := "(J)I" } : Jvm.MethodName) jdk_35_method_48_code (3 : Nat) (Option.some Jvm.ClassFile.FieldType.int), Jvm.Cond.code ({ cls := "java/lang/Integer", name := "numberOfLeadingZeros", desc := "(I)I" } : Jvm.MethodName) jdk_33_method_47_code (2 : Nat) (Option.some Jvm.ClassFile.FieldType.int), Jvm.Cond.code ({ cls := "com/example/sumac/sumac/RedBlackTreeMap", name := "newNodeArray", desc := "(I)[Lcom/example/sumac/sumac/RedBlackTreeMap$Node;" } : Jvm.MethodName) prog_4_method_76_code (1 : Nat) (Option.some (Jvm.ClassFile.FieldType.array (Jvm.ClassFile.FieldType.object "com/example/sumac/sumac/RedBlackTreeMap$Node"))), Jvm.Cond.code ({ cls := "com/example/sumac/sumac/RedBlackTreeMap$NodeStack", name := "isEmpty", desc := "()Z" } : Jvm.MethodName) prog_7_method_2_code (1 : Nat) (Option.some Jvm.ClassFile.FieldType.boolean), Jvm.Cond.code ({ cls := "com/example/sumac/sumac/RedBlackTreeMap$NodeStack", name := "push", desc := "(Lcom/example/sumac/sumac/RedBlackTreeMap$Node;)V" } : Jvm.MethodName) prog_7_method_4_code (2 : Nat) (Option.none : Option Jvm.ClassFile.FieldType), Jvm.Cond.code ({ cls := "com/example/sumac/sumac/RedBlackTreeMap$NodeStack", name := "peek", desc := "()Lcom/example/sumac/sumac/RedBlackTreeMap$Node;" } : Jvm.MethodName) prog_7_method_3_code (1 : Nat) (Option.some (Jvm.ClassFile.FieldType.object "com/example/sumac/sumac/RedBlackTreeMap$Node")), Jvm.Cond.code ({ cls := "com/example/sumac/sumac/RedBlackTreeMap$NodeStack", name := "step", desc := "(Z)Lcom/example/sumac/sumac/RedBlackTreeMap$Node;" } : Jvm.MethodName) prog_7_method_7_code (3 : Nat) (Option.some (Jvm.ClassFile.FieldType.object "com/example/sumac/sumac/RedBlackTreeMap$Node")), Jvm.Cond.code ({ cls := "com/example/sumac/sumac/RedBlackTreeMap", name := "child", desc := "(Lcom/example/sumac/sumac/RedBlackTreeMap$Node;Z)Lcom/example/sumac/sumac/RedBlackTreeMap$Node;" } : Jvm.MethodName) prog_4_method_87_code (2 : Nat) (Option.some (Jvm.ClassFile.FieldType.object "com/example/sumac/sumac/RedBlackTreeMap$Node")), Jvm.Cond.code ({ cls := "com/example/sumac/sumac/RedBlackTreeMap$NodeStack", name := "pushSpine", desc := "(Lcom/example/sumac/sumac/RedBlackTreeMap$Node;Z)V" } : Jvm.MethodName) prog_7_method_6_code (4 : Nat) (Option.none : Option Jvm.ClassFile.FieldType), Jvm.Cond.code ({ cls := "java/lang/Integer", name := "<init>", desc := "(I)V" } : Jvm.MethodName) jdk_33_method_23_code (2 : Nat) (Option.none : Option Jvm.ClassFile.FieldType), Jvm.Cond.code ({ cls := "java/lang/Number", name := "<init>", desc := "()V" } : Jvm.MethodName) jdk_18_method_1_code (1 : Nat) (Option.none : Option Jvm.ClassFile.FieldType)]
set_option maxRecDepth 65536 in
theorem codes_eq : words1.filter isCode = codes1 := rfl
theorem w_codes : ∀ c ∈ words1.filter isCode, c.before args0 about1 = true := by
  rw [codes_eq]
  intro c hc
  simp only [codes1, List.mem_cons, List.not_mem_nil, or_false] at hc
  rcases hc with rfl | rfl | rfl | rfl | rfl | rfl | rfl | rfl | rfl | rfl | rfl | rfl | rfl | rfl | rfl | rfl | rfl
  · exact w_c0
  · exact w_c1
  · exact w_c2
  · exact w_c3
  · exact w_c4
  · exact w_c5
  · exact w_c6
  · exact w_c7
  · exact w_c8
  · exact w_c9
  · exact w_c10
  · exact w_c11
  · exact w_c12
  · exact w_c13
  · exact w_c14
  · exact w_c15
  · exact w_c16
set_option maxRecDepth 65536 in
theorem w_t1 : (words1.take 24).all (fun c => isCode c || c.before args0 about1) = true := by decide +kernel
set_option maxRecDepth 65536 in
theorem w_t2 : ((words1.drop 24).take 24).all (fun c => isCode c || c.before args0 about1) = true := by decide +kernel
set_option maxRecDepth 65536 in
theorem w_t3 : (((words1.drop 24).drop 24).take 24).all (fun c => isCode c || c.before args0 about1) = true := by decide +kernel
set_option maxRecDepth 65536 in
theorem w_t4 : ((((words1.drop 24).drop 24).drop 24).take 24).all (fun c => isCode c || c.before args0 about1) = true := by decide +kernel
set_option maxRecDepth 65536 in
theorem w_t5 : ((((words1.drop 24).drop 24).drop 24).drop 24).all (fun c => isCode c || c.before args0 about1) = true := by decide +kernel
theorem w_tables : (allAtoms (Jvm.Cond.code x code maxLocals ret :: tables_1)).before args0 about1 = true := by
  rw [allAtoms_all]
  show words1.all (fun c => c.before args0 about1) = true
  refine all_split ?_ w_codes
  rw [← List.take_append_drop 24 words1, List.all_append, w_t1, ← List.take_append_drop 24 (words1.drop 24), List.all_append, w_t2, ← List.take_append_drop 24 ((words1.drop 24).drop 24), List.all_append, w_t3, ← List.take_append_drop 24 (((words1.drop 24).drop 24).drop 24), List.all_append, w_t4, w_t5]
  rfl
set_option maxRecDepth 65536 in
theorem w_rest : rest_1_c.before args0 about1 = true := by decide +kernel
set_option maxRecDepth 65536 in
theorem w_case : (Jvm.Cond.and given_1 narrow_1).before args0 about1 = true := by decide +kernel
theorem w_applies : (headSpec (Jvm.Cond.code x code maxLocals ret :: tables_1) room_1).applies x e0.platform about1 = true :=
  (Spec.applies_iff w_frames).mpr ⟨w_running, w_runnable, w_alone, w_named, w_hears, w_ripe, w_room, w_tables⟩
theorem atStart : AtStart classFile x code maxLocals ret World_1 tables_1 room_1 Calls_1 rest_1 Pre_1 launch0 p0 e0 about1 theMethod args0 below0 :=
  ⟨lists_1, trivial, launch0.admits_env _ _ _, launch0.least_env, fairChoices_fair.cas, fairChoices_fair.clock, w_frames, w_args, w_heap, w_applies, trivial, w_rest, w_case⟩
end start1
theorem witness_1 : WitnessClaimed_1 := ⟨start1.p0, start1.e0, start1.about1, start1.theMethod, start1.args0, start1.below0, start1.atStart⟩
end Jvm.Pilot.@@N@@
