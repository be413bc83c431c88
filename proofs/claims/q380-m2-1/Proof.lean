import JvmDerived
import JvmDerived.Pilot.@@N@@Statement
import JvmDerived.Pilot.@@N@@Code
set_option linter.unusedVariables false
set_option linter.unusedSimpArgs false
namespace Jvm.RoadKit
open Sem ClassFile Op Lib Jvm.Stand Jvm.Free Jvm.LawKit
section OwnKit
variable {p : Program} {l : Launch} {e : Env} {R : Room} {s : State} {m : MethodId} {args : Array Value} {below : List Frame} {meth : Method} {c : Code} {T : State} {locs : List Loc} {cells slots : Nat}
/-- a run that stands in S comes to an end of the invocation, of which Q is said -/
def own_G (tb : Tables) (e : Env) (below : List Frame) (s : State) (Q : Option Value → Heap → List Loc → Prop) (k n : Nat) (S : State) : Prop :=
  ∃ s₂ o, Steps tb e below S s₂ ∧ s₂.status = .running ∧ Ended s₂ below o ∧ ∃ v L, o = .returned v ∧ Q v s₂.heap L ∧ FrameEnd s o s₂ L k n
variable {tb : Tables} {Q : Option Value → Heap → List Loc → Prop} {k n : Nat}
theorem own_go {A B : State} (st : ∀ t, Steps tb e below A t → Steps tb e below B t) (h : own_G tb e below s Q k n A) : own_G tb e below s Q k n B := by
  obtain ⟨s₂, o, h1, h2⟩ := h
  exact ⟨s₂, o, st _ h1, h2⟩
theorem own_ret (X : Stand p l e R s m args below meth c T locs cells slots) {v : Option Value} (hv : meth.sig.returnType = none → v = none) (hlk : meth.locks = false) (hQ : Q v T.heap locs) (hk : cells ≤ k) (hn : slots ≤ n) {S : State}
    (st : ∀ fs, (∀ (f : JFrame) (acts : List Action), f.method = m → f.locked = none → f.entered = [] → (doReturn e (T.setTop f) acts v).1 = T.setFrames fs) → Steps p.tables e below S (T.setFrames fs)) : own_G p.tables e below s Q k n S := by
  obtain ⟨fs, hr, hrun, hended, hW, hsame⟩ := X.leave hv hlk
  exact ⟨_, _, st fs hr, hrun, hended, _, _, rfl, hQ, ⟨_, rfl⟩, hW, hsame.mono hk hn⟩
variable {pc : Nat} {Ls : Array Slot} {rest : List Value}
theorem own_retN (X : Stand p l e R s m args below meth c T locs cells slots) (hx : p.tables.exec = Jvm.exec) (hlk : meth.locks = false) {t : FieldType} {z z' : Int32} (hret : meth.sig.returnType = some t) (ht : t = .boolean ∨ t = .byte ∨ t = .char ∨ t = .short) (hd : decode c.code pc = .ok (.ireturn, 1)) (hz : nar t z = z') (hQ : Q (some (.int z')) T.heap locs) (hk : cells ≤ k) (hn : slots ≤ n) :
    own_G p.tables e below s Q k n (T.setTop (mkF m pc Ls (.int z :: rest))) := by
  subst hz
  exact own_ret X (fun h => by rw [hret] at h; cases h) hlk hQ hk hn fun fs hr => retN X hx hret ht hd hr
theorem own_retI (X : Stand p l e R s m args below meth c T locs cells slots) (hx : p.tables.exec = Jvm.exec) (hlk : meth.locks = false) {z : Int32} (hret : meth.sig.returnType = some .int) (hd : decode c.code pc = .ok (.ireturn, 1)) (hQ : Q (some (.int z)) T.heap locs) (hk : cells ≤ k) (hn : slots ≤ n) :
    own_G p.tables e below s Q k n (T.setTop (mkF m pc Ls (.int z :: rest))) :=
  own_ret X (fun h => by rw [hret] at h; cases h) hlk hQ hk hn fun fs hr => retOut X hx hret rfl (Or.inl ⟨rfl, Or.inl rfl, _, rfl⟩) hd hr
theorem own_retJ (X : Stand p l e R s m args below meth c T locs cells slots) (hx : p.tables.exec = Jvm.exec) (hlk : meth.locks = false) {z : Int64} (hret : meth.sig.returnType = some .long) (hd : decode c.code pc = .ok (.lreturn, 1)) (hQ : Q (some (.long z)) T.heap locs) (hk : cells ≤ k) (hn : slots ≤ n) :
    own_G p.tables e below s Q k n (T.setTop (mkF m pc Ls (.long z :: rest))) :=
  own_ret X (fun h => by rw [hret] at h; cases h) hlk hQ hk hn fun fs hr => retOut X hx hret rfl (Or.inr (Or.inl ⟨rfl, rfl, _, rfl⟩)) hd hr
theorem own_retA (X : Stand p l e R s m args below meth c T locs cells slots) (hx : p.tables.exec = Jvm.exec) (hlk : meth.locks = false) {t : FieldType} {w : Value} (hret : meth.sig.returnType = some t) (ht : t.isReference = true) (hv : w.isRef = true) (hd : decode c.code pc = .ok (.areturn, 1)) (hQ : Q (some w) T.heap locs) (hk : cells ≤ k) (hn : slots ≤ n) :
    own_G p.tables e below s Q k n (T.setTop (mkF m pc Ls (w :: rest))) :=
  own_ret X (fun h => by rw [hret] at h; cases h) hlk hQ hk hn fun fs hr => retOut X hx hret (by rcases ref_cases hv with rfl | ⟨_, rfl⟩ <;> cases t <;> first | rfl | cases ht) (Or.inr (Or.inr (Or.inr (Or.inr ⟨rfl, ht, hv⟩)))) hd hr
theorem own_retV (X : Stand p l e R s m args below meth c T locs cells slots) (hx : p.tables.exec = Jvm.exec) (hlk : meth.locks = false) (hret : meth.sig.returnType = none) (hd : decode c.code pc = .ok (.return_, 1)) (hQ : Q none T.heap locs) (hk : cells ≤ k) (hn : slots ≤ n) :
    own_G p.tables e below s Q k n (T.setTop (mkF m pc Ls [])) :=
  own_ret X (fun _ => rfl) hlk hQ hk hn fun fs hr => X.returnOut hx hret hd hr
end OwnKit
end Jvm.RoadKit
namespace Jvm.Pilot.@@N@@
open Jvm Jvm.ClassFile Sem Op Lib Jvm.Free Jvm.Stand Jvm.LawKit Jvm.RoadKit Bundle Jvm.Pilot.@@N@@.Jvm.D
theorem own_eqI {args : Array Value} {first s : State} {o : Option Outcome} {idx : List Nat} {t : Term} {k : Int32} (h : (Jvm.Cond.eq t (.int k)).value args first o s idx = some true) : t.eval args first o idx s = some (.int k) := by
  simp only [Jvm.Cond.value, Term.eval] at h
  cases ht : t.eval args first o idx s with
  | none => simp [ht] at h
  | some x => cases x <;> simp [ht] at h ⊢; exact h
theorem own_eqR {args : Array Value} {first s : State} {o : Option Outcome} {idx : List Nat} {t u : Term} {a : Addr} (hu : u.eval args first o idx s = some (.ref a)) (h : (Jvm.Cond.eq t u).value args first o s idx = some true) : t.eval args first o idx s = some (.ref a) := by
  simp only [Jvm.Cond.value, hu] at h
  cases ht : t.eval args first o idx s with
  | none => simp [ht] at h
  | some x => cases x <;> simp [ht] at h ⊢; exact h
theorem own_len {s : State} {args : Array Value} {t : Term} {a : Addr} {cl : Cell} {ty : FieldType} {k : Int32} (ht : t.eval args s none [] s = some (.ref a)) (A : Arr s s.heap a cl ty) (h : (Term.length t).eval args s none [] s = some (.int k)) : cl.slots.size < 2 ^ 31 ∧ cl.slots.size.toInt32 = k := by
  have ha := A.fin (Vm.Alike.refl _)
  by_cases hl : cl.slots.size < 2 ^ 31
  · refine ⟨hl, ?_⟩
    rw [len_f ht ha hl] at h
    exact Value.int.inj (Option.some.inj h)
  · simp [Term.eval, ht, ha, hl] at h
/-- what the three constants hold -/
def own_of (p : Int32) (s0 s1 s2 : Addr) : Value := if (1 : Int32) = p then .ref s0 else if (2 : Int32) = p then .ref s1 else if (5 : Int32) = p then .ref s2 else .null
theorem d2_0 : decode prog_43_method_1_code 0 = .ok (.getstatic 13, 3) := by decide +kernel
theorem d2_3 : decode prog_43_method_1_code 3 = .ok (.invokevirtual 17, 3) := by decide +kernel
theorem d2_6 : decode prog_43_method_1_code 6 = .ok (.checkcast 18, 3) := by decide +kernel
theorem d2_9 : decode prog_43_method_1_code 9 = .ok (.areturn, 1) := by decide +kernel
theorem pn_org_stowage_format_DirectoryEntry_Type : plainName "org/stowage/format/DirectoryEntry$Type" = true := by first | (simp [plainName, overriddenIn]; done) | decide +kernel
theorem ef_2 (m : MethodId)  : entryFrame m #[] 0 = mkF m 0 #[] [] := by first | (simp [entryFrame, mkF, argsToLocals, Value.category]; done) | rfl
def Q2 (Z : State) (a1 s0 s1 s2 : Addr) (k1 : ClassId) (h0 : Heap) (n0 : Nat) (v : Option Value) (h : Heap) (L : List Loc) : Prop := (∃ d : Addr, v = some (.ref d) ∧ Arv Z h d k1 (.object "org/stowage/format/DirectoryEntry$Type") (3 : Int32) [(.ref s0), (.ref s1), (.ref s2)] .null) ∧ Fr n0 L ∧ Keep h0 h []
set_option maxRecDepth 65536 in
set_option maxHeartbeats 40000000 in
theorem rm2 (l : Launch) (Z : State) (a0 : Array Value) (hw : ∀ d ∈ tables_1, d.before a0 Z = true) (ws : List Jvm.Cond) (a1 s0 s1 s2 : Addr) (k1 : ClassId) (h0 : Heap) (n0 : Nat) (Z0 : n0 ≤ h0.size) (S1 : Sta Z h0 "org/stowage/format/DirectoryEntry$Type" "$VALUES" "[Lorg/stowage/format/DirectoryEntry$Type;" (.ref a1)) (V1 : Arv Z h0 a1 k1 (.object "org/stowage/format/DirectoryEntry$Type") (3 : Int32) [(.ref s0), (.ref s1), (.ref s2)] .null) (E1 : Exa Z h0 a1 "[Lorg/stowage/format/DirectoryEntry$Type;") :
    MetFree l (⟨"org/stowage/format/DirectoryEntry$Type", "values", "()[Lorg/stowage/format/DirectoryEntry$Type;"⟩ : MethodName) (head1 (Jvm.Cond.code (⟨"org/stowage/format/DirectoryEntry$Type", "values", "()[Lorg/stowage/format/DirectoryEntry$Type;"⟩ : MethodName) prog_43_method_1_code 0 (some (.array (.object "org/stowage/format/DirectoryEntry$Type"))) :: ws) ({ frames := 1, cells := 1, slots := 3, locals := 14 } : Room)) (fun a U => a = #[] ∧ Z.Warmed39 U.vm ∧ U.heap = h0) (fun _ _ _ _ _ => True) (fun _ U o U' => ∃ v L, o = .returned v ∧ Q2 Z a1 s0 s1 s2 k1 h0 n0 v U'.heap L ∧ FrameEnd U o U' L ({ frames := 1, cells := 1, slots := 3, locals := 14 } : Room).cells ({ frames := 1, cells := 1, slots := 3, locals := 14 } : Room).slots) := by
  refine MetFree.of_bodySF (plainFor_of_name pn_org_stowage_format_DirectoryEntry_Type) hisR ?_
  intro p e s m args below meth c s₁ Bd hml0 hP hK
  obtain ⟨rfl, hZ, hh⟩ := hP
  have hx := Bd.exec
  have hby := Bd.bytes
  have hlk : meth.locks = false := BodyLoose.notSynchronized Bd
  have hml : c.maxLocals = 0 := hml0
  have hown : s.vm.findClass "org/stowage/format/DirectoryEntry$Type" = some m.cls := findClass_of_methodNamed Bd.named
  have hnm := (name_of_methodNamed Bd.named Bd.method).1
  have X0 : Stand p l e ({ frames := 1, cells := 1, slots := 3, locals := 14 } : Room) s m #[] below meth c s₁ [] 0 0 := Stand.of_body Bd
  have e0 : s₁.heap = h0 := by rw [← hh, Bd.state]; rfl
  have N0 := Fr.nil n0
  show own_G p.tables e below s (Q2 Z a1 s0 s1 s2 k1 h0 n0) ({ frames := 1, cells := 1, slots := 3, locals := 14 } : Room).cells ({ frames := 1, cells := 1, slots := 3, locals := 14 } : Room).slots (s₁.setTop (entryFrame m #[] 0))
  refine own_go (fun t k => castTop (ef_2 m ) k) ?_
  show own_G p.tables e below s _ _ _ (s₁.setTop (mkF m 0 #[] []))
  obtain ⟨T1, X1, e1, st1⟩ := getS X0 hx hZ hown (host := "") (hw _ (List.mem_of_getElem? (i := 7) rfl)) Via.refl e0 S1 (g := (mkF m 0 #[] [])) rfl (hb hby d2_0)
  refine own_go st1 ?_
  show own_G p.tables e below s _ _ _ (T1.setTop (mkF m 3 #[] [(.ref a1)]))
  obtain ⟨T2, h2, X2, e2, E2, R2, Y2, st2⟩ := cloneH X1 hx hZ hown (hw _ (List.mem_of_getElem? (i := 9) rfl)) (hw _ (List.mem_of_getElem? (i := 10) rfl)) (hw _ (List.mem_of_getElem? (i := 14) rfl)) (hw _ (List.mem_of_getElem? (i := 12) rfl)) (hw _ (List.mem_of_getElem? (i := 13) rfl)) (hw _ (List.mem_of_getElem? (i := 15) rfl)) e1 (Arv.arh V1) E1 (g := (mkF m 3 #[] [(.ref a1)])) rfl (by rw [hml]; rfl) rfl (hb hby d2_3) (by decide) (W := 0) (cap := 3) (by show 2 * 0 + _ ≤ _; exact Nat.le_of_eq rfl) (by decide) (by decide) (by decide) (by decide)
  obtain ⟨b2, g2⟩ : ∃ z, z = h0.size := ⟨_, rfl⟩
  rw [← g2] at R2 Y2 st2
  refine own_go st2 ?_
  have g3 := Nat.le_trans Z0 (Nat.le_of_eq g2.symm)
  have s4 := Nat.le_trans (Keep.refl h0 []).1 (Nat.le_of_eq g2.symm)
  have n5 := Nat.ne_of_lt (Nat.lt_of_lt_of_le E1.lt (Nat.le_of_eq g2.symm))
  have f6 := Exa.ext E2 E1
  have f7 := V1.ext E2
  have z8 := Nat.le_trans Z0 E2.1
  have k9 := (Keep.refl h0 []).ext E2
  have v10 : Arv Z h2 b2 k1 (.object "org/stowage/format/DirectoryEntry$Type") (3 : Int32) [(.ref s0), (.ref s1), (.ref s2)] .null := R2
  show own_G p.tables e below s _ _ _ (T2.setTop (mkF m 6 #[] [(.ref b2)]))
  obtain ⟨T11, X11, e11, st11⟩ := castY X2 hx hZ hown (hw _ (List.mem_of_getElem? (i := 20) rfl)) e2 (Ins.self Y2) (g := (mkF m 6 #[] [(.ref b2)])) rfl rfl (hb hby d2_6)
  refine own_go st11 ?_
  show own_G p.tables e below s _ _ _ (T11.setTop (mkF m 9 #[] [(.ref b2)]))
  exact own_retA X11 hx hlk Bd.returns rfl rfl (hb hby d2_9) (by rw [e11]; exact ⟨⟨_, rfl, v10⟩, N0, k9⟩) (by decide) (by decide)
theorem pd____Lorg_stowage_format_DirectoryEntry_Type_ : parseMethodDescriptor "()[Lorg/stowage/format/DirectoryEntry$Type;" = some ⟨[], some (.array (.object "org/stowage/format/DirectoryEntry$Type"))⟩ := by decide +kernel
theorem d1_0 : decode prog_43_method_4_code 0 = .ok (.invokestatic 36, 3) := by decide +kernel
theorem d1_3 : decode prog_43_method_4_code 3 = .ok (.astore_n 1, 1) := by decide +kernel
theorem d1_4 : decode prog_43_method_4_code 4 = .ok (.aload_n 1, 1) := by decide +kernel
theorem d1_5 : decode prog_43_method_4_code 5 = .ok (.arraylength, 1) := by decide +kernel
theorem d1_6 : decode prog_43_method_4_code 6 = .ok (.istore_n 2, 1) := by decide +kernel
theorem d1_7 : decode prog_43_method_4_code 7 = .ok (.iconst 0, 1) := by decide +kernel
theorem d1_8 : decode prog_43_method_4_code 8 = .ok (.istore_n 3, 1) := by decide +kernel
theorem d1_9 : decode prog_43_method_4_code 9 = .ok (.iload_n 3, 1) := by decide +kernel
theorem d1_10 : decode prog_43_method_4_code 10 = .ok (.iload_n 2, 1) := by decide +kernel
theorem d1_11 : decode prog_43_method_4_code 11 = .ok (.if_icmp .ge 26, 3) := by decide +kernel
theorem d1_14 : decode prog_43_method_4_code 14 = .ok (.aload_n 1, 1) := by decide +kernel
theorem d1_15 : decode prog_43_method_4_code 15 = .ok (.iload_n 3, 1) := by decide +kernel
theorem d1_16 : decode prog_43_method_4_code 16 = .ok (.aaload, 1) := by decide +kernel
theorem d1_17 : decode prog_43_method_4_code 17 = .ok (.astore 4, 2) := by decide +kernel
theorem d1_19 : decode prog_43_method_4_code 19 = .ok (.aload 4, 2) := by decide +kernel
theorem d1_21 : decode prog_43_method_4_code 21 = .ok (.getfield 32, 3) := by decide +kernel
theorem d1_24 : decode prog_43_method_4_code 24 = .ok (.iload_n 0, 1) := by decide +kernel
theorem d1_25 : decode prog_43_method_4_code 25 = .ok (.if_icmp .ne 6, 3) := by decide +kernel
theorem d1_28 : decode prog_43_method_4_code 28 = .ok (.aload 4, 2) := by decide +kernel
theorem d1_30 : decode prog_43_method_4_code 30 = .ok (.areturn, 1) := by decide +kernel
theorem d1_31 : decode prog_43_method_4_code 31 = .ok (.iinc 3 1, 3) := by decide +kernel
theorem d1_34 : decode prog_43_method_4_code 34 = .ok (.goto (-25), 3) := by decide +kernel
theorem d1_37 : decode prog_43_method_4_code 37 = .ok (.aconst_null, 1) := by decide +kernel
theorem d1_38 : decode prog_43_method_4_code 38 = .ok (.areturn, 1) := by decide +kernel
theorem ef_1 (m : MethodId) (x0 : Int32) : entryFrame m #[(.int x0)] 5 = mkF m 0 #[.val (.int x0), .unset, .unset, .unset, .unset] [] := by first | (simp [entryFrame, mkF, argsToLocals, Value.category]; done) | rfl
def Q1 (Z : State) (p1 : Int32) (a1 s0 s1 s2 : Addr) (k1 : ClassId) (r : Value) (h0 : Heap) (n0 : Nat) (v : Option Value) (h : Heap) (L : List Loc) : Prop := v = some r ∧ Fr n0 L ∧ Keep h0 h []
set_option maxRecDepth 65536 in
set_option maxHeartbeats 40000000 in
theorem rm1 (l : Launch) (Z : State) (a0 : Array Value) (hw : ∀ d ∈ tables_1, d.before a0 Z = true) (ws : List Jvm.Cond) (p1 : Int32) (a1 s0 s1 s2 : Addr) (k1 : ClassId) (r : Value) (h0 : Heap) (n0 : Nat) (Z0 : n0 ≤ h0.size) (S1 : Sta Z h0 "org/stowage/format/DirectoryEntry$Type" "$VALUES" "[Lorg/stowage/format/DirectoryEntry$Type;" (.ref a1)) (V1 : Arv Z h0 a1 k1 (.object "org/stowage/format/DirectoryEntry$Type") (3 : Int32) [(.ref s0), (.ref s1), (.ref s2)] .null) (E1 : Exa Z h0 a1 "[Lorg/stowage/format/DirectoryEntry$Type;") (C0 : Fld Z h0 s0 "org/stowage/format/DirectoryEntry$Type" "code" "B" (.int (1 : Int32))) (C1 : Fld Z h0 s1 "org/stowage/format/DirectoryEntry$Type" "code" "B" (.int (2 : Int32))) (C2 : Fld Z h0 s2 "org/stowage/format/DirectoryEntry$Type" "code" "B" (.int (5 : Int32))) (hr : own_of p1 s0 s1 s2 = r) :
    MetFree l (⟨"org/stowage/format/DirectoryEntry$Type", "of", "(B)Lorg/stowage/format/DirectoryEntry$Type;"⟩ : MethodName) (head1 (Jvm.Cond.code (⟨"org/stowage/format/DirectoryEntry$Type", "of", "(B)Lorg/stowage/format/DirectoryEntry$Type;"⟩ : MethodName) prog_43_method_4_code 5 (some (.object "org/stowage/format/DirectoryEntry$Type")) :: ws) ({ frames := 2, cells := 1, slots := 3, locals := 25 } : Room)) (fun a U => a = #[(.int p1)] ∧ Z.Warmed39 U.vm ∧ U.heap = h0) (fun _ _ _ _ _ => True) (fun _ U o U' => ∃ v L, o = .returned v ∧ Q1 Z p1 a1 s0 s1 s2 k1 r h0 n0 v U'.heap L ∧ FrameEnd U o U' L ({ frames := 2, cells := 1, slots := 3, locals := 25 } : Room).cells ({ frames := 2, cells := 1, slots := 3, locals := 25 } : Room).slots) := by
  refine MetFree.of_bodySF (plainFor_of_name pn_org_stowage_format_DirectoryEntry_Type) hisR ?_
  intro p e s m args below meth c s₁ Bd hml0 hP hK
  obtain ⟨rfl, hZ, hh⟩ := hP
  have hx := Bd.exec
  have hby := Bd.bytes
  have hlk : meth.locks = false := BodyLoose.notSynchronized Bd
  have hml : c.maxLocals = 5 := hml0
  have hown : s.vm.findClass "org/stowage/format/DirectoryEntry$Type" = some m.cls := findClass_of_methodNamed Bd.named
  have hnm := (name_of_methodNamed Bd.named Bd.method).1
  have X0 : Stand p l e ({ frames := 2, cells := 1, slots := 3, locals := 25 } : Room) s m #[(.int p1)] below meth c s₁ [] 0 0 := Stand.of_body Bd
  have e0 : s₁.heap = h0 := by rw [← hh, Bd.state]; rfl
  have N0 := Fr.nil n0
  show own_G p.tables e below s (Q1 Z p1 a1 s0 s1 s2 k1 r h0 n0) ({ frames := 2, cells := 1, slots := 3, locals := 25 } : Room).cells ({ frames := 2, cells := 1, slots := 3, locals := 25 } : Room).slots (s₁.setTop (entryFrame m #[(.int p1)] 5))
  refine own_go (fun t k => castTop (ef_1 m p1) k) ?_
  show own_G p.tables e below s _ _ _ (s₁.setTop (mkF m 0 #[.val (.int p1), .unset, .unset, .unset, .unset] []))
  obtain ⟨_, _, ⟨T12, L12, k12, n12⟩, -, X12, ⟨Lc12, hQ12, l12, y12, z12⟩, st12⟩ := Jvm.LawKit.callS X0 hx (y := (⟨"org/stowage/format/DirectoryEntry$Type", "values", "()[Lorg/stowage/format/DirectoryEntry$Type;"⟩ : MethodName)) hown (mvT hZ (hw _ (List.mem_of_getElem? (i := 4) rfl))) (mvT hZ (hw _ (List.mem_of_getElem? (i := 5) rfl))) (mvT hZ (hw _ (List.mem_of_getElem? (i := 2) rfl))) (mvT hZ (hw _ (List.mem_of_getElem? (i := 6) rfl))) (by decide) (backOf (W := 0) (rm2 l Z a0 hw [] a1 s0 s1 s2 k1 h0 n0 Z0 S1 V1 E1) hZ (hw _ (List.mem_of_getElem? (i := 6) rfl)) (hw _ (List.mem_of_getElem? (i := 2) rfl)) (by decide) (by decide)) (g := (mkF m 0 #[.val (.int p1), .unset, .unset, .unset, .unset] [])) rfl (by rw [hml]; rfl) (argsL := []) (rest := []) (lenOf pd____Lorg_stowage_format_DirectoryEntry_Type_ rfl) rfl (by show 2 * 0 + _ ≤ _; exact Nat.le_of_eq rfl) (hb hby d1_0) (fun _ _ => ⟨rfl, e0, (by decide : 0 + 1 ≤ _), (by decide : 0 + 3 ≤ _)⟩)
  dsimp only [Pt.U, Pt.locs, Pt.cells, Pt.slots] at X12 l12 y12 z12 st12 hQ12
  subst l12 y12 z12
  obtain ⟨⟨d12, rfl, V12⟩, N12q, K12⟩ := hQ12
  have N12 := Fr.app N0 N12q
  refine own_go st12 ?_
  have f13 := C0.keep K12 (fun q => nomatch q)
  have f14 := C1.keep K12 (fun q => nomatch q)
  have f15 := C2.keep K12 (fun q => nomatch q)
  have z16 := Nat.le_trans Z0 K12.1
  have k17 := (Keep.refl h0 []).trans K12 (fun x q => nomatch q)
  show own_G p.tables e below s _ _ _ (T12.setTop (mkF m 3 #[.val (.int p1), .unset, .unset, .unset, .unset] [(.ref d12)]))
  refine own_go (fun t k => XS.astoreN X12.here hx rfl (hb hby d1_3) rfl rfl (l' := #[.val (.int p1), .val (.ref d12), .unset, .unset, .unset]) rfl k) ?_
  show own_G p.tables e below s _ _ _ (T12.setTop (mkF m 4 #[.val (.int p1), .val (.ref d12), .unset, .unset, .unset] []))
  refine own_go (fun t k => XS.aloadN X12.here hx rfl (hb hby d1_4) rfl rfl k) ?_
  show own_G p.tables e below s _ _ _ (T12.setTop (mkF m 5 #[.val (.int p1), .val (.ref d12), .unset, .unset, .unset] [(.ref d12)]))
  obtain ⟨cl18, Ar18, q18, S18, NN18, HH18, GG18⟩ := id V12
  have hlen18 := len_of S18 NN18
  refine own_go (A := T12.setTop (mkF m 6 #[.val (.int p1), .val (.ref d12), .unset, .unset, .unset] [(.int (3 : Int32))])) (fun t k => X12.arraylength hx (by exact Ar18.1) (State.isArrayOf_alike hZ.alike Ar18.2.1) (g := (mkF m 5 #[.val (.int p1), .val (.ref d12), .unset, .unset, .unset] [(.ref d12)])) rfl rfl (hb hby d1_5) _ (by rw [hlen18]; exact k)) ?_
  show own_G p.tables e below s _ _ _ (T12.setTop (mkF m 6 #[.val (.int p1), .val (.ref d12), .unset, .unset, .unset] [(.int (3 : Int32))]))
  refine own_go (fun t k => XS.istoreN X12.here hx rfl (hb hby d1_6) rfl (l' := #[.val (.int p1), .val (.ref d12), .val (.int (3 : Int32)), .unset, .unset]) rfl k) ?_
  show own_G p.tables e below s _ _ _ (T12.setTop (mkF m 7 #[.val (.int p1), .val (.ref d12), .val (.int (3 : Int32)), .unset, .unset] []))
  refine own_go (fun t k => XS.iconst X12.here hx rfl (hb hby d1_7) k) ?_
  show own_G p.tables e below s _ _ _ (T12.setTop (mkF m 8 #[.val (.int p1), .val (.ref d12), .val (.int (3 : Int32)), .unset, .unset] [(.int (0 : Int32))]))
  refine own_go (fun t k => XS.istoreN X12.here hx rfl (hb hby d1_8) rfl (l' := #[.val (.int p1), .val (.ref d12), .val (.int (3 : Int32)), .val (.int (0 : Int32)), .unset]) rfl k) ?_
  show own_G p.tables e below s _ _ _ (T12.setTop (mkF m 9 #[.val (.int p1), .val (.ref d12), .val (.int (3 : Int32)), .val (.int (0 : Int32)), .unset] []))
  refine own_go (fun t k => XS.iloadN X12.here hx rfl (hb hby d1_9) rfl k) ?_
  show own_G p.tables e below s _ _ _ (T12.setTop (mkF m 10 #[.val (.int p1), .val (.ref d12), .val (.int (3 : Int32)), .val (.int (0 : Int32)), .unset] [(.int (0 : Int32))]))
  refine own_go (fun t k => XS.iloadN X12.here hx rfl (hb hby d1_10) rfl k) ?_
  show own_G p.tables e below s _ _ _ (T12.setTop (mkF m 11 #[.val (.int p1), .val (.ref d12), .val (.int (3 : Int32)), .val (.int (0 : Int32)), .unset] [(.int (3 : Int32)), (.int (0 : Int32))]))
  refine own_go (fun t k => XS.icmpNo X12.here hx rfl (hb hby d1_11) rfl (by decide) k) ?_
  show own_G p.tables e below s _ _ _ (T12.setTop (mkF m 14 #[.val (.int p1), .val (.ref d12), .val (.int (3 : Int32)), .val (.int (0 : Int32)), .unset] []))
  refine own_go (fun t k => XS.aloadN X12.here hx rfl (hb hby d1_14) rfl rfl k) ?_
  show own_G p.tables e below s _ _ _ (T12.setTop (mkF m 15 #[.val (.int p1), .val (.ref d12), .val (.int (3 : Int32)), .val (.int (0 : Int32)), .unset] [(.ref d12)]))
  refine own_go (fun t k => XS.iloadN X12.here hx rfl (hb hby d1_15) rfl k) ?_
  show own_G p.tables e below s _ _ _ (T12.setTop (mkF m 16 #[.val (.int p1), .val (.ref d12), .val (.int (3 : Int32)), .val (.int (0 : Int32)), .unset] [(.int (0 : Int32)), (.ref d12)]))
  obtain ⟨cl19, Ar19, q19, S19, NN19, HH19, GG19⟩ := id V12
  have hin19 : ¬ ((0 : Int32) < 0 ∨ cl19.slots.size ≤ ((0 : Int32)).toNatClampNeg) := inb_of S19 ⟨by decide, by decide⟩
  have hat19 : cl19.slots[((0 : Int32)).toNatClampNeg]? = some (.ref s0) := Has.at HH19 hin19 rfl
  refine own_go (fun t k => X12.aaload hx (j := (0 : Int32)) (v := (.ref s0)) (by exact Ar19.1) (State.isArrayOf_alike hZ.alike Ar19.2.1) rfl Ar19.2.2 hin19 hat19 (g := (mkF m 16 #[.val (.int p1), .val (.ref d12), .val (.int (3 : Int32)), .val (.int (0 : Int32)), .unset] [(.int (0 : Int32)), (.ref d12)])) rfl rfl (hb hby d1_16) _ k) ?_
  show own_G p.tables e below s _ _ _ (T12.setTop (mkF m 17 #[.val (.int p1), .val (.ref d12), .val (.int (3 : Int32)), .val (.int (0 : Int32)), .unset] [(.ref s0)]))
  refine own_go (fun t k => XS.astore X12.here hx rfl (hb hby d1_17) rfl rfl (l' := #[.val (.int p1), .val (.ref d12), .val (.int (3 : Int32)), .val (.int (0 : Int32)), .val (.ref s0)]) rfl k) ?_
  show own_G p.tables e below s _ _ _ (T12.setTop (mkF m 19 #[.val (.int p1), .val (.ref d12), .val (.int (3 : Int32)), .val (.int (0 : Int32)), .val (.ref s0)] []))
  refine own_go (fun t k => XS.aload X12.here hx rfl (hb hby d1_19) rfl rfl k) ?_
  show own_G p.tables e below s _ _ _ (T12.setTop (mkF m 21 #[.val (.int p1), .val (.ref d12), .val (.int (3 : Int32)), .val (.int (0 : Int32)), .val (.ref s0)] [(.ref s0)]))
  obtain ⟨T20, X20, e20, st20⟩ := getF X12 hx hZ hown (host := "") (Or.inl (hw _ (List.mem_of_getElem? (i := 22) rfl))) Via.refl rfl f13 (g := (mkF m 21 #[.val (.int p1), .val (.ref d12), .val (.int (3 : Int32)), .val (.int (0 : Int32)), .val (.ref s0)] [(.ref s0)])) rfl rfl (hb hby d1_21)
  refine own_go st20 ?_
  show own_G p.tables e below s _ _ _ (T20.setTop (mkF m 24 #[.val (.int p1), .val (.ref d12), .val (.int (3 : Int32)), .val (.int (0 : Int32)), .val (.ref s0)] [(.int (1 : Int32))]))
  refine own_go (fun t k => XS.iloadN X20.here hx rfl (hb hby d1_24) rfl k) ?_
  show own_G p.tables e below s _ _ _ (T20.setTop (mkF m 25 #[.val (.int p1), .val (.ref d12), .val (.int (3 : Int32)), .val (.int (0 : Int32)), .val (.ref s0)] [(.int p1), (.int (1 : Int32))]))
  by_cases hq0 : (1 : Int32) = p1
  · refine own_go (fun t k => XS.icmpNo X20.here hx rfl (hb hby d1_25) rfl (Jvm.Free.XT.ii_ne_f hq0) k) ?_
    show own_G p.tables e below s _ _ _ (T20.setTop (mkF m 28 #[.val (.int p1), .val (.ref d12), .val (.int (3 : Int32)), .val (.int (0 : Int32)), .val (.ref s0)] []))
    refine own_go (fun t k => XS.aload X20.here hx rfl (hb hby d1_28) rfl rfl k) ?_
    show own_G p.tables e below s _ _ _ (T20.setTop (mkF m 30 #[.val (.int p1), .val (.ref d12), .val (.int (3 : Int32)), .val (.int (0 : Int32)), .val (.ref s0)] [(.ref s0)]))
    exact own_retA X20 hx hlk Bd.returns rfl rfl (hb hby d1_30) (by rw [e20]; exact ⟨by rw [← hr, own_of, if_pos hq0], N12, k17⟩) (by decide) (by decide)
  · refine own_go (fun t k => XS.icmpYes X20.here hx rfl (pc0 := 25) (pc' := 31) rfl (hb hby d1_25) rfl (Jvm.Free.XT.ii_ne_t hq0) (by decide) (by decide) k) ?_
    show own_G p.tables e below s _ _ _ (T20.setTop (mkF m 31 #[.val (.int p1), .val (.ref d12), .val (.int (3 : Int32)), .val (.int (0 : Int32)), .val (.ref s0)] []))
    refine own_go (fun t k => XS.iinc X20.here hx rfl (hb hby d1_31) rfl (l' := #[.val (.int p1), .val (.ref d12), .val (.int (3 : Int32)), .val (.int (1 : Int32)), .val (.ref s0)]) rfl k) ?_
    show own_G p.tables e below s _ _ _ (T20.setTop (mkF m 34 #[.val (.int p1), .val (.ref d12), .val (.int (3 : Int32)), .val (.int (1 : Int32)), .val (.ref s0)] []))
    refine own_go (fun t k => XS.goto X20.here hx rfl (pc0 := 34) (pc' := 9) rfl (hb hby d1_34) (by decide) (by decide) k) ?_
    show own_G p.tables e below s _ _ _ (T20.setTop (mkF m 9 #[.val (.int p1), .val (.ref d12), .val (.int (3 : Int32)), .val (.int (1 : Int32)), .val (.ref s0)] []))
    refine own_go (fun t k => XS.iloadN X20.here hx rfl (hb hby d1_9) rfl k) ?_
    show own_G p.tables e below s _ _ _ (T20.setTop (mkF m 10 #[.val (.int p1), .val (.ref d12), .val (.int (3 : Int32)), .val (.int (1 : Int32)), .val (.ref s0)] [(.int (1 : Int32))]))
    refine own_go (fun t k => XS.iloadN X20.here hx rfl (hb hby d1_10) rfl k) ?_
    show own_G p.tables e below s _ _ _ (T20.setTop (mkF m 11 #[.val (.int p1), .val (.ref d12), .val (.int (3 : Int32)), .val (.int (1 : Int32)), .val (.ref s0)] [(.int (3 : Int32)), (.int (1 : Int32))]))
    refine own_go (fun t k => XS.icmpNo X20.here hx rfl (hb hby d1_11) rfl (by decide) k) ?_
    show own_G p.tables e below s _ _ _ (T20.setTop (mkF m 14 #[.val (.int p1), .val (.ref d12), .val (.int (3 : Int32)), .val (.int (1 : Int32)), .val (.ref s0)] []))
    refine own_go (fun t k => XS.aloadN X20.here hx rfl (hb hby d1_14) rfl rfl k) ?_
    show own_G p.tables e below s _ _ _ (T20.setTop (mkF m 15 #[.val (.int p1), .val (.ref d12), .val (.int (3 : Int32)), .val (.int (1 : Int32)), .val (.ref s0)] [(.ref d12)]))
    refine own_go (fun t k => XS.iloadN X20.here hx rfl (hb hby d1_15) rfl k) ?_
    show own_G p.tables e below s _ _ _ (T20.setTop (mkF m 16 #[.val (.int p1), .val (.ref d12), .val (.int (3 : Int32)), .val (.int (1 : Int32)), .val (.ref s0)] [(.int (1 : Int32)), (.ref d12)]))
    obtain ⟨cl21, Ar21, q21, S21, NN21, HH21, GG21⟩ := id V12
    have hin21 : ¬ ((1 : Int32) < 0 ∨ cl21.slots.size ≤ ((1 : Int32)).toNatClampNeg) := inb_of S21 ⟨by decide, by decide⟩
    have hat21 : cl21.slots[((1 : Int32)).toNatClampNeg]? = some (.ref s1) := Has.at HH21 hin21 rfl
    refine own_go (fun t k => X20.aaload hx (j := (1 : Int32)) (v := (.ref s1)) (by rw [e20]; exact Ar21.1) (State.isArrayOf_alike hZ.alike Ar21.2.1) rfl Ar21.2.2 hin21 hat21 (g := (mkF m 16 #[.val (.int p1), .val (.ref d12), .val (.int (3 : Int32)), .val (.int (1 : Int32)), .val (.ref s0)] [(.int (1 : Int32)), (.ref d12)])) rfl rfl (hb hby d1_16) _ k) ?_
    show own_G p.tables e below s _ _ _ (T20.setTop (mkF m 17 #[.val (.int p1), .val (.ref d12), .val (.int (3 : Int32)), .val (.int (1 : Int32)), .val (.ref s0)] [(.ref s1)]))
    refine own_go (fun t k => XS.astore X20.here hx rfl (hb hby d1_17) rfl rfl (l' := #[.val (.int p1), .val (.ref d12), .val (.int (3 : Int32)), .val (.int (1 : Int32)), .val (.ref s1)]) rfl k) ?_
    show own_G p.tables e below s _ _ _ (T20.setTop (mkF m 19 #[.val (.int p1), .val (.ref d12), .val (.int (3 : Int32)), .val (.int (1 : Int32)), .val (.ref s1)] []))
    refine own_go (fun t k => XS.aload X20.here hx rfl (hb hby d1_19) rfl rfl k) ?_
    show own_G p.tables e below s _ _ _ (T20.setTop (mkF m 21 #[.val (.int p1), .val (.ref d12), .val (.int (3 : Int32)), .val (.int (1 : Int32)), .val (.ref s1)] [(.ref s1)]))
    obtain ⟨T22, X22, e22, st22⟩ := getF X20 hx hZ hown (host := "") (Or.inl (hw _ (List.mem_of_getElem? (i := 22) rfl))) Via.refl e20 f14 (g := (mkF m 21 #[.val (.int p1), .val (.ref d12), .val (.int (3 : Int32)), .val (.int (1 : Int32)), .val (.ref s1)] [(.ref s1)])) rfl rfl (hb hby d1_21)
    refine own_go st22 ?_
    show own_G p.tables e below s _ _ _ (T22.setTop (mkF m 24 #[.val (.int p1), .val (.ref d12), .val (.int (3 : Int32)), .val (.int (1 : Int32)), .val (.ref s1)] [(.int (2 : Int32))]))
    refine own_go (fun t k => XS.iloadN X22.here hx rfl (hb hby d1_24) rfl k) ?_
    show own_G p.tables e below s _ _ _ (T22.setTop (mkF m 25 #[.val (.int p1), .val (.ref d12), .val (.int (3 : Int32)), .val (.int (1 : Int32)), .val (.ref s1)] [(.int p1), (.int (2 : Int32))]))
    by_cases hq1 : (2 : Int32) = p1
    · refine own_go (fun t k => XS.icmpNo X22.here hx rfl (hb hby d1_25) rfl (Jvm.Free.XT.ii_ne_f hq1) k) ?_
      show own_G p.tables e below s _ _ _ (T22.setTop (mkF m 28 #[.val (.int p1), .val (.ref d12), .val (.int (3 : Int32)), .val (.int (1 : Int32)), .val (.ref s1)] []))
      refine own_go (fun t k => XS.aload X22.here hx rfl (hb hby d1_28) rfl rfl k) ?_
      show own_G p.tables e below s _ _ _ (T22.setTop (mkF m 30 #[.val (.int p1), .val (.ref d12), .val (.int (3 : Int32)), .val (.int (1 : Int32)), .val (.ref s1)] [(.ref s1)]))
      exact own_retA X22 hx hlk Bd.returns rfl rfl (hb hby d1_30) (by rw [e22]; exact ⟨by rw [← hr, own_of, if_neg hq0, if_pos hq1], N12, k17⟩) (by decide) (by decide)
    · refine own_go (fun t k => XS.icmpYes X22.here hx rfl (pc0 := 25) (pc' := 31) rfl (hb hby d1_25) rfl (Jvm.Free.XT.ii_ne_t hq1) (by decide) (by decide) k) ?_
      show own_G p.tables e below s _ _ _ (T22.setTop (mkF m 31 #[.val (.int p1), .val (.ref d12), .val (.int (3 : Int32)), .val (.int (1 : Int32)), .val (.ref s1)] []))
      refine own_go (fun t k => XS.iinc X22.here hx rfl (hb hby d1_31) rfl (l' := #[.val (.int p1), .val (.ref d12), .val (.int (3 : Int32)), .val (.int (2 : Int32)), .val (.ref s1)]) rfl k) ?_
      show own_G p.tables e below s _ _ _ (T22.setTop (mkF m 34 #[.val (.int p1), .val (.ref d12), .val (.int (3 : Int32)), .val (.int (2 : Int32)), .val (.ref s1)] []))
      refine own_go (fun t k => XS.goto X22.here hx rfl (pc0 := 34) (pc' := 9) rfl (hb hby d1_34) (by decide) (by decide) k) ?_
      show own_G p.tables e below s _ _ _ (T22.setTop (mkF m 9 #[.val (.int p1), .val (.ref d12), .val (.int (3 : Int32)), .val (.int (2 : Int32)), .val (.ref s1)] []))
      refine own_go (fun t k => XS.iloadN X22.here hx rfl (hb hby d1_9) rfl k) ?_
      show own_G p.tables e below s _ _ _ (T22.setTop (mkF m 10 #[.val (.int p1), .val (.ref d12), .val (.int (3 : Int32)), .val (.int (2 : Int32)), .val (.ref s1)] [(.int (2 : Int32))]))
      refine own_go (fun t k => XS.iloadN X22.here hx rfl (hb hby d1_10) rfl k) ?_
      show own_G p.tables e below s _ _ _ (T22.setTop (mkF m 11 #[.val (.int p1), .val (.ref d12), .val (.int (3 : Int32)), .val (.int (2 : Int32)), .val (.ref s1)] [(.int (3 : Int32)), (.int (2 : Int32))]))
      refine own_go (fun t k => XS.icmpNo X22.here hx rfl (hb hby d1_11) rfl (by decide) k) ?_
      show own_G p.tables e below s _ _ _ (T22.setTop (mkF m 14 #[.val (.int p1), .val (.ref d12), .val (.int (3 : Int32)), .val (.int (2 : Int32)), .val (.ref s1)] []))
      refine own_go (fun t k => XS.aloadN X22.here hx rfl (hb hby d1_14) rfl rfl k) ?_
      show own_G p.tables e below s _ _ _ (T22.setTop (mkF m 15 #[.val (.int p1), .val (.ref d12), .val (.int (3 : Int32)), .val (.int (2 : Int32)), .val (.ref s1)] [(.ref d12)]))
      refine own_go (fun t k => XS.iloadN X22.here hx rfl (hb hby d1_15) rfl k) ?_
      show own_G p.tables e below s _ _ _ (T22.setTop (mkF m 16 #[.val (.int p1), .val (.ref d12), .val (.int (3 : Int32)), .val (.int (2 : Int32)), .val (.ref s1)] [(.int (2 : Int32)), (.ref d12)]))
      obtain ⟨cl23, Ar23, q23, S23, NN23, HH23, GG23⟩ := id V12
      have hin23 : ¬ ((2 : Int32) < 0 ∨ cl23.slots.size ≤ ((2 : Int32)).toNatClampNeg) := inb_of S23 ⟨by decide, by decide⟩
      have hat23 : cl23.slots[((2 : Int32)).toNatClampNeg]? = some (.ref s2) := Has.at HH23 hin23 rfl
      refine own_go (fun t k => X22.aaload hx (j := (2 : Int32)) (v := (.ref s2)) (by rw [e22]; exact Ar23.1) (State.isArrayOf_alike hZ.alike Ar23.2.1) rfl Ar23.2.2 hin23 hat23 (g := (mkF m 16 #[.val (.int p1), .val (.ref d12), .val (.int (3 : Int32)), .val (.int (2 : Int32)), .val (.ref s1)] [(.int (2 : Int32)), (.ref d12)])) rfl rfl (hb hby d1_16) _ k) ?_
      show own_G p.tables e below s _ _ _ (T22.setTop (mkF m 17 #[.val (.int p1), .val (.ref d12), .val (.int (3 : Int32)), .val (.int (2 : Int32)), .val (.ref s1)] [(.ref s2)]))
      refine own_go (fun t k => XS.astore X22.here hx rfl (hb hby d1_17) rfl rfl (l' := #[.val (.int p1), .val (.ref d12), .val (.int (3 : Int32)), .val (.int (2 : Int32)), .val (.ref s2)]) rfl k) ?_
      show own_G p.tables e below s _ _ _ (T22.setTop (mkF m 19 #[.val (.int p1), .val (.ref d12), .val (.int (3 : Int32)), .val (.int (2 : Int32)), .val (.ref s2)] []))
      refine own_go (fun t k => XS.aload X22.here hx rfl (hb hby d1_19) rfl rfl k) ?_
      show own_G p.tables e below s _ _ _ (T22.setTop (mkF m 21 #[.val (.int p1), .val (.ref d12), .val (.int (3 : Int32)), .val (.int (2 : Int32)), .val (.ref s2)] [(.ref s2)]))
      obtain ⟨T24, X24, e24, st24⟩ := getF X22 hx hZ hown (host := "") (Or.inl (hw _ (List.mem_of_getElem? (i := 22) rfl))) Via.refl e22 f15 (g := (mkF m 21 #[.val (.int p1), .val (.ref d12), .val (.int (3 : Int32)), .val (.int (2 : Int32)), .val (.ref s2)] [(.ref s2)])) rfl rfl (hb hby d1_21)
      refine own_go st24 ?_
      show own_G p.tables e below s _ _ _ (T24.setTop (mkF m 24 #[.val (.int p1), .val (.ref d12), .val (.int (3 : Int32)), .val (.int (2 : Int32)), .val (.ref s2)] [(.int (5 : Int32))]))
      refine own_go (fun t k => XS.iloadN X24.here hx rfl (hb hby d1_24) rfl k) ?_
      show own_G p.tables e below s _ _ _ (T24.setTop (mkF m 25 #[.val (.int p1), .val (.ref d12), .val (.int (3 : Int32)), .val (.int (2 : Int32)), .val (.ref s2)] [(.int p1), (.int (5 : Int32))]))
      by_cases hq2 : (5 : Int32) = p1
      · refine own_go (fun t k => XS.icmpNo X24.here hx rfl (hb hby d1_25) rfl (Jvm.Free.XT.ii_ne_f hq2) k) ?_
        show own_G p.tables e below s _ _ _ (T24.setTop (mkF m 28 #[.val (.int p1), .val (.ref d12), .val (.int (3 : Int32)), .val (.int (2 : Int32)), .val (.ref s2)] []))
        refine own_go (fun t k => XS.aload X24.here hx rfl (hb hby d1_28) rfl rfl k) ?_
        show own_G p.tables e below s _ _ _ (T24.setTop (mkF m 30 #[.val (.int p1), .val (.ref d12), .val (.int (3 : Int32)), .val (.int (2 : Int32)), .val (.ref s2)] [(.ref s2)]))
        exact own_retA X24 hx hlk Bd.returns rfl rfl (hb hby d1_30) (by rw [e24]; exact ⟨by rw [← hr, own_of, if_neg hq0, if_neg hq1, if_pos hq2], N12, k17⟩) (by decide) (by decide)
      · refine own_go (fun t k => XS.icmpYes X24.here hx rfl (pc0 := 25) (pc' := 31) rfl (hb hby d1_25) rfl (Jvm.Free.XT.ii_ne_t hq2) (by decide) (by decide) k) ?_
        show own_G p.tables e below s _ _ _ (T24.setTop (mkF m 31 #[.val (.int p1), .val (.ref d12), .val (.int (3 : Int32)), .val (.int (2 : Int32)), .val (.ref s2)] []))
        refine own_go (fun t k => XS.iinc X24.here hx rfl (hb hby d1_31) rfl (l' := #[.val (.int p1), .val (.ref d12), .val (.int (3 : Int32)), .val (.int (3 : Int32)), .val (.ref s2)]) rfl k) ?_
        show own_G p.tables e below s _ _ _ (T24.setTop (mkF m 34 #[.val (.int p1), .val (.ref d12), .val (.int (3 : Int32)), .val (.int (3 : Int32)), .val (.ref s2)] []))
        refine own_go (fun t k => XS.goto X24.here hx rfl (pc0 := 34) (pc' := 9) rfl (hb hby d1_34) (by decide) (by decide) k) ?_
        show own_G p.tables e below s _ _ _ (T24.setTop (mkF m 9 #[.val (.int p1), .val (.ref d12), .val (.int (3 : Int32)), .val (.int (3 : Int32)), .val (.ref s2)] []))
        refine own_go (fun t k => XS.iloadN X24.here hx rfl (hb hby d1_9) rfl k) ?_
        show own_G p.tables e below s _ _ _ (T24.setTop (mkF m 10 #[.val (.int p1), .val (.ref d12), .val (.int (3 : Int32)), .val (.int (3 : Int32)), .val (.ref s2)] [(.int (3 : Int32))]))
        refine own_go (fun t k => XS.iloadN X24.here hx rfl (hb hby d1_10) rfl k) ?_
        show own_G p.tables e below s _ _ _ (T24.setTop (mkF m 11 #[.val (.int p1), .val (.ref d12), .val (.int (3 : Int32)), .val (.int (3 : Int32)), .val (.ref s2)] [(.int (3 : Int32)), (.int (3 : Int32))]))
        refine own_go (fun t k => XS.icmpYes X24.here hx rfl (pc0 := 11) (pc' := 37) rfl (hb hby d1_11) rfl (by decide) (by decide) (by decide) k) ?_
        show own_G p.tables e below s _ _ _ (T24.setTop (mkF m 37 #[.val (.int p1), .val (.ref d12), .val (.int (3 : Int32)), .val (.int (3 : Int32)), .val (.ref s2)] []))
        refine own_go (fun t k => XS.aconstNull X24.here hx rfl (hb hby d1_37) k) ?_
        show own_G p.tables e below s _ _ _ (T24.setTop (mkF m 38 #[.val (.int p1), .val (.ref d12), .val (.int (3 : Int32)), .val (.int (3 : Int32)), .val (.ref s2)] [.null]))
        exact own_retA X24 hx hlk Bd.returns rfl rfl (hb hby d1_38) (by rw [e24]; exact ⟨by rw [← hr, own_of, if_neg hq0, if_neg hq1, if_neg hq2], N12, k17⟩) (by decide) (by decide)
theorem d3_0 : decode method_2_code 0 = .ok (.iload_n 0, 1) := by decide +kernel
theorem d3_1 : decode method_2_code 1 = .ok (.iconst 1, 1) := by decide +kernel
theorem d3_2 : decode method_2_code 2 = .ok (.if_icmp .ne 7, 3) := by decide +kernel
theorem d3_5 : decode method_2_code 5 = .ok (.getstatic 7, 3) := by decide +kernel
theorem d3_8 : decode method_2_code 8 = .ok (.areturn, 1) := by decide +kernel
theorem d3_9 : decode method_2_code 9 = .ok (.iload_n 0, 1) := by decide +kernel
theorem d3_10 : decode method_2_code 10 = .ok (.iconst 2, 1) := by decide +kernel
theorem d3_11 : decode method_2_code 11 = .ok (.if_icmp .ne 7, 3) := by decide +kernel
theorem d3_14 : decode method_2_code 14 = .ok (.getstatic 13, 3) := by decide +kernel
theorem d3_17 : decode method_2_code 17 = .ok (.areturn, 1) := by decide +kernel
theorem d3_18 : decode method_2_code 18 = .ok (.iload_n 0, 1) := by decide +kernel
theorem d3_19 : decode method_2_code 19 = .ok (.iconst 5, 1) := by decide +kernel
theorem d3_20 : decode method_2_code 20 = .ok (.if_icmp .ne 7, 3) := by decide +kernel
theorem d3_23 : decode method_2_code 23 = .ok (.getstatic 16, 3) := by decide +kernel
theorem d3_26 : decode method_2_code 26 = .ok (.areturn, 1) := by decide +kernel
theorem d3_27 : decode method_2_code 27 = .ok (.aconst_null, 1) := by decide +kernel
theorem d3_28 : decode method_2_code 28 = .ok (.areturn, 1) := by decide +kernel
theorem pn_org_stowage_format_TypeOfPinLaw : plainName "org/stowage/format/TypeOfPinLaw" = true := by first | (simp [plainName, overriddenIn]; done) | decide +kernel
theorem ef_3 (m : MethodId) (x0 : Int32) : entryFrame m #[(.int x0)] 1 = mkF m 0 #[.val (.int x0)] [] := by first | (simp [entryFrame, mkF, argsToLocals, Value.category]; done) | rfl
def Q3 (Z : State) (p1 : Int32) (s0 s1 s2 : Addr) (r : Value) (h0 : Heap) (n0 : Nat) (v : Option Value) (h : Heap) (L : List Loc) : Prop := v = some r ∧ Fr n0 L ∧ h = h0
set_option maxRecDepth 65536 in
set_option maxHeartbeats 40000000 in
theorem rm3 (l : Launch) (Z : State) (a0 : Array Value) (hw : ∀ d ∈ tables_1, d.before a0 Z = true) (ws : List Jvm.Cond) (p1 : Int32) (s0 s1 s2 : Addr) (r : Value) (h0 : Heap) (n0 : Nat) (Z0 : n0 ≤ h0.size) (S0 : Sta Z h0 "org/stowage/format/DirectoryEntry$Type" "STORAGE" "Lorg/stowage/format/DirectoryEntry$Type;" (.ref s0)) (S1 : Sta Z h0 "org/stowage/format/DirectoryEntry$Type" "STREAM" "Lorg/stowage/format/DirectoryEntry$Type;" (.ref s1)) (S2 : Sta Z h0 "org/stowage/format/DirectoryEntry$Type" "ROOT" "Lorg/stowage/format/DirectoryEntry$Type;" (.ref s2)) (hr : own_of p1 s0 s1 s2 = r) :
    MetFree l (⟨"org/stowage/format/TypeOfPinLaw", "expected", "(B)Lorg/stowage/format/DirectoryEntry$Type;"⟩ : MethodName) (head1 (Jvm.Cond.code (⟨"org/stowage/format/TypeOfPinLaw", "expected", "(B)Lorg/stowage/format/DirectoryEntry$Type;"⟩ : MethodName) method_2_code 1 (some (.object "org/stowage/format/DirectoryEntry$Type")) :: ws) ({ frames := 0, cells := 0, slots := 0, locals := 0 } : Room)) (fun a U => a = #[(.int p1)] ∧ Z.Warmed39 U.vm ∧ U.heap = h0) (fun _ _ _ _ _ => True) (fun _ U o U' => ∃ v L, o = .returned v ∧ Q3 Z p1 s0 s1 s2 r h0 n0 v U'.heap L ∧ FrameEnd U o U' L ({ frames := 0, cells := 0, slots := 0, locals := 0 } : Room).cells ({ frames := 0, cells := 0, slots := 0, locals := 0 } : Room).slots) := by
  refine MetFree.of_bodySF (plainFor_of_name pn_org_stowage_format_TypeOfPinLaw) hisR ?_
  intro p e s m args below meth c s₁ Bd hml0 hP hK
  obtain ⟨rfl, hZ, hh⟩ := hP
  have hx := Bd.exec
  have hby := Bd.bytes
  have hlk : meth.locks = false := BodyLoose.notSynchronized Bd
  have hml : c.maxLocals = 1 := hml0
  have hown : s.vm.findClass "org/stowage/format/TypeOfPinLaw" = some m.cls := findClass_of_methodNamed Bd.named
  have hnm := (name_of_methodNamed Bd.named Bd.method).1
  have X0 : Stand p l e ({ frames := 0, cells := 0, slots := 0, locals := 0 } : Room) s m #[(.int p1)] below meth c s₁ [] 0 0 := Stand.of_body Bd
  have e0 : s₁.heap = h0 := by rw [← hh, Bd.state]; rfl
  have N0 := Fr.nil n0
  show own_G p.tables e below s (Q3 Z p1 s0 s1 s2 r h0 n0) ({ frames := 0, cells := 0, slots := 0, locals := 0 } : Room).cells ({ frames := 0, cells := 0, slots := 0, locals := 0 } : Room).slots (s₁.setTop (entryFrame m #[(.int p1)] 1))
  refine own_go (fun t k => castTop (ef_3 m p1) k) ?_
  show own_G p.tables e below s _ _ _ (s₁.setTop (mkF m 0 #[.val (.int p1)] []))
  refine own_go (fun t k => XS.iloadN X0.here hx rfl (hb hby d3_0) rfl k) ?_
  show own_G p.tables e below s _ _ _ (s₁.setTop (mkF m 1 #[.val (.int p1)] [(.int p1)]))
  refine own_go (fun t k => XS.iconst X0.here hx rfl (hb hby d3_1) k) ?_
  show own_G p.tables e below s _ _ _ (s₁.setTop (mkF m 2 #[.val (.int p1)] [(.int (1 : Int32)), (.int p1)]))
  by_cases hq0 : p1 = (1 : Int32)
  · refine own_go (fun t k => XS.icmpNo X0.here hx rfl (hb hby d3_2) rfl (Jvm.Free.XT.ii_ne_f hq0) k) ?_
    show own_G p.tables e below s _ _ _ (s₁.setTop (mkF m 5 #[.val (.int p1)] []))
    obtain ⟨T25, X25, e25, st25⟩ := getS X0 hx hZ hown (host := "") (hw _ (List.mem_of_getElem? (i := 29) rfl)) Via.refl e0 S0 (g := (mkF m 5 #[.val (.int p1)] [])) rfl (hb hby d3_5)
    refine own_go st25 ?_
    show own_G p.tables e below s _ _ _ (T25.setTop (mkF m 8 #[.val (.int p1)] [(.ref s0)]))
    exact own_retA X25 hx hlk Bd.returns rfl rfl (hb hby d3_8) (by rw [e25]; exact ⟨by rw [← hr, own_of, if_pos hq0.symm], N0, rfl⟩) (by decide) (by decide)
  · refine own_go (fun t k => XS.icmpYes X0.here hx rfl (pc0 := 2) (pc' := 9) rfl (hb hby d3_2) rfl (Jvm.Free.XT.ii_ne_t hq0) (by decide) (by decide) k) ?_
    show own_G p.tables e below s _ _ _ (s₁.setTop (mkF m 9 #[.val (.int p1)] []))
    refine own_go (fun t k => XS.iloadN X0.here hx rfl (hb hby d3_9) rfl k) ?_
    show own_G p.tables e below s _ _ _ (s₁.setTop (mkF m 10 #[.val (.int p1)] [(.int p1)]))
    refine own_go (fun t k => XS.iconst X0.here hx rfl (hb hby d3_10) k) ?_
    show own_G p.tables e below s _ _ _ (s₁.setTop (mkF m 11 #[.val (.int p1)] [(.int (2 : Int32)), (.int p1)]))
    by_cases hq1 : p1 = (2 : Int32)
    · refine own_go (fun t k => XS.icmpNo X0.here hx rfl (hb hby d3_11) rfl (Jvm.Free.XT.ii_ne_f hq1) k) ?_
      show own_G p.tables e below s _ _ _ (s₁.setTop (mkF m 14 #[.val (.int p1)] []))
      obtain ⟨T26, X26, e26, st26⟩ := getS X0 hx hZ hown (host := "") (hw _ (List.mem_of_getElem? (i := 28) rfl)) Via.refl e0 S1 (g := (mkF m 14 #[.val (.int p1)] [])) rfl (hb hby d3_14)
      refine own_go st26 ?_
      show own_G p.tables e below s _ _ _ (T26.setTop (mkF m 17 #[.val (.int p1)] [(.ref s1)]))
      exact own_retA X26 hx hlk Bd.returns rfl rfl (hb hby d3_17) (by rw [e26]; exact ⟨by rw [← hr, own_of, if_neg (Ne.symm hq0), if_pos hq1.symm], N0, rfl⟩) (by decide) (by decide)
    · refine own_go (fun t k => XS.icmpYes X0.here hx rfl (pc0 := 11) (pc' := 18) rfl (hb hby d3_11) rfl (Jvm.Free.XT.ii_ne_t hq1) (by decide) (by decide) k) ?_
      show own_G p.tables e below s _ _ _ (s₁.setTop (mkF m 18 #[.val (.int p1)] []))
      refine own_go (fun t k => XS.iloadN X0.here hx rfl (hb hby d3_18) rfl k) ?_
      show own_G p.tables e below s _ _ _ (s₁.setTop (mkF m 19 #[.val (.int p1)] [(.int p1)]))
      refine own_go (fun t k => XS.iconst X0.here hx rfl (hb hby d3_19) k) ?_
      show own_G p.tables e below s _ _ _ (s₁.setTop (mkF m 20 #[.val (.int p1)] [(.int (5 : Int32)), (.int p1)]))
      by_cases hq2 : p1 = (5 : Int32)
      · refine own_go (fun t k => XS.icmpNo X0.here hx rfl (hb hby d3_20) rfl (Jvm.Free.XT.ii_ne_f hq2) k) ?_
        show own_G p.tables e below s _ _ _ (s₁.setTop (mkF m 23 #[.val (.int p1)] []))
        obtain ⟨T27, X27, e27, st27⟩ := getS X0 hx hZ hown (host := "") (hw _ (List.mem_of_getElem? (i := 30) rfl)) Via.refl e0 S2 (g := (mkF m 23 #[.val (.int p1)] [])) rfl (hb hby d3_23)
        refine own_go st27 ?_
        show own_G p.tables e below s _ _ _ (T27.setTop (mkF m 26 #[.val (.int p1)] [(.ref s2)]))
        exact own_retA X27 hx hlk Bd.returns rfl rfl (hb hby d3_26) (by rw [e27]; exact ⟨by rw [← hr, own_of, if_neg (Ne.symm hq0), if_neg (Ne.symm hq1), if_pos hq2.symm], N0, rfl⟩) (by decide) (by decide)
      · refine own_go (fun t k => XS.icmpYes X0.here hx rfl (pc0 := 20) (pc' := 27) rfl (hb hby d3_20) rfl (Jvm.Free.XT.ii_ne_t hq2) (by decide) (by decide) k) ?_
        show own_G p.tables e below s _ _ _ (s₁.setTop (mkF m 27 #[.val (.int p1)] []))
        refine own_go (fun t k => XS.aconstNull X0.here hx rfl (hb hby d3_27) k) ?_
        show own_G p.tables e below s _ _ _ (s₁.setTop (mkF m 28 #[.val (.int p1)] [.null]))
        exact own_retA X0 hx hlk Bd.returns rfl rfl (hb hby d3_28) (by rw [e0]; exact ⟨by rw [← hr, own_of, if_neg (Ne.symm hq0), if_neg (Ne.symm hq1), if_neg (Ne.symm hq2)], N0, rfl⟩) (by decide) (by decide)
theorem own_of_1 {s0 s1 s2 : Addr} : own_of (1 : Int32) s0 s1 s2 = .ref s0 := by simp [own_of]
theorem own_of_2 {s0 s1 s2 : Addr} : own_of (2 : Int32) s0 s1 s2 = .ref s1 := by simp [own_of]
theorem own_of_5 {s0 s1 s2 : Addr} : own_of (5 : Int32) s0 s1 s2 = .ref s2 := by simp [own_of]
theorem pd__B_Lorg_stowage_format_DirectoryEntry_Type_ : parseMethodDescriptor "(B)Lorg/stowage/format/DirectoryEntry$Type;" = some ⟨[.byte], some (.object "org/stowage/format/DirectoryEntry$Type")⟩ := by decide +kernel
theorem ef_0 (m : MethodId) (x0 : Int32) : entryFrame m #[(.int x0)] maxLocals = mkF m 0 #[.val (.int x0), .unset, .unset] [] := by first | (simp [entryFrame, mkF, argsToLocals, Value.category, maxLocals]; done) | rfl
def Q0 (Z : State) (p1 : Int32) (a1 s0 s1 s2 : Addr) (k1 : ClassId) (h0 : Heap) (n0 : Nat) (v : Option Value) (h : Heap) (L : List Loc) : Prop := v = some (.int 1) ∧ Fr n0 L
set_option maxRecDepth 65536 in
set_option maxHeartbeats 40000000 in
theorem rm0 (l : Launch) (Z : State) (a0 : Array Value) (hw : ∀ d ∈ tables_1, d.before a0 Z = true) (ws : List Jvm.Cond) (p1 : Int32) (a1 s0 s1 s2 : Addr) (k1 : ClassId) (h0 : Heap) (n0 : Nat) (Z0 : n0 ≤ h0.size) (S : Sta Z h0 "org/stowage/format/DirectoryEntry$Type" "$VALUES" "[Lorg/stowage/format/DirectoryEntry$Type;" (.ref a1)) (V1 : Arv Z h0 a1 k1 (.object "org/stowage/format/DirectoryEntry$Type") (3 : Int32) [(.ref s0), (.ref s1), (.ref s2)] .null) (E1 : Exa Z h0 a1 "[Lorg/stowage/format/DirectoryEntry$Type;") (C0 : Fld Z h0 s0 "org/stowage/format/DirectoryEntry$Type" "code" "B" (.int (1 : Int32))) (C1 : Fld Z h0 s1 "org/stowage/format/DirectoryEntry$Type" "code" "B" (.int (2 : Int32))) (C2 : Fld Z h0 s2 "org/stowage/format/DirectoryEntry$Type" "code" "B" (.int (5 : Int32))) (S0 : Sta Z Z.heap "org/stowage/format/DirectoryEntry$Type" "STORAGE" "Lorg/stowage/format/DirectoryEntry$Type;" (.ref s0)) (S1 : Sta Z Z.heap "org/stowage/format/DirectoryEntry$Type" "STREAM" "Lorg/stowage/format/DirectoryEntry$Type;" (.ref s1)) (S2 : Sta Z Z.heap "org/stowage/format/DirectoryEntry$Type" "ROOT" "Lorg/stowage/format/DirectoryEntry$Type;" (.ref s2)) (O0 : Old Z n0 h0) :
    MetFree l x (head1 (Jvm.Cond.code x code maxLocals ret :: ws) room_1) (fun a U => a = #[(.int p1)] ∧ Z.Warmed39 U.vm ∧ U.heap = h0) (fun _ _ _ _ _ => True) (fun _ U o U' => ∃ v L, o = .returned v ∧ Q0 Z p1 a1 s0 s1 s2 k1 h0 n0 v U'.heap L ∧ FrameEnd U o U' L room_1.cells room_1.slots) := by
  refine MetFree.of_bodySF (plainFor_of_name pn_org_stowage_format_TypeOfPinLaw) hisR ?_
  intro p e s m args below meth c s₁ Bd hml0 hP hK
  obtain ⟨rfl, hZ, hh⟩ := hP
  have hx := Bd.exec
  have hby := Bd.bytes
  have hlk : meth.locks = false := BodyLoose.notSynchronized Bd
  have hml : c.maxLocals = 3 := hml0
  have hown : s.vm.findClass "org/stowage/format/TypeOfPinLaw" = some m.cls := findClass_of_methodNamed Bd.named
  have hnm := (name_of_methodNamed Bd.named Bd.method).1
  have X0 : Stand p l e room_1 s m #[(.int p1)] below meth c s₁ [] 0 0 := Stand.of_body Bd
  have e0 : s₁.heap = h0 := by rw [← hh, Bd.state]; rfl
  have N0 := Fr.nil n0
  show own_G p.tables e below s (Q0 Z p1 a1 s0 s1 s2 k1 h0 n0) room_1.cells room_1.slots (s₁.setTop (entryFrame m #[(.int p1)] maxLocals))
  refine own_go (fun t k => castTop (ef_0 m p1) k) ?_
  show own_G p.tables e below s _ _ _ (s₁.setTop (mkF m 0 #[.val (.int p1), .unset, .unset] []))
  refine own_go (fun t k => XS.iloadN X0.here hx rfl (hb hby at_0) rfl k) ?_
  show own_G p.tables e below s _ _ _ (s₁.setTop (mkF m 1 #[.val (.int p1), .unset, .unset] [(.int p1)]))
  refine own_go (fun t k => XS.i2b X0.here hx rfl (hb hby at_1) rfl k) ?_
  show own_G p.tables e below s _ _ _ (s₁.setTop (mkF m 2 #[.val (.int p1), .unset, .unset] [(.int (p1.toInt8.toInt32))]))
  obtain ⟨b, hb'⟩ : ∃ z, (p1.toInt8.toInt32) = z := ⟨_, rfl⟩
  rw [hb']
  show own_G p.tables e below s _ _ _ (s₁.setTop (mkF m 2 #[.val (.int p1), .unset, .unset] [(.int b)]))
  refine own_go (fun t k => XS.istoreN X0.here hx rfl (hb hby at_2) rfl (l' := #[.val (.int p1), .val (.int b), .unset]) rfl k) ?_
  show own_G p.tables e below s _ _ _ (s₁.setTop (mkF m 3 #[.val (.int p1), .val (.int b), .unset] []))
  refine own_go (fun t k => XS.iloadN X0.here hx rfl (hb hby at_3) rfl k) ?_
  show own_G p.tables e below s _ _ _ (s₁.setTop (mkF m 4 #[.val (.int p1), .val (.int b), .unset] [(.int b)]))
  by_cases hl1 : (1 : Int32) = b
  · subst hl1
    show own_G p.tables e below s _ _ _ (s₁.setTop (mkF m 4 #[.val (.int p1), .val (.int (1 : Int32)), .unset] [(.int (1 : Int32))]))
    obtain ⟨_, _, ⟨T28, L28, k28, n28⟩, -, X28, ⟨Lc28, hQ28, l28, y28, z28⟩, st28⟩ := Jvm.LawKit.callS X0 hx (y := (⟨"org/stowage/format/DirectoryEntry$Type", "of", "(B)Lorg/stowage/format/DirectoryEntry$Type;"⟩ : MethodName)) hown (mvT hZ (hw _ (List.mem_of_getElem? (i := 0) rfl))) (mvT hZ (hw _ (List.mem_of_getElem? (i := 1) rfl))) (mvT hZ (hw _ (List.mem_of_getElem? (i := 2) rfl))) (mvT hZ (hw _ (List.mem_of_getElem? (i := 3) rfl))) (by decide) (backOf (W := 0) (rm1 l Z a0 hw [] (1 : Int32) a1 s0 s1 s2 k1 (.ref s0) h0 n0 Z0 S V1 E1 C0 C1 C2 own_of_1) hZ (hw _ (List.mem_of_getElem? (i := 3) rfl)) (hw _ (List.mem_of_getElem? (i := 2) rfl)) (by decide) (by decide)) (g := (mkF m 4 #[.val (.int p1), .val (.int (1 : Int32)), .unset] [(.int (1 : Int32))])) rfl (by rw [hml]; rfl) (argsL := [(.int (1 : Int32))]) (rest := []) (lenOf pd__B_Lorg_stowage_format_DirectoryEntry_Type_ rfl) rfl (by show 2 * 0 + _ ≤ _; exact Nat.le_of_eq rfl) (hb hby at_4) (fun _ _ => ⟨rfl, e0, (by decide : 0 + 1 ≤ _), (by decide : 0 + 3 ≤ _)⟩)
    dsimp only [Pt.U, Pt.locs, Pt.cells, Pt.slots] at X28 l28 y28 z28 st28 hQ28
    subst l28 y28 z28
    obtain ⟨rfl, N28q, K28⟩ := hQ28
    have N28 := Fr.app N0 N28q
    refine own_go st28 ?_
    have f29 := O0.keep K28 (fun x q => nomatch q)
    have z30 := Nat.le_trans Z0 K28.1
    show own_G p.tables e below s _ _ _ (T28.setTop (mkF m 7 #[.val (.int p1), .val (.int (1 : Int32)), .unset] [(.ref s0)]))
    refine own_go (fun t k => XS.astoreN X28.here hx rfl (hb hby at_7) rfl rfl (l' := #[.val (.int p1), .val (.int (1 : Int32)), .val (.ref s0)]) rfl k) ?_
    show own_G p.tables e below s _ _ _ (T28.setTop (mkF m 8 #[.val (.int p1), .val (.int (1 : Int32)), .val (.ref s0)] []))
    refine own_go (fun t k => XS.aloadN X28.here hx rfl (hb hby at_8) rfl rfl k) ?_
    show own_G p.tables e below s _ _ _ (T28.setTop (mkF m 9 #[.val (.int p1), .val (.int (1 : Int32)), .val (.ref s0)] [(.ref s0)]))
    refine own_go (fun t k => XS.iloadN X28.here hx rfl (hb hby at_9) rfl k) ?_
    show own_G p.tables e below s _ _ _ (T28.setTop (mkF m 10 #[.val (.int p1), .val (.int (1 : Int32)), .val (.ref s0)] [(.int (1 : Int32)), (.ref s0)]))
    obtain ⟨_, _, ⟨T31, L31, k31, n31⟩, -, X31, ⟨Lc31, hQ31, l31, y31, z31⟩, st31⟩ := Jvm.LawKit.callS X28 hx (y := (⟨"org/stowage/format/TypeOfPinLaw", "expected", "(B)Lorg/stowage/format/DirectoryEntry$Type;"⟩ : MethodName)) hown (mvT hZ (hw _ (List.mem_of_getElem? (i := 24) rfl))) (mvT hZ (hw _ (List.mem_of_getElem? (i := 25) rfl))) (mvT hZ (hw _ (List.mem_of_getElem? (i := 26) rfl))) (mvT hZ (hw _ (List.mem_of_getElem? (i := 27) rfl))) (by decide) (backOf (W := 1) (rm3 l Z a0 hw [] (1 : Int32) s0 s1 s2 (.ref s0) T28.heap n0 z30 (Sta.ext f29.2 S0) (Sta.ext f29.2 S1) (Sta.ext f29.2 S2) own_of_1) hZ (hw _ (List.mem_of_getElem? (i := 27) rfl)) (hw _ (List.mem_of_getElem? (i := 26) rfl)) (by decide) (by decide)) (g := (mkF m 10 #[.val (.int p1), .val (.int (1 : Int32)), .val (.ref s0)] [(.int (1 : Int32)), (.ref s0)])) rfl (by rw [hml]; rfl) (argsL := [(.int (1 : Int32))]) (rest := [(.ref s0)]) (lenOf pd__B_Lorg_stowage_format_DirectoryEntry_Type_ rfl) rfl (by show 2 * 0 + _ ≤ _; exact Nat.le_of_eq rfl) (hb hby at_10) (fun _ _ => ⟨rfl, rfl, (by decide : 1 + 0 ≤ _), (by decide : 3 + 0 ≤ _)⟩)
    dsimp only [Pt.U, Pt.locs, Pt.cells, Pt.slots] at X31 l31 y31 z31 st31 hQ31
    subst l31 y31 z31
    obtain ⟨rfl, N31q, hh31⟩ := hQ31
    have N31 := Fr.app N28 N31q
    refine own_go st31 ?_
    show own_G p.tables e below s _ _ _ (T31.setTop (mkF m 13 #[.val (.int p1), .val (.int (1 : Int32)), .val (.ref s0)] [(.ref s0), (.ref s0)]))
    refine own_go (fun t k => Jvm.Free.XT.acmpNo X31.here hx rfl (hb hby at_13) rfl rfl rfl (Jvm.Free.XT.aa_ne_f rfl) k) ?_
    show own_G p.tables e below s _ _ _ (T31.setTop (mkF m 16 #[.val (.int p1), .val (.int (1 : Int32)), .val (.ref s0)] []))
    refine own_go (fun t k => XS.iconst X31.here hx rfl (hb hby at_16) k) ?_
    show own_G p.tables e below s _ _ _ (T31.setTop (mkF m 17 #[.val (.int p1), .val (.int (1 : Int32)), .val (.ref s0)] [(.int (1 : Int32))]))
    refine own_go (fun t k => XS.goto X31.here hx rfl (pc0 := 17) (pc' := 21) rfl (hb hby at_17) (by decide) (by decide) k) ?_
    show own_G p.tables e below s _ _ _ (T31.setTop (mkF m 21 #[.val (.int p1), .val (.int (1 : Int32)), .val (.ref s0)] [(.int (1 : Int32))]))
    exact own_retN X31 hx hlk (t := .boolean) (z' := (1 : Int32)) Bd.returns (by simp) (hb hby at_21) (rfl) (by rw [hh31]; exact ⟨rfl, N31⟩) (by decide) (by decide)
  · show own_G p.tables e below s _ _ _ (s₁.setTop (mkF m 4 #[.val (.int p1), .val (.int b), .unset] [(.int b)]))
    by_cases hl2 : (2 : Int32) = b
    · subst hl2
      show own_G p.tables e below s _ _ _ (s₁.setTop (mkF m 4 #[.val (.int p1), .val (.int (2 : Int32)), .unset] [(.int (2 : Int32))]))
      obtain ⟨_, _, ⟨T32, L32, k32, n32⟩, -, X32, ⟨Lc32, hQ32, l32, y32, z32⟩, st32⟩ := Jvm.LawKit.callS X0 hx (y := (⟨"org/stowage/format/DirectoryEntry$Type", "of", "(B)Lorg/stowage/format/DirectoryEntry$Type;"⟩ : MethodName)) hown (mvT hZ (hw _ (List.mem_of_getElem? (i := 0) rfl))) (mvT hZ (hw _ (List.mem_of_getElem? (i := 1) rfl))) (mvT hZ (hw _ (List.mem_of_getElem? (i := 2) rfl))) (mvT hZ (hw _ (List.mem_of_getElem? (i := 3) rfl))) (by decide) (backOf (W := 0) (rm1 l Z a0 hw [] (2 : Int32) a1 s0 s1 s2 k1 (.ref s1) h0 n0 Z0 S V1 E1 C0 C1 C2 own_of_2) hZ (hw _ (List.mem_of_getElem? (i := 3) rfl)) (hw _ (List.mem_of_getElem? (i := 2) rfl)) (by decide) (by decide)) (g := (mkF m 4 #[.val (.int p1), .val (.int (2 : Int32)), .unset] [(.int (2 : Int32))])) rfl (by rw [hml]; rfl) (argsL := [(.int (2 : Int32))]) (rest := []) (lenOf pd__B_Lorg_stowage_format_DirectoryEntry_Type_ rfl) rfl (by show 2 * 0 + _ ≤ _; exact Nat.le_of_eq rfl) (hb hby at_4) (fun _ _ => ⟨rfl, e0, (by decide : 0 + 1 ≤ _), (by decide : 0 + 3 ≤ _)⟩)
      dsimp only [Pt.U, Pt.locs, Pt.cells, Pt.slots] at X32 l32 y32 z32 st32 hQ32
      subst l32 y32 z32
      obtain ⟨rfl, N32q, K32⟩ := hQ32
      have N32 := Fr.app N0 N32q
      refine own_go st32 ?_
      have f33 := O0.keep K32 (fun x q => nomatch q)
      have z34 := Nat.le_trans Z0 K32.1
      show own_G p.tables e below s _ _ _ (T32.setTop (mkF m 7 #[.val (.int p1), .val (.int (2 : Int32)), .unset] [(.ref s1)]))
      refine own_go (fun t k => XS.astoreN X32.here hx rfl (hb hby at_7) rfl rfl (l' := #[.val (.int p1), .val (.int (2 : Int32)), .val (.ref s1)]) rfl k) ?_
      show own_G p.tables e below s _ _ _ (T32.setTop (mkF m 8 #[.val (.int p1), .val (.int (2 : Int32)), .val (.ref s1)] []))
      refine own_go (fun t k => XS.aloadN X32.here hx rfl (hb hby at_8) rfl rfl k) ?_
      show own_G p.tables e below s _ _ _ (T32.setTop (mkF m 9 #[.val (.int p1), .val (.int (2 : Int32)), .val (.ref s1)] [(.ref s1)]))
      refine own_go (fun t k => XS.iloadN X32.here hx rfl (hb hby at_9) rfl k) ?_
      show own_G p.tables e below s _ _ _ (T32.setTop (mkF m 10 #[.val (.int p1), .val (.int (2 : Int32)), .val (.ref s1)] [(.int (2 : Int32)), (.ref s1)]))
      obtain ⟨_, _, ⟨T35, L35, k35, n35⟩, -, X35, ⟨Lc35, hQ35, l35, y35, z35⟩, st35⟩ := Jvm.LawKit.callS X32 hx (y := (⟨"org/stowage/format/TypeOfPinLaw", "expected", "(B)Lorg/stowage/format/DirectoryEntry$Type;"⟩ : MethodName)) hown (mvT hZ (hw _ (List.mem_of_getElem? (i := 24) rfl))) (mvT hZ (hw _ (List.mem_of_getElem? (i := 25) rfl))) (mvT hZ (hw _ (List.mem_of_getElem? (i := 26) rfl))) (mvT hZ (hw _ (List.mem_of_getElem? (i := 27) rfl))) (by decide) (backOf (W := 1) (rm3 l Z a0 hw [] (2 : Int32) s0 s1 s2 (.ref s1) T32.heap n0 z34 (Sta.ext f33.2 S0) (Sta.ext f33.2 S1) (Sta.ext f33.2 S2) own_of_2) hZ (hw _ (List.mem_of_getElem? (i := 27) rfl)) (hw _ (List.mem_of_getElem? (i := 26) rfl)) (by decide) (by decide)) (g := (mkF m 10 #[.val (.int p1), .val (.int (2 : Int32)), .val (.ref s1)] [(.int (2 : Int32)), (.ref s1)])) rfl (by rw [hml]; rfl) (argsL := [(.int (2 : Int32))]) (rest := [(.ref s1)]) (lenOf pd__B_Lorg_stowage_format_DirectoryEntry_Type_ rfl) rfl (by show 2 * 0 + _ ≤ _; exact Nat.le_of_eq rfl) (hb hby at_10) (fun _ _ => ⟨rfl, rfl, (by decide : 1 + 0 ≤ _), (by decide : 3 + 0 ≤ _)⟩)
      dsimp only [Pt.U, Pt.locs, Pt.cells, Pt.slots] at X35 l35 y35 z35 st35 hQ35
      subst l35 y35 z35
      obtain ⟨rfl, N35q, hh35⟩ := hQ35
      have N35 := Fr.app N32 N35q
      refine own_go st35 ?_
      show own_G p.tables e below s _ _ _ (T35.setTop (mkF m 13 #[.val (.int p1), .val (.int (2 : Int32)), .val (.ref s1)] [(.ref s1), (.ref s1)]))
      refine own_go (fun t k => Jvm.Free.XT.acmpNo X35.here hx rfl (hb hby at_13) rfl rfl rfl (Jvm.Free.XT.aa_ne_f rfl) k) ?_
      show own_G p.tables e below s _ _ _ (T35.setTop (mkF m 16 #[.val (.int p1), .val (.int (2 : Int32)), .val (.ref s1)] []))
      refine own_go (fun t k => XS.iconst X35.here hx rfl (hb hby at_16) k) ?_
      show own_G p.tables e below s _ _ _ (T35.setTop (mkF m 17 #[.val (.int p1), .val (.int (2 : Int32)), .val (.ref s1)] [(.int (1 : Int32))]))
      refine own_go (fun t k => XS.goto X35.here hx rfl (pc0 := 17) (pc' := 21) rfl (hb hby at_17) (by decide) (by decide) k) ?_
      show own_G p.tables e below s _ _ _ (T35.setTop (mkF m 21 #[.val (.int p1), .val (.int (2 : Int32)), .val (.ref s1)] [(.int (1 : Int32))]))
      exact own_retN X35 hx hlk (t := .boolean) (z' := (1 : Int32)) Bd.returns (by simp) (hb hby at_21) (rfl) (by rw [hh35]; exact ⟨rfl, N35⟩) (by decide) (by decide)
    · show own_G p.tables e below s _ _ _ (s₁.setTop (mkF m 4 #[.val (.int p1), .val (.int b), .unset] [(.int b)]))
      by_cases hl5 : (5 : Int32) = b
      · subst hl5
        show own_G p.tables e below s _ _ _ (s₁.setTop (mkF m 4 #[.val (.int p1), .val (.int (5 : Int32)), .unset] [(.int (5 : Int32))]))
        obtain ⟨_, _, ⟨T36, L36, k36, n36⟩, -, X36, ⟨Lc36, hQ36, l36, y36, z36⟩, st36⟩ := Jvm.LawKit.callS X0 hx (y := (⟨"org/stowage/format/DirectoryEntry$Type", "of", "(B)Lorg/stowage/format/DirectoryEntry$Type;"⟩ : MethodName)) hown (mvT hZ (hw _ (List.mem_of_getElem? (i := 0) rfl))) (mvT hZ (hw _ (List.mem_of_getElem? (i := 1) rfl))) (mvT hZ (hw _ (List.mem_of_getElem? (i := 2) rfl))) (mvT hZ (hw _ (List.mem_of_getElem? (i := 3) rfl))) (by decide) (backOf (W := 0) (rm1 l Z a0 hw [] (5 : Int32) a1 s0 s1 s2 k1 (.ref s2) h0 n0 Z0 S V1 E1 C0 C1 C2 own_of_5) hZ (hw _ (List.mem_of_getElem? (i := 3) rfl)) (hw _ (List.mem_of_getElem? (i := 2) rfl)) (by decide) (by decide)) (g := (mkF m 4 #[.val (.int p1), .val (.int (5 : Int32)), .unset] [(.int (5 : Int32))])) rfl (by rw [hml]; rfl) (argsL := [(.int (5 : Int32))]) (rest := []) (lenOf pd__B_Lorg_stowage_format_DirectoryEntry_Type_ rfl) rfl (by show 2 * 0 + _ ≤ _; exact Nat.le_of_eq rfl) (hb hby at_4) (fun _ _ => ⟨rfl, e0, (by decide : 0 + 1 ≤ _), (by decide : 0 + 3 ≤ _)⟩)
        dsimp only [Pt.U, Pt.locs, Pt.cells, Pt.slots] at X36 l36 y36 z36 st36 hQ36
        subst l36 y36 z36
        obtain ⟨rfl, N36q, K36⟩ := hQ36
        have N36 := Fr.app N0 N36q
        refine own_go st36 ?_
        have f37 := O0.keep K36 (fun x q => nomatch q)
        have z38 := Nat.le_trans Z0 K36.1
        show own_G p.tables e below s _ _ _ (T36.setTop (mkF m 7 #[.val (.int p1), .val (.int (5 : Int32)), .unset] [(.ref s2)]))
        refine own_go (fun t k => XS.astoreN X36.here hx rfl (hb hby at_7) rfl rfl (l' := #[.val (.int p1), .val (.int (5 : Int32)), .val (.ref s2)]) rfl k) ?_
        show own_G p.tables e below s _ _ _ (T36.setTop (mkF m 8 #[.val (.int p1), .val (.int (5 : Int32)), .val (.ref s2)] []))
        refine own_go (fun t k => XS.aloadN X36.here hx rfl (hb hby at_8) rfl rfl k) ?_
        show own_G p.tables e below s _ _ _ (T36.setTop (mkF m 9 #[.val (.int p1), .val (.int (5 : Int32)), .val (.ref s2)] [(.ref s2)]))
        refine own_go (fun t k => XS.iloadN X36.here hx rfl (hb hby at_9) rfl k) ?_
        show own_G p.tables e below s _ _ _ (T36.setTop (mkF m 10 #[.val (.int p1), .val (.int (5 : Int32)), .val (.ref s2)] [(.int (5 : Int32)), (.ref s2)]))
        obtain ⟨_, _, ⟨T39, L39, k39, n39⟩, -, X39, ⟨Lc39, hQ39, l39, y39, z39⟩, st39⟩ := Jvm.LawKit.callS X36 hx (y := (⟨"org/stowage/format/TypeOfPinLaw", "expected", "(B)Lorg/stowage/format/DirectoryEntry$Type;"⟩ : MethodName)) hown (mvT hZ (hw _ (List.mem_of_getElem? (i := 24) rfl))) (mvT hZ (hw _ (List.mem_of_getElem? (i := 25) rfl))) (mvT hZ (hw _ (List.mem_of_getElem? (i := 26) rfl))) (mvT hZ (hw _ (List.mem_of_getElem? (i := 27) rfl))) (by decide) (backOf (W := 1) (rm3 l Z a0 hw [] (5 : Int32) s0 s1 s2 (.ref s2) T36.heap n0 z38 (Sta.ext f37.2 S0) (Sta.ext f37.2 S1) (Sta.ext f37.2 S2) own_of_5) hZ (hw _ (List.mem_of_getElem? (i := 27) rfl)) (hw _ (List.mem_of_getElem? (i := 26) rfl)) (by decide) (by decide)) (g := (mkF m 10 #[.val (.int p1), .val (.int (5 : Int32)), .val (.ref s2)] [(.int (5 : Int32)), (.ref s2)])) rfl (by rw [hml]; rfl) (argsL := [(.int (5 : Int32))]) (rest := [(.ref s2)]) (lenOf pd__B_Lorg_stowage_format_DirectoryEntry_Type_ rfl) rfl (by show 2 * 0 + _ ≤ _; exact Nat.le_of_eq rfl) (hb hby at_10) (fun _ _ => ⟨rfl, rfl, (by decide : 1 + 0 ≤ _), (by decide : 3 + 0 ≤ _)⟩)
        dsimp only [Pt.U, Pt.locs, Pt.cells, Pt.slots] at X39 l39 y39 z39 st39 hQ39
        subst l39 y39 z39
        obtain ⟨rfl, N39q, hh39⟩ := hQ39
        have N39 := Fr.app N36 N39q
        refine own_go st39 ?_
        show own_G p.tables e below s _ _ _ (T39.setTop (mkF m 13 #[.val (.int p1), .val (.int (5 : Int32)), .val (.ref s2)] [(.ref s2), (.ref s2)]))
        refine own_go (fun t k => Jvm.Free.XT.acmpNo X39.here hx rfl (hb hby at_13) rfl rfl rfl (Jvm.Free.XT.aa_ne_f rfl) k) ?_
        show own_G p.tables e below s _ _ _ (T39.setTop (mkF m 16 #[.val (.int p1), .val (.int (5 : Int32)), .val (.ref s2)] []))
        refine own_go (fun t k => XS.iconst X39.here hx rfl (hb hby at_16) k) ?_
        show own_G p.tables e below s _ _ _ (T39.setTop (mkF m 17 #[.val (.int p1), .val (.int (5 : Int32)), .val (.ref s2)] [(.int (1 : Int32))]))
        refine own_go (fun t k => XS.goto X39.here hx rfl (pc0 := 17) (pc' := 21) rfl (hb hby at_17) (by decide) (by decide) k) ?_
        show own_G p.tables e below s _ _ _ (T39.setTop (mkF m 21 #[.val (.int p1), .val (.int (5 : Int32)), .val (.ref s2)] [(.int (1 : Int32))]))
        exact own_retN X39 hx hlk (t := .boolean) (z' := (1 : Int32)) Bd.returns (by simp) (hb hby at_21) (rfl) (by rw [hh39]; exact ⟨rfl, N39⟩) (by decide) (by decide)
      · show own_G p.tables e below s _ _ _ (s₁.setTop (mkF m 4 #[.val (.int p1), .val (.int b), .unset] [(.int b)]))
        obtain ⟨_, _, ⟨T40, L40, k40, n40⟩, -, X40, ⟨Lc40, hQ40, l40, y40, z40⟩, st40⟩ := Jvm.LawKit.callS X0 hx (y := (⟨"org/stowage/format/DirectoryEntry$Type", "of", "(B)Lorg/stowage/format/DirectoryEntry$Type;"⟩ : MethodName)) hown (mvT hZ (hw _ (List.mem_of_getElem? (i := 0) rfl))) (mvT hZ (hw _ (List.mem_of_getElem? (i := 1) rfl))) (mvT hZ (hw _ (List.mem_of_getElem? (i := 2) rfl))) (mvT hZ (hw _ (List.mem_of_getElem? (i := 3) rfl))) (by decide) (backOf (W := 0) (rm1 l Z a0 hw [] b a1 s0 s1 s2 k1 .null h0 n0 Z0 S V1 E1 C0 C1 C2 (by rw [own_of, if_neg hl1, if_neg hl2, if_neg hl5])) hZ (hw _ (List.mem_of_getElem? (i := 3) rfl)) (hw _ (List.mem_of_getElem? (i := 2) rfl)) (by decide) (by decide)) (g := (mkF m 4 #[.val (.int p1), .val (.int b), .unset] [(.int b)])) rfl (by rw [hml]; rfl) (argsL := [(.int b)]) (rest := []) (lenOf pd__B_Lorg_stowage_format_DirectoryEntry_Type_ rfl) rfl (by show 2 * 0 + _ ≤ _; exact Nat.le_of_eq rfl) (hb hby at_4) (fun _ _ => ⟨rfl, e0, (by decide : 0 + 1 ≤ _), (by decide : 0 + 3 ≤ _)⟩)
        dsimp only [Pt.U, Pt.locs, Pt.cells, Pt.slots] at X40 l40 y40 z40 st40 hQ40
        subst l40 y40 z40
        obtain ⟨rfl, N40q, K40⟩ := hQ40
        have N40 := Fr.app N0 N40q
        refine own_go st40 ?_
        have f41 := O0.keep K40 (fun x q => nomatch q)
        have z42 := Nat.le_trans Z0 K40.1
        show own_G p.tables e below s _ _ _ (T40.setTop (mkF m 7 #[.val (.int p1), .val (.int b), .unset] [.null]))
        refine own_go (fun t k => XS.astoreN X40.here hx rfl (hb hby at_7) rfl rfl (l' := #[.val (.int p1), .val (.int b), .val .null]) rfl k) ?_
        show own_G p.tables e below s _ _ _ (T40.setTop (mkF m 8 #[.val (.int p1), .val (.int b), .val .null] []))
        refine own_go (fun t k => XS.aloadN X40.here hx rfl (hb hby at_8) rfl rfl k) ?_
        show own_G p.tables e below s _ _ _ (T40.setTop (mkF m 9 #[.val (.int p1), .val (.int b), .val .null] [.null]))
        refine own_go (fun t k => XS.iloadN X40.here hx rfl (hb hby at_9) rfl k) ?_
        show own_G p.tables e below s _ _ _ (T40.setTop (mkF m 10 #[.val (.int p1), .val (.int b), .val .null] [(.int b), .null]))
        obtain ⟨_, _, ⟨T43, L43, k43, n43⟩, -, X43, ⟨Lc43, hQ43, l43, y43, z43⟩, st43⟩ := Jvm.LawKit.callS X40 hx (y := (⟨"org/stowage/format/TypeOfPinLaw", "expected", "(B)Lorg/stowage/format/DirectoryEntry$Type;"⟩ : MethodName)) hown (mvT hZ (hw _ (List.mem_of_getElem? (i := 24) rfl))) (mvT hZ (hw _ (List.mem_of_getElem? (i := 25) rfl))) (mvT hZ (hw _ (List.mem_of_getElem? (i := 26) rfl))) (mvT hZ (hw _ (List.mem_of_getElem? (i := 27) rfl))) (by decide) (backOf (W := 1) (rm3 l Z a0 hw [] b s0 s1 s2 .null T40.heap n0 z42 (Sta.ext f41.2 S0) (Sta.ext f41.2 S1) (Sta.ext f41.2 S2) (by rw [own_of, if_neg hl1, if_neg hl2, if_neg hl5])) hZ (hw _ (List.mem_of_getElem? (i := 27) rfl)) (hw _ (List.mem_of_getElem? (i := 26) rfl)) (by decide) (by decide)) (g := (mkF m 10 #[.val (.int p1), .val (.int b), .val .null] [(.int b), .null])) rfl (by rw [hml]; rfl) (argsL := [(.int b)]) (rest := [.null]) (lenOf pd__B_Lorg_stowage_format_DirectoryEntry_Type_ rfl) rfl (by show 2 * 0 + _ ≤ _; exact Nat.le_of_eq rfl) (hb hby at_10) (fun _ _ => ⟨rfl, rfl, (by decide : 1 + 0 ≤ _), (by decide : 3 + 0 ≤ _)⟩)
        dsimp only [Pt.U, Pt.locs, Pt.cells, Pt.slots] at X43 l43 y43 z43 st43 hQ43
        subst l43 y43 z43
        obtain ⟨rfl, N43q, hh43⟩ := hQ43
        have N43 := Fr.app N40 N43q
        refine own_go st43 ?_
        show own_G p.tables e below s _ _ _ (T43.setTop (mkF m 13 #[.val (.int p1), .val (.int b), .val .null] [.null, .null]))
        refine own_go (fun t k => Jvm.Free.XT.acmpNo X43.here hx rfl (hb hby at_13) rfl rfl rfl (Jvm.Free.XT.aa_ne_f rfl) k) ?_
        show own_G p.tables e below s _ _ _ (T43.setTop (mkF m 16 #[.val (.int p1), .val (.int b), .val .null] []))
        refine own_go (fun t k => XS.iconst X43.here hx rfl (hb hby at_16) k) ?_
        show own_G p.tables e below s _ _ _ (T43.setTop (mkF m 17 #[.val (.int p1), .val (.int b), .val .null] [(.int (1 : Int32))]))
        refine own_go (fun t k => XS.goto X43.here hx rfl (pc0 := 17) (pc' := 21) rfl (hb hby at_17) (by decide) (by decide) k) ?_
        show own_G p.tables e below s _ _ _ (T43.setTop (mkF m 21 #[.val (.int p1), .val (.int b), .val .null] [(.int (1 : Int32))]))
        exact own_retN X43 hx hlk (t := .boolean) (z' := (1 : Int32)) Bd.returns (by simp) (hb hby at_21) (rfl) (by rw [hh43]; exact ⟨rfl, N43⟩) (by decide) (by decide)
set_option maxRecDepth 65536 in
set_option maxHeartbeats 40000000 in
theorem comes_1 {Post : Tables → Env → Array Value → State → Outcome → State → Prop} (hpost : ∀ tb e args s v u, (limb_1_1.after args s (.returned v) u = true ∧ limb_1_2.after args s (.returned v) u = true ∧ True) → FrameEnd s (.returned v) u (Jvm.fieldLocs frame_1_writes args s ++ Jvm.arrayLocs frame_1_arrays args s ++ Jvm.staticLocs frame_1_statics s) 16 128 → Post tb e args s (.returned v) u) :
    ArmFor flags0 classFile x code maxLocals ret World_1 tables_1 room_1 Calls_1 rest_1 Pre_1 Post := by
  intro l hfl _ _ p e ha hc hk s m args below hf hA hF happ hP
  obtain ⟨hcalls, hrest, hpre⟩ := hP
  obtain ⟨-, -, -, hnamed, -, -, -, hat⟩ := (Spec.applies_iff hf).mp happ
  obtain ⟨hg, hn⟩ := and_e (Cond.before_iff.mp (show (Jvm.Cond.and given_1 narrow_1).before args s = true from hpre))
  obtain ⟨gc, g0'⟩ := and_e hg
  have ga0 := g0'
  obtain ⟨w0, rfl⟩ : ∃ w0 : Value, args = #[w0] := by
    have hs : args.size = 1 := by simpa [Cond.value, given_1] using gc
    obtain ⟨L⟩ := args
    match L, hs with
    | [w0], _ => exact ⟨w0, rfl⟩
  have hw := fun d (hd : d ∈ tables_1) => atoms_spec (ws := Jvm.Cond.code x code maxLocals ret :: tables_1) hat d (List.mem_cons_of_mem _ hd)
  have hfit : Fit s := fun {y c} hc i hi => by
    obtain ⟨ha, rfl⟩ := Array.getElem?_eq_some_iff.mp hc
    have q := List.all_eq_true.mp ((Array.all_eq_true_iff_forall_mem.mp hF) _ (Array.getElem_mem ha)) i (List.mem_range.mpr hi)
    simpa [Array.getElem?_eq_getElem hi] using q
  obtain ⟨i0, ei0⟩ := is_v ga0
  obtain rfl : w0 = (.int i0) := Option.some.inj ei0
  obtain ⟨x0, hn0⟩ := and_e hn
  obtain ⟨x1, hn1⟩ := and_e hn0
  obtain ⟨x2, hn2⟩ := and_e hn1
  obtain ⟨x3, hn3⟩ := and_e hn2
  obtain ⟨x4, hn4⟩ := and_e hn3
  obtain ⟨x5, hn5⟩ := and_e hn4
  obtain ⟨x6, hn6⟩ := and_e hn5
  obtain ⟨x7, hn7⟩ := and_e hn6
  obtain ⟨x8, hn8⟩ := and_e hn7
  obtain ⟨x9, hn9⟩ := and_e hn8
  obtain ⟨x10, hn10⟩ := and_e hn9
  have x11 := hn10
  obtain ⟨a1, ea⟩ := arr_v x0
  obtain ⟨cl, A1⟩ := Arr.start ea x0
  have E1 := Exa.start ea x1
  obtain ⟨hl1, hl2⟩ := own_len ea A1 (own_eqI x2)
  obtain ⟨s0, es0⟩ := exa_v x3
  have S0 := Sta.start es0 (Or.inr ⟨(hw _ (List.mem_of_getElem? (i := 2) rfl)), (hw _ (List.mem_of_getElem? (i := 16) rfl))⟩)
  have el0 := (elem_in (own_eqR es0 x4) ea (Term.int_eval (0)) A1.1).2
  have C0 := Fld.start ((fld_at es0).symm.trans (own_eqI x9))
  obtain ⟨s1, es1⟩ := exa_v x5
  have S1 := Sta.start es1 (Or.inr ⟨(hw _ (List.mem_of_getElem? (i := 2) rfl)), (hw _ (List.mem_of_getElem? (i := 17) rfl))⟩)
  have el1 := (elem_in (own_eqR es1 x6) ea (Term.int_eval (1)) A1.1).2
  have C1 := Fld.start ((fld_at es1).symm.trans (own_eqI x10))
  obtain ⟨s2, es2⟩ := exa_v x7
  have S2 := Sta.start es2 (Or.inr ⟨(hw _ (List.mem_of_getElem? (i := 2) rfl)), (hw _ (List.mem_of_getElem? (i := 18) rfl))⟩)
  have el2 := (elem_in (own_eqR es2 x8) ea (Term.int_eval (2)) A1.1).2
  have C2 := Fld.start ((fld_at es2).symm.trans (own_eqI x11))
  have S := Sta.start ea (Or.inr ⟨(hw _ (List.mem_of_getElem? (i := 2) rfl)), (hw _ (List.mem_of_getElem? (i := 8) rfl))⟩)
  have V1 : Arv s s.heap a1 cl.cls (.object "org/stowage/format/DirectoryEntry$Type") (3 : Int32) [(.ref s0), (.ref s1), (.ref s2)] .null := Arv.start hfit A1 hl1 hl2 (by decide) rfl ⟨el0, el1, el2, trivial⟩
  obtain ⟨n, o, h1, h2, h3, _, L, rfl, ⟨rfl, N⟩, hq⟩ := rm0 l s _ hw tables_1 i0 a1 s0 s1 s2 cl.cls s.heap s.heap.size (Nat.le_refl _) S V1 E1 C0 C1 C2 S0 S1 S2 (Old.start s) p e ha hc hk s m _ below hf ((Spec.applies_iff_loose hf).mp happ).1 ⟨rfl, State.Warmed39.refl s, rfl⟩ trivial
  refine ⟨n, _, h1, h2, h3, hpost _ _ _ _ _ _ ⟨Cond.after_iff.mpr rfl, Cond.after_iff.mpr (eq_i res_at (Term.int_eval (1)) rfl), trivial⟩ ⟨hq.1, hq.2.1, (hq.2.2.sift fun y hy => Or.inr (N y hy)).mono (by decide) (by decide)⟩⟩
theorem main_1_1 : Claimed_1_1 := comes_1 fun _ _ _ _ _ _ h hF => ⟨h.1, hF⟩
theorem main_1_2 : Claimed_1_2 := comes_1 fun _ _ _ _ _ _ h hF => ⟨h.2.1, hF⟩
end Jvm.Pilot.@@N@@
namespace Jvm.Pilot.@@N@@
open Jvm Jvm.ClassFile Sem Op Lib Jvm.Free Jvm.Stand Jvm.Pilot.@@N@@.Jvm.D
/-! MADE BY PROGRAM (witnessworld.py) out of the Statement's table words and the real class files: 13 classes; the members and pool entries that the words name. The judged class is class 1, her method 2. -/
namespace start1
open Jvm.ClassFile
def u (s : String) : CpInfo := .utf8 (stringToUtf16 s)
/-- a pool by its gaps: so many unusable entries, then the entry; so many at the end -/
def gap : Nat → List CpInfo → List CpInfo
  | 0, r => r
  | n + 1, r => .unusable :: gap n r
def poolList (es : List (Nat × CpInfo)) (last : Nat) : List CpInfo := es.foldr (fun e r => gap e.1 (e.2 :: r)) (gap last [])
def pool (es : List (Nat × CpInfo)) (last : Nat) : Array CpInfo := ⟨poolList es last⟩
def fileOf (pool : Array CpInfo) (this : Nat) (attrs : Array Attribute := #[]) (ms : Array MethodInfo := #[]) (fl : Nat := 33) (sup : Nat := 0) (ifs : Array Nat := #[]) (fds : Array FieldInfo := #[]) : ClassFile where
  minorVersion := 0
  majorVersion := 65
  constantPool := pool
  accessFlags := fl
  thisClass := this
  superClass := sup
  interfaces := ifs
  fields := fds
  methods := ms
  attributes := attrs
def plain (name : String) (sup : Option ClassId) : Class where
  name := name
  kind := .ordinary
  loader := none
  accessFlags := 33
  super := sup
  interfaces := #[]
  cf := none
  fields := #[]
  methods := #[]
  instanceTypes := #[]
  staticTypes := #[]
  resolved := #[]
  callSites := []
  init := .initialized
  statics := none
  mirror := none

def pool0 : Array CpInfo := pool [(5, u "<init>"), (0, u "()V"), (1, .class_ 10), (1, u "java/lang/Object"), (85, u "clone"), (0, u "()Ljava/lang/Object;")] 26

def k0m0 : Method := { name := "<init>", desc := "()V", sig := { parameters := [], returnType := none }, accessFlags := 1, code := none }
def k0m1 : Method := { name := "clone", desc := "()Ljava/lang/Object;", sig := { parameters := [], returnType := some (.object "java/lang/Object") }, accessFlags := 260, code := none }
/-- java/lang/Object -/
def k0 : Class := { plain "java/lang/Object" none with
  accessFlags := 33
  interfaces := #[]
  cf := some (fileOf pool0 8 #[] #[{ accessFlags := 1, nameIndex := 5, descriptorIndex := 6, attributes := #[] }, { accessFlags := 260, nameIndex := 96, descriptorIndex := 97, attributes := #[] }] 33 0 #[] #[])
  fields := #[]
  methods := #[k0m0, k0m1]
  instanceTypes := #[]
  staticTypes := #[]
  resolved := Array.replicate 124 none
  statics := none }

def pool1 : Array CpInfo := pool [(2, .class_ 4), (1, u "java/lang/Object"), (0, u "<init>"), (0, u "()V"), (0, .fieldref 8 9), (0, .class_ 10), (0, .nameAndType 11 12), (0, u "org/stowage/format/DirectoryEntry$Type"), (0, u "STORAGE"), (0, u "Lorg/stowage/format/DirectoryEntry$Type;"), (0, .fieldref 8 14), (0, .nameAndType 15 12), (0, u "STREAM"), (0, .fieldref 8 17), (0, .nameAndType 18 12), (0, u "ROOT"), (0, .methodref 8 20), (0, .nameAndType 21 22), (0, u "of"), (0, u "(B)Lorg/stowage/format/DirectoryEntry$Type;"), (0, .methodref 24 25), (0, .class_ 26), (0, .nameAndType 27 22), (0, u "org/stowage/format/TypeOfPinLaw"), (0, u "expected"), (3, u "law"), (0, u "(I)Z")] 6

def k1m0 : Method := { name := "<init>", desc := "()V", sig := { parameters := [], returnType := none }, accessFlags := 2, code := none }
def k1c1 : Code := { maxStack := 2, maxLocals := 1, code := method_2_code, exceptionTable := #[], attributes := #[] }
def k1m1 : Method := { name := "expected", desc := "(B)Lorg/stowage/format/DirectoryEntry$Type;", sig := { parameters := [.byte], returnType := some (.object "org/stowage/format/DirectoryEntry$Type") }, accessFlags := 10, code := some k1c1 }
def k1c2 : Code := { maxStack := 2, maxLocals := 3, code := code, exceptionTable := #[], attributes := #[] }
def k1m2 : Method := { name := "law", desc := "(I)Z", sig := { parameters := [.int], returnType := some .boolean }, accessFlags := 9, code := some k1c2 }
/-- org/stowage/format/TypeOfPinLaw -/
def k1 : Class := { plain "org/stowage/format/TypeOfPinLaw" (some 0) with
  accessFlags := 49
  interfaces := #[]
  cf := some (fileOf pool1 24 #[] #[{ accessFlags := 2, nameIndex := 5, descriptorIndex := 6, attributes := #[] }, { accessFlags := 10, nameIndex := 27, descriptorIndex := 22, attributes := #[] }, { accessFlags := 9, nameIndex := 31, descriptorIndex := 32, attributes := #[] }] 49 2 #[] #[])
  fields := #[]
  methods := #[k1m0, k1m1, k1m2]
  instanceTypes := #[]
  staticTypes := #[]
  resolved := Array.replicate 39 none
  statics := none }

def pool2 : Array CpInfo := pool [(1, .class_ 2), (0, u "java/lang/constant/Constable"), (0, .class_ 4), (0, u "java/lang/Object")] 6

/-- java/lang/constant/Constable -/
def k2 : Class := { plain "java/lang/constant/Constable" (some 0) with
  accessFlags := 1537
  interfaces := #[]
  cf := some (fileOf pool2 1 #[] #[] 1537 3 #[] #[])
  fields := #[]
  methods := #[]
  instanceTypes := #[]
  staticTypes := #[]
  resolved := Array.replicate 11 none
  statics := none }

def pool3 : Array CpInfo := pool [(1, .class_ 2), (0, u "java/lang/Comparable"), (0, .class_ 4), (0, u "java/lang/Object")] 7

/-- java/lang/Comparable -/
def k3 : Class := { plain "java/lang/Comparable" (some 0) with
  accessFlags := 1537
  interfaces := #[]
  cf := some (fileOf pool3 1 #[] #[] 1537 3 #[] #[])
  fields := #[]
  methods := #[]
  instanceTypes := #[]
  staticTypes := #[]
  resolved := Array.replicate 12 none
  statics := none }

def pool4 : Array CpInfo := pool [(1, .class_ 2), (0, u "java/io/Serializable"), (0, .class_ 4), (0, u "java/lang/Object")] 2

/-- java/io/Serializable -/
def k4 : Class := { plain "java/io/Serializable" (some 0) with
  accessFlags := 1537
  interfaces := #[]
  cf := some (fileOf pool4 1 #[] #[] 1537 3 #[] #[])
  fields := #[]
  methods := #[]
  instanceTypes := #[]
  staticTypes := #[]
  resolved := Array.replicate 7 none
  statics := none }

def pool5 : Array CpInfo := pool [(2, .class_ 4), (1, u "java/lang/Enum"), (0, u "name"), (0, u "Ljava/lang/String;"), (2, u "ordinal"), (0, u "I"), (1, .class_ 14), (1, u "java/lang/Object"), (4, u "hash"), (86, .class_ 108), (1, u "java/lang/Enum$EnumDesc"), (2, .class_ 112), (0, u "java/lang/constant/Constable"), (0, .class_ 114), (0, u "java/lang/Comparable"), (0, .class_ 116), (0, u "java/io/Serializable")] 87

/-- java/lang/Enum -/
def k5 : Class := { plain "java/lang/Enum" (some 0) with
  accessFlags := 1057
  interfaces := #[2, 3, 4]
  cf := some (fileOf pool5 2 #[.nestMembers #[106]] #[] 1057 12 #[111, 113, 115] #[{ accessFlags := 18, nameIndex := 5, descriptorIndex := 6, attributes := #[] }, { accessFlags := 18, nameIndex := 9, descriptorIndex := 10, attributes := #[] }, { accessFlags := 2, nameIndex := 19, descriptorIndex := 10, attributes := #[] }])
  fields := #[{ name := "name", type := (.object "java/lang/String"), accessFlags := 18, slot := 0, constantValue := 0 }, { name := "ordinal", type := .int, accessFlags := 18, slot := 1, constantValue := 0 }, { name := "hash", type := .int, accessFlags := 2, slot := 2, constantValue := 0 }]
  methods := #[]
  instanceTypes := #[(.object "java/lang/String"), .int, .int]
  staticTypes := #[]
  resolved := Array.replicate 204 none
  statics := none }

def pool6 : Array CpInfo := pool [(1, .class_ 2), (0, u "org/stowage/format/DirectoryEntry$Type"), (2, u "STORAGE"), (0, u "Lorg/stowage/format/DirectoryEntry$Type;"), (2, u "STREAM"), (2, u "ROOT"), (0, .fieldref 1 14), (0, .nameAndType 15 16), (0, u "$VALUES"), (0, u "[Lorg/stowage/format/DirectoryEntry$Type;"), (0, .methodref 18 19), (0, .class_ 16), (0, .nameAndType 20 21), (0, u "clone"), (0, u "()Ljava/lang/Object;"), (1, .class_ 25), (1, u "java/lang/Enum"), (6, .fieldref 1 33), (0, .nameAndType 34 35), (0, u "code"), (0, u "B"), (0, .methodref 1 37), (0, .nameAndType 38 39), (0, u "values"), (0, u "()[Lorg/stowage/format/DirectoryEntry$Type;"), (15, u "of"), (0, u "(B)Lorg/stowage/format/DirectoryEntry$Type;"), (7, .class_ 65), (0, u "org/stowage/format/DirectoryEntry")] 2

def k6c0 : Code := { maxStack := 1, maxLocals := 0, code := prog_43_method_1_code, exceptionTable := #[], attributes := #[] }
def k6m0 : Method := { name := "values", desc := "()[Lorg/stowage/format/DirectoryEntry$Type;", sig := { parameters := [], returnType := some (.array (.object "org/stowage/format/DirectoryEntry$Type")) }, accessFlags := 9, code := some k6c0 }
def k6c1 : Code := { maxStack := 2, maxLocals := 5, code := prog_43_method_4_code, exceptionTable := #[], attributes := #[] }
def k6m1 : Method := { name := "of", desc := "(B)Lorg/stowage/format/DirectoryEntry$Type;", sig := { parameters := [.byte], returnType := some (.object "org/stowage/format/DirectoryEntry$Type") }, accessFlags := 8, code := some k6c1 }
/-- org/stowage/format/DirectoryEntry$Type -/
def k6 : Class := { plain "org/stowage/format/DirectoryEntry$Type" (some 5) with
  accessFlags := 16433
  interfaces := #[]
  cf := some (fileOf pool6 1 #[.nestHost 64] #[{ accessFlags := 9, nameIndex := 38, descriptorIndex := 39, attributes := #[] }, { accessFlags := 8, nameIndex := 55, descriptorIndex := 56, attributes := #[] }] 16433 23 #[] #[{ accessFlags := 16409, nameIndex := 5, descriptorIndex := 6, attributes := #[] }, { accessFlags := 16409, nameIndex := 9, descriptorIndex := 6, attributes := #[] }, { accessFlags := 16409, nameIndex := 12, descriptorIndex := 6, attributes := #[] }, { accessFlags := 18, nameIndex := 34, descriptorIndex := 35, attributes := #[] }, { accessFlags := 4122, nameIndex := 15, descriptorIndex := 16, attributes := #[] }])
  fields := #[{ name := "STORAGE", type := (.object "org/stowage/format/DirectoryEntry$Type"), accessFlags := 16409, slot := 0, constantValue := 0 }, { name := "STREAM", type := (.object "org/stowage/format/DirectoryEntry$Type"), accessFlags := 16409, slot := 1, constantValue := 0 }, { name := "ROOT", type := (.object "org/stowage/format/DirectoryEntry$Type"), accessFlags := 16409, slot := 2, constantValue := 0 }, { name := "code", type := .byte, accessFlags := 18, slot := 3, constantValue := 0 }, { name := "$VALUES", type := (.array (.object "org/stowage/format/DirectoryEntry$Type")), accessFlags := 4122, slot := 3, constantValue := 0 }]
  methods := #[k6m0, k6m1]
  instanceTypes := #[(.object "java/lang/String"), .int, .int, .byte]
  staticTypes := #[(.object "org/stowage/format/DirectoryEntry$Type"), (.object "org/stowage/format/DirectoryEntry$Type"), (.object "org/stowage/format/DirectoryEntry$Type"), (.array (.object "org/stowage/format/DirectoryEntry$Type"))]
  resolved := Array.replicate 68 none
  statics := some 0 }

def pool7 : Array CpInfo := pool [(1, .class_ 2), (0, u "java/lang/Cloneable"), (0, .class_ 4), (0, u "java/lang/Object")] 2

/-- java/lang/Cloneable -/
def k7 : Class := { plain "java/lang/Cloneable" (some 0) with
  accessFlags := 1537
  interfaces := #[]
  cf := some (fileOf pool7 1 #[] #[] 1537 3 #[] #[])
  fields := #[]
  methods := #[]
  instanceTypes := #[]
  staticTypes := #[]
  resolved := Array.replicate 7 none
  statics := none }

/-- the primitive byte -/
def k8 : Class := { plain "byte" none with kind := .primitive 'B', accessFlags := 0x411 }
/-- [B -/
def k9 : Class := { plain "[B" (some 0) with kind := .array 8 .byte, interfaces := #[7, 4], accessFlags := 1041 }

/-- the primitive int -/
def k10 : Class := { plain "int" none with kind := .primitive 'I', accessFlags := 0x411 }
/-- [I -/
def k11 : Class := { plain "[I" (some 0) with kind := .array 10 .int, interfaces := #[7, 4], accessFlags := 1041 }

/-- [Lorg/stowage/format/DirectoryEntry$Type; -/
def k12 : Class := { plain "[Lorg/stowage/format/DirectoryEntry$Type;" (some 0) with kind := .array 6 (.object "org/stowage/format/DirectoryEntry$Type"), interfaces := #[7, 4], accessFlags := 1041 }

def heap : Heap := #[{ cls := 6, slots := #[.ref 2, .ref 3, .ref 4, .ref 1], vm := .statics 6 },
  { cls := 12, slots := #[.ref 2, .ref 3, .ref 4], vm := .none },
  { cls := 6, slots := #[.null, .int 0, .int 0, .int 1], vm := .none },
  { cls := 6, slots := #[.null, .int 1, .int 0, .int 2], vm := .none },
  { cls := 6, slots := #[.null, .int 2, .int 0, .int 5], vm := .none }]
def classes : Array Class := #[k0, k1, k2, k3, k4, k5, k6, k7, k8, k9, k10, k11, k12]
def interned : List (Array UInt16 × Addr) := []
def slotsUsed : Nat := 19
def theMethod : MethodId := ⟨1, 2⟩
def args0 : Array Value := #[.int 5]
def aboutOver (below : List Frame) : State where
  vm := { classes := classes, interned := interned.toArray }
  heap := heap
  slotsUsed := slotsUsed
  threads := #[{ frames := .invoking theMethod args0 :: below }]
def below0 : List Frame := [.native { method := ⟨0, 0⟩, args := #[] }]
def about1 : State := aboutOver below0
def p0 : Program := .bare "" "" ""
def e0 : Env := launch0.env 0 0 0
theorem w_frames : about1.frames = Frame.invoking theMethod args0 :: below0 := rfl
set_option maxRecDepth 65536 in
theorem w_args : argsFit about1.vm theMethod args0 = true := by decide +kernel
set_option maxRecDepth 65536 in
theorem w_heap : heapFits about1 = true := by decide +kernel
set_option maxRecDepth 65536 in
theorem w_runnable : about1.curStatus? = some .runnable := by decide +kernel
set_option maxRecDepth 65536 in
theorem w_alone : about1.alone = true := by decide +kernel
set_option maxRecDepth 65536 in
theorem w_named : about1.methodNamed? x = some theMethod := by decide +kernel
set_option maxRecDepth 65536 in
theorem w_hears : about1.hears theMethod below0 = true := by decide +kernel
set_option maxRecDepth 65536 in
theorem w_ripe : about1.ripe theMethod args0 below0 = true := by decide +kernel
theorem w_running : about1.status = .running := rfl
set_option maxRecDepth 65536 in
theorem w_room : about1.hasRoom e0.platform room_1 = true :=
  launch0.hasRoom_least _ room_1 (by decide +kernel) (by decide +kernel) (by decide +kernel) (by decide +kernel) (by decide +kernel) (by decide +kernel)
theorem allAtoms_all (ts : List Jvm.Cond) (a : Array Jvm.Value) (st : Jvm.State) : (allAtoms ts).before a st = ts.all (fun c => c.before a st) := by
  induction ts with
  | nil => rfl
  | cons c t ih =>
    show (Jvm.Cond.and c (allAtoms t)).before a st = _
    rw [Jvm.Cond.before_and, ih, List.all_cons]
def words1 : List Jvm.Cond := Jvm.Cond.code x code maxLocals ret :: tables_1
/-- a 'code' word, met by the world's own term for the bytes: nothing is compared byte by byte -/
theorem code_word {y : MethodName} {bytes : ByteArray} {mx : Nat} {rt : Option FieldType} {a : Array Value} {s : State} {m : MethodId} {meth : Method} {c : Code} (h1 : s.methodNamed? y = some m) (h2 : s.vm.method? m = some meth) (h3 : meth.code = some c) (h4 : c.code = bytes)
    (h5 : (c.maxLocals == mx && c.exceptionTable.isEmpty && decide (c.maxStack ≤ mostOperands) && decide (meth.sig.returnType = rt) && !meth.locks && decide (parseMethodDescriptor y.desc = some meth.sig)) = true) : (Jvm.Cond.code y bytes mx rt).before a s = true := by
  simp only [Bool.and_eq_true, beq_iff_eq, Bool.not_eq_true', decide_eq_true_eq] at h5
  obtain ⟨⟨⟨⟨⟨g1, g2⟩, g3⟩, g4⟩, g5⟩, g6⟩ := h5
  simp [Cond.before, Cond.holds, Cond.value, h1, h2, h3, h4, g1, g2, g3, g4, g5, g6]
def isCode : Jvm.Cond → Bool
  | .code _ _ _ _ => true
  | _ => false
theorem all_split {L : List Jvm.Cond} {P : Jvm.Cond → Bool} (h1 : L.all (fun c => isCode c || P c) = true) (h2 : ∀ c ∈ L.filter isCode, P c = true) : L.all P = true := by
  refine List.all_eq_true.mpr fun c hc => ?_
  have h := List.all_eq_true.mp h1 c hc
  rcases Bool.eq_false_or_eq_true (isCode c) with hi | hi
  · exact h2 c (List.mem_filter.mpr ⟨hc, hi⟩)
  · simpa [hi] using h
set_option maxRecDepth 65536 in
theorem w_c0 : (Jvm.Cond.code x code maxLocals ret).before args0 about1 = true := code_word (m := ⟨1, 2⟩) (meth := k1m2) (c := k1c2) (by decide +kernel) rfl rfl rfl (by decide +kernel)
set_option maxRecDepth 65536 in
theorem w_c1 : (Jvm.Cond.code ({ cls := "org/stowage/format/DirectoryEntry$Type", name := "of", desc := "(B)Lorg/stowage/format/DirectoryEntry$Type;" } : Jvm.MethodName) prog_43_method_4_code (5 : Nat) (Option.some (Jvm.ClassFile.FieldType.object "org/stowage/format/DirectoryEntry$Type"))).before args0 about1 = true := code_word (m := ⟨6, 1⟩) (meth := k6m1) (c := k6c1) (by decide +kernel) rfl rfl rfl (by decide +kernel)
set_option maxRecDepth 65536 in
theorem w_c2 : (Jvm.Cond.code ({ cls := "org/stowage/format/DirectoryEntry$Type", name := "values", desc := "()[Lorg/stowage/format/DirectoryEntry$Type;" } : Jvm.MethodName) prog_43_method_1_code (0 : Nat) (Option.some (Jvm.ClassFile.FieldType.array (Jvm.ClassFile.FieldType.object "org/stowage/format/DirectoryEntry$Type")))).before args0 about1 = true := code_word (m := ⟨6, 0⟩) (meth := k6m0) (c := k6c0) (by decide +kernel) rfl rfl rfl (by decide +kernel)
set_option maxRecDepth 65536 in
theorem w_c3 : (Jvm.Cond.code ({ cls := "org/stowage/format/TypeOfPinLaw", name := "expected", desc := "(B)Lorg/stowage/format/DirectoryEntry$Type;" } : Jvm.MethodName) method_2_code (1 : Nat) (Option.some (Jvm.ClassFile.FieldType.object "org/stowage/format/DirectoryEntry$Type"))).before args0 about1 = true := code_word (m := ⟨1, 1⟩) (meth := k1m1) (c := k1c1) (by decide +kernel) rfl rfl rfl (by decide +kernel)
def codes1 : List Jvm.Cond := [Jvm.Cond.code x code maxLocals ret, Jvm.Cond.code ({ cls := "org/stowage/format/DirectoryEntry$Type", name := "of", desc := "(B)Lorg/stowage/format/DirectoryEntry$Type;" } : Jvm.MethodName) prog_43_method_4_code (5 : Nat) (Option.some (Jvm.ClassFile.FieldType.object "org/stowage/format/DirectoryEntry$Type")), Jvm.Cond.code ({ cls := "org/stowage/format/DirectoryEntry$Type", name := "values", desc := "()[Lorg/stowage/format/DirectoryEntry$Type;" } : Jvm.MethodName) prog_43_method_1_code (0 : Nat) (Option.some (Jvm.ClassFile.FieldType.array (Jvm.ClassFile.FieldType.object "org/stowage/format/DirectoryEntry$Type"))), Jvm.Cond.code ({ cls := "org/stowage/format/TypeOfPinLaw", name := "expected", desc := "(B)Lorg/stowage/format/DirectoryEntry$Type;" } : Jvm.MethodName) method_2_code (1 : Nat) (Option.some (Jvm.ClassFile.FieldType.object "org/stowage/format/DirectoryEntry$Type"))]
set_option maxRecDepth 65536 in
theorem codes_eq : words1.filter isCode = codes1 := rfl
theorem w_codes : ∀ c ∈ words1.filter isCode, c.before args0 about1 = true := by
  rw [codes_eq]
  intro c hc
  simp only [codes1, List.mem_cons, List.not_mem_nil, or_false] at hc
  rcases hc with rfl | rfl | rfl | rfl
  · exact w_c0
  · exact w_c1
  · exact w_c2
  · exact w_c3
set_option maxRecDepth 65536 in
theorem w_t1 : (words1.take 24).all (fun c => isCode c || c.before args0 about1) = true := by decide +kernel
set_option maxRecDepth 65536 in
theorem w_t2 : (words1.drop 24).all (fun c => isCode c || c.before args0 about1) = true := by decide +kernel
theorem w_tables : (allAtoms (Jvm.Cond.code x code maxLocals ret :: tables_1)).before args0 about1 = true := by
  rw [allAtoms_all]
  show words1.all (fun c => c.before args0 about1) = true
  refine all_split ?_ w_codes
  rw [← List.take_append_drop 24 words1, List.all_append, w_t1, w_t2]
  rfl
set_option maxRecDepth 65536 in
theorem w_case : (Jvm.Cond.and given_1 narrow_1).before args0 about1 = true := by decide +kernel
theorem w_applies : (headSpec (Jvm.Cond.code x code maxLocals ret :: tables_1) room_1).applies x e0.platform about1 = true :=
  (Spec.applies_iff w_frames).mpr ⟨w_running, w_runnable, w_alone, w_named, w_hears, w_ripe, w_room, w_tables⟩
theorem atStart : AtStart classFile x code maxLocals ret World_1 tables_1 room_1 Calls_1 rest_1 Pre_1 launch0 p0 e0 about1 theMethod args0 below0 :=
  ⟨lists_1, trivial, launch0.admits_env _ _ _, launch0.least_env, fairChoices_fair.cas, fairChoices_fair.clock, w_frames, w_args, w_heap, w_applies, trivial, trivial, w_case⟩
end start1
theorem witness_1 : WitnessClaimed_1 := ⟨start1.p0, start1.e0, start1.about1, start1.theMethod, start1.args0, start1.below0, start1.atStart⟩
end Jvm.Pilot.@@N@@
