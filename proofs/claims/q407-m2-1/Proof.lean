import JvmDerived
import JvmDerived.Pilot.@@N@@Statement
import JvmDerived.Pilot.@@N@@Code
set_option linter.unusedVariables false
set_option linter.unusedSimpArgs false
namespace Jvm.RoadKit
open Sem ClassFile Op Lib Jvm.Stand Jvm.Free Jvm.LawKit
section OwnKit
variable {p : Program} {l : Launch} {e : Env} {R : Room} {s : State} {m : MethodId} {args : Array Value} {below : List Frame} {meth : Method} {c : Code} {T : State} {locs : List Loc} {cells slots : Nat}
/-- a run that stands in S comes to an end of the invocation, of which Q is said -/
def own_G (tb : Tables) (e : Env) (below : List Frame) (s : State) (Q : Option Value → Heap → List Loc → Prop) (k n : Nat) (S : State) : Prop :=
  ∃ s₂ o, Steps tb e below S s₂ ∧ s₂.status = .running ∧ Ended s₂ below o ∧ ∃ v L, o = .returned v ∧ Q v s₂.heap L ∧ FrameEnd s o s₂ L k n
variable {tb : Tables} {Q : Option Value → Heap → List Loc → Prop} {k n : Nat}
theorem own_go {A B : State} (st : ∀ t, Steps tb e below A t → Steps tb e below B t) (h : own_G tb e below s Q k n A) : own_G tb e below s Q k n B := by
  obtain ⟨s₂, o, h1, h2⟩ := h
  exact ⟨s₂, o, st _ h1, h2⟩
theorem own_ret (X : Stand p l e R s m args below meth c T locs cells slots) {v : Option Value} (hv : meth.sig.returnType = none → v = none) (hlk : meth.locks = false) (hQ : Q v T.heap locs) (hk : cells ≤ k) (hn : slots ≤ n) {S : State}
    (st : ∀ fs, (∀ (f : JFrame) (acts : List Action), f.method = m → f.locked = none → f.entered = [] → (doReturn e (T.setTop f) acts v).1 = T.setFrames fs) → Steps p.tables e below S (T.setFrames fs)) : own_G p.tables e below s Q k n S := by
  obtain ⟨fs, hr, hrun, hended, hW, hsame⟩ := X.leave hv hlk
  exact ⟨_, _, st fs hr, hrun, hended, _, _, rfl, hQ, ⟨_, rfl⟩, hW, hsame.mono hk hn⟩
variable {pc : Nat} {Ls : Array Slot} {rest : List Value}
theorem own_retN (X : Stand p l e R s m args below meth c T locs cells slots) (hx : p.tables.exec = Jvm.exec) (hlk : meth.locks = false) {t : FieldType} {z z' : Int32} (hret : meth.sig.returnType = some t) (ht : t = .boolean ∨ t = .byte ∨ t = .char ∨ t = .short) (hd : decode c.code pc = .ok (.ireturn, 1)) (hz : nar t z = z') (hQ : Q (some (.int z')) T.heap locs) (hk : cells ≤ k) (hn : slots ≤ n) :
    own_G p.tables e below s Q k n (T.setTop (mkF m pc Ls (.int z :: rest))) := by
  subst hz
  exact own_ret X (fun h => by rw [hret] at h; cases h) hlk hQ hk hn fun fs hr => retN X hx hret ht hd hr
theorem own_retI (X : Stand p l e R s m args below meth c T locs cells slots) (hx : p.tables.exec = Jvm.exec) (hlk : meth.locks = false) {z : Int32} (hret : meth.sig.returnType = some .int) (hd : decode c.code pc = .ok (.ireturn, 1)) (hQ : Q (some (.int z)) T.heap locs) (hk : cells ≤ k) (hn : slots ≤ n) :
    own_G p.tables e below s Q k n (T.setTop (mkF m pc Ls (.int z :: rest))) :=
  own_ret X (fun h => by rw [hret] at h; cases h) hlk hQ hk hn fun fs hr => retOut X hx hret rfl (Or.inl ⟨rfl, Or.inl rfl, _, rfl⟩) hd hr
theorem own_retJ (X : Stand p l e R s m args below meth c T locs cells slots) (hx : p.tables.exec = Jvm.exec) (hlk : meth.locks = false) {z : Int64} (hret : meth.sig.returnType = some .long) (hd : decode c.code pc = .ok (.lreturn, 1)) (hQ : Q (some (.long z)) T.heap locs) (hk : cells ≤ k) (hn : slots ≤ n) :
    own_G p.tables e below s Q k n (T.setTop (mkF m pc Ls (.long z :: rest))) :=
  own_ret X (fun h => by rw [hret] at h; cases h) hlk hQ hk hn fun fs hr => retOut X hx hret rfl (Or.inr (Or.inl ⟨rfl, rfl, _, rfl⟩)) hd hr
theorem own_retA (X : Stand p l e R s m args below meth c T locs cells slots) (hx : p.tables.exec = Jvm.exec) (hlk : meth.locks = false) {t : FieldType} {w : Value} (hret : meth.sig.returnType = some t) (ht : t.isReference = true) (hv : w.isRef = true) (hd : decode c.code pc = .ok (.areturn, 1)) (hQ : Q (some w) T.heap locs) (hk : cells ≤ k) (hn : slots ≤ n) :
    own_G p.tables e below s Q k n (T.setTop (mkF m pc Ls (w :: rest))) :=
  own_ret X (fun h => by rw [hret] at h; cases h) hlk hQ hk hn fun fs hr => retOut X hx hret (by rcases ref_cases hv with rfl | ⟨_, rfl⟩ <;> cases t <;> first | rfl | cases ht) (Or.inr (Or.inr (Or.inr (Or.inr ⟨rfl, ht, hv⟩)))) hd hr
theorem own_retV (X : Stand p l e R s m args below meth c T locs cells slots) (hx : p.tables.exec = Jvm.exec) (hlk : meth.locks = false) (hret : meth.sig.returnType = none) (hd : decode c.code pc = .ok (.return_, 1)) (hQ : Q none T.heap locs) (hk : cells ≤ k) (hn : slots ≤ n) :
    own_G p.tables e below s Q k n (T.setTop (mkF m pc Ls [])) :=
  own_ret X (fun _ => rfl) hlk hQ hk hn fun fs hr => X.returnOut hx hret hd hr
end OwnKit
end Jvm.RoadKit
namespace Jvm.Pilot.@@N@@
open Jvm Jvm.ClassFile Sem Op Lib Jvm.Free Jvm.Stand Jvm.LawKit Jvm.RoadKit Bundle Jvm.Pilot.@@N@@.Jvm.D
/-- a constant of the enum: what its static holds, and its tag -/
def own_K (Z : State) (h : Heap) (f : String) (t : Int32) : Prop := ∃ a : Addr, Sta Z h "com/example/cartulary/cartulary/codec/Operation" f "Lcom/example/cartulary/cartulary/codec/Operation;" (.ref a) ∧ Exa Z h a "com/example/cartulary/cartulary/codec/Operation" ∧ Fld Z h a "com/example/cartulary/cartulary/codec/Operation" "responseTag" "I" (.int t)
theorem own_eqI {args : Array Value} {first s : State} {o : Option Outcome} {idx : List Nat} {t : Term} {k : Int32} (h : (Jvm.Cond.eq t (.int k)).value args first o s idx = some true) : t.eval args first o idx s = some (.int k) := by
  simp only [Jvm.Cond.value, Term.eval] at h
  cases ht : t.eval args first o idx s with
  | none => simp [ht] at h
  | some x => cases x <;> simp [ht] at h ⊢; exact h
theorem own_K_of {s : State} {args : Array Value} {f : String} {t : Int32} (h1 : (Jvm.Cond.exactly (.static "com/example/cartulary/cartulary/codec/Operation" f "Lcom/example/cartulary/cartulary/codec/Operation;") "com/example/cartulary/cartulary/codec/Operation").value args s none s [] = some true) (h2 : (Jvm.Cond.eq (.field (.static "com/example/cartulary/cartulary/codec/Operation" f "Lcom/example/cartulary/cartulary/codec/Operation;") "com/example/cartulary/cartulary/codec/Operation" "responseTag" "I") (.int t)).value args s none s [] = some true)
    (hi : (Jvm.Cond.initialized "com/example/cartulary/cartulary/codec/Operation").before args s = true) (hl : (Jvm.Cond.laysStatic "com/example/cartulary/cartulary/codec/Operation" f "Lcom/example/cartulary/cartulary/codec/Operation;").before args s = true) : own_K s s.heap f t := by
  obtain ⟨a, ea⟩ := exa_v h1
  refine ⟨a, Sta.start ea (Or.inr ⟨hi, hl⟩), Exa.start ea h1, Fld.start ?_⟩
  rw [← fld_at ea]
  exact own_eqI h2
theorem own_ten (x : Int32) : ((x &&& (2147483647 : Int32)) % (10 : Int32) = 0) ∨ ((x &&& (2147483647 : Int32)) % (10 : Int32) = 1) ∨ ((x &&& (2147483647 : Int32)) % (10 : Int32) = 2) ∨ ((x &&& (2147483647 : Int32)) % (10 : Int32) = 3) ∨ ((x &&& (2147483647 : Int32)) % (10 : Int32) = 4) ∨ ((x &&& (2147483647 : Int32)) % (10 : Int32) = 5) ∨ ((x &&& (2147483647 : Int32)) % (10 : Int32) = 6) ∨ ((x &&& (2147483647 : Int32)) % (10 : Int32) = 7) ∨ ((x &&& (2147483647 : Int32)) % (10 : Int32) = 8) ∨ ((x &&& (2147483647 : Int32)) % (10 : Int32) = 9) := by
  have h : ¬ ((x &&& (2147483647 : Int32)) < 0) := fun h => absurd ((Jvm.Free.XT.and_neg32 _ _).mp h).2 (by decide)
  rw [Int32.lt_iff_toInt_lt] at h
  have z : (0 : Int32).toInt = 0 := rfl
  have t : (10 : Int32).toInt = 10 := rfl
  have e : ((x &&& (2147483647 : Int32)) % (10 : Int32)).toInt = (x &&& (2147483647 : Int32)).toInt % 10 := by
    rw [Int32.toInt_mod, t, Int.tmod_eq_emod_of_nonneg (by omega)]
  generalize (x &&& (2147483647 : Int32)) % (10 : Int32) = r at *
  have hr : 0 ≤ r.toInt ∧ r.toInt < 10 := by omega
  have g : ∀ k : Int32, r.toInt = k.toInt → r = k := fun k q => Int32.toInt_inj.mp q
  have hc : r.toInt = 0 ∨ r.toInt = 1 ∨ r.toInt = 2 ∨ r.toInt = 3 ∨ r.toInt = 4 ∨ r.toInt = 5 ∨ r.toInt = 6 ∨ r.toInt = 7 ∨ r.toInt = 8 ∨ r.toInt = 9 := by omega
  rcases hc with q | q | q | q | q | q | q | q | q | q
  · exact Or.inl (g 0 q)
  · exact Or.inr (Or.inl (g 1 q))
  · exact Or.inr (Or.inr (Or.inl (g 2 q)))
  · exact Or.inr (Or.inr (Or.inr (Or.inl (g 3 q))))
  · exact Or.inr (Or.inr (Or.inr (Or.inr (Or.inl (g 4 q)))))
  · exact Or.inr (Or.inr (Or.inr (Or.inr (Or.inr (Or.inl (g 5 q))))))
  · exact Or.inr (Or.inr (Or.inr (Or.inr (Or.inr (Or.inr (Or.inl (g 6 q)))))))
  · exact Or.inr (Or.inr (Or.inr (Or.inr (Or.inr (Or.inr (Or.inr (Or.inl (g 7 q))))))))
  · exact Or.inr (Or.inr (Or.inr (Or.inr (Or.inr (Or.inr (Or.inr (Or.inr (Or.inl (g 8 q)))))))))
  · exact Or.inr (Or.inr (Or.inr (Or.inr (Or.inr (Or.inr (Or.inr (Or.inr (Or.inr (g 9 q)))))))))
theorem d1_0_0 : decode method_2_code 0 = .ok (.iload_n 0, 1) := by decide +kernel
theorem d1_0_1 : decode method_2_code 1 = .ok (.ifCond .ne 7, 3) := by decide +kernel
theorem d1_0_4 : decode method_2_code 4 = .ok (.getstatic 7, 3) := by decide +kernel
theorem d1_0_7 : decode method_2_code 7 = .ok (.areturn, 1) := by decide +kernel
theorem pn_com_example_cartulary_cartulary_codec_OperationHasResponsePinLaw : plainName "com/example/cartulary/cartulary/codec/OperationHasResponsePinLaw" = true := by first | (simp [plainName, overriddenIn]; done) | decide +kernel
theorem ef_1_0 (m : MethodId) (x0 : Int32) : entryFrame m #[(.int x0)] 1 = mkF m 0 #[.val (.int x0)] [] := by first | (simp [entryFrame, mkF, argsToLocals, Value.category]; done) | rfl
def Q1_0 (Z : State) (a1 : Addr) (h0 : Heap) (n0 : Nat) (v : Option Value) (h : Heap) (L : List Loc) : Prop := v = some (.ref a1) ∧ Fr n0 L ∧ h = h0
set_option maxRecDepth 65536 in
set_option maxHeartbeats 40000000 in
theorem rm1_0 (l : Launch) (Z : State) (a0 : Array Value) (hw : ∀ d ∈ tables_1, d.before a0 Z = true) (ws : List Jvm.Cond) (a1 : Addr) (h0 : Heap) (n0 : Nat) (Z0 : n0 ≤ h0.size) (S1 : Sta Z h0 "com/example/cartulary/cartulary/codec/Operation" "BIND" "Lcom/example/cartulary/cartulary/codec/Operation;" (.ref a1)) :
    MetFree l (⟨"com/example/cartulary/cartulary/codec/OperationHasResponsePinLaw", "pick", "(I)Lcom/example/cartulary/cartulary/codec/Operation;"⟩ : MethodName) (head1 (Jvm.Cond.code (⟨"com/example/cartulary/cartulary/codec/OperationHasResponsePinLaw", "pick", "(I)Lcom/example/cartulary/cartulary/codec/Operation;"⟩ : MethodName) method_2_code 1 (some (.object "com/example/cartulary/cartulary/codec/Operation")) :: ws) ({ frames := 0, cells := 0, slots := 0, locals := 0 } : Room)) (fun a U => a = #[(.int (0 : Int32))] ∧ Z.Warmed39 U.vm ∧ U.heap = h0) (fun _ _ _ _ _ => True) (fun _ U o U' => ∃ v L, o = .returned v ∧ Q1_0 Z a1 h0 n0 v U'.heap L ∧ FrameEnd U o U' L ({ frames := 0, cells := 0, slots := 0, locals := 0 } : Room).cells ({ frames := 0, cells := 0, slots := 0, locals := 0 } : Room).slots) := by
  refine MetFree.of_bodySF (plainFor_of_name pn_com_example_cartulary_cartulary_codec_OperationHasResponsePinLaw) hisR ?_
  intro p e s m args below meth c s₁ Bd hml0 hP hK
  obtain ⟨rfl, hZ, hh⟩ := hP
  have hx := Bd.exec
  have hby := Bd.bytes
  have hlk : meth.locks = false := BodyLoose.notSynchronized Bd
  have hml : c.maxLocals = 1 := hml0
  have hown : s.vm.findClass "com/example/cartulary/cartulary/codec/OperationHasResponsePinLaw" = some m.cls := findClass_of_methodNamed Bd.named
  have hnm := (name_of_methodNamed Bd.named Bd.method).1
  have X0 : Stand p l e ({ frames := 0, cells := 0, slots := 0, locals := 0 } : Room) s m #[(.int (0 : Int32))] below meth c s₁ [] 0 0 := Stand.of_body Bd
  have e0 : s₁.heap = h0 := by rw [← hh, Bd.state]; rfl
  have N0 := Fr.nil n0
  show own_G p.tables e below s (Q1_0 Z a1 h0 n0) ({ frames := 0, cells := 0, slots := 0, locals := 0 } : Room).cells ({ frames := 0, cells := 0, slots := 0, locals := 0 } : Room).slots (s₁.setTop (entryFrame m #[(.int (0 : Int32))] 1))
  refine own_go (fun t k => castTop (ef_1_0 m (0 : Int32)) k) ?_
  show own_G p.tables e below s _ _ _ (s₁.setTop (mkF m 0 #[.val (.int (0 : Int32))] []))
  refine own_go (fun t k => XS.iloadN X0.here hx rfl (hb hby d1_0_0) rfl k) ?_
  show own_G p.tables e below s _ _ _ (s₁.setTop (mkF m 1 #[.val (.int (0 : Int32))] [(.int (0 : Int32))]))
  refine own_go (fun t k => XS.ifNo X0.here hx rfl (hb hby d1_0_1) rfl (by decide) k) ?_
  show own_G p.tables e below s _ _ _ (s₁.setTop (mkF m 4 #[.val (.int (0 : Int32))] []))
  obtain ⟨T1, X1, e1, st1⟩ := getS X0 hx hZ hown (host := "") (hw _ (List.mem_of_getElem? (i := 5) rfl)) Via.refl e0 S1 (g := (mkF m 4 #[.val (.int (0 : Int32))] [])) rfl (hb hby d1_0_4)
  refine own_go st1 ?_
  show own_G p.tables e below s _ _ _ (T1.setTop (mkF m 7 #[.val (.int (0 : Int32))] [(.ref a1)]))
  exact own_retA X1 hx hlk Bd.returns rfl rfl (hb hby d1_0_7) (by rw [e1]; exact ⟨rfl, N0, rfl⟩) (by decide) (by decide)
theorem d1_1_0 : decode method_2_code 0 = .ok (.iload_n 0, 1) := by decide +kernel
theorem d1_1_1 : decode method_2_code 1 = .ok (.ifCond .ne 7, 3) := by decide +kernel
theorem d1_1_8 : decode method_2_code 8 = .ok (.iload_n 0, 1) := by decide +kernel
theorem d1_1_9 : decode method_2_code 9 = .ok (.iconst 1, 1) := by decide +kernel
theorem d1_1_10 : decode method_2_code 10 = .ok (.if_icmp .ne 7, 3) := by decide +kernel
theorem d1_1_13 : decode method_2_code 13 = .ok (.getstatic 13, 3) := by decide +kernel
theorem d1_1_16 : decode method_2_code 16 = .ok (.areturn, 1) := by decide +kernel
theorem ef_1_1 (m : MethodId) (x0 : Int32) : entryFrame m #[(.int x0)] 1 = mkF m 0 #[.val (.int x0)] [] := by first | (simp [entryFrame, mkF, argsToLocals, Value.category]; done) | rfl
def Q1_1 (Z : State) (a1 : Addr) (h0 : Heap) (n0 : Nat) (v : Option Value) (h : Heap) (L : List Loc) : Prop := v = some (.ref a1) ∧ Fr n0 L ∧ h = h0
set_option maxRecDepth 65536 in
set_option maxHeartbeats 40000000 in
theorem rm1_1 (l : Launch) (Z : State) (a0 : Array Value) (hw : ∀ d ∈ tables_1, d.before a0 Z = true) (ws : List Jvm.Cond) (a1 : Addr) (h0 : Heap) (n0 : Nat) (Z0 : n0 ≤ h0.size) (S1 : Sta Z h0 "com/example/cartulary/cartulary/codec/Operation" "UNBIND" "Lcom/example/cartulary/cartulary/codec/Operation;" (.ref a1)) :
    MetFree l (⟨"com/example/cartulary/cartulary/codec/OperationHasResponsePinLaw", "pick", "(I)Lcom/example/cartulary/cartulary/codec/Operation;"⟩ : MethodName) (head1 (Jvm.Cond.code (⟨"com/example/cartulary/cartulary/codec/OperationHasResponsePinLaw", "pick", "(I)Lcom/example/cartulary/cartulary/codec/Operation;"⟩ : MethodName) method_2_code 1 (some (.object "com/example/cartulary/cartulary/codec/Operation")) :: ws) ({ frames := 0, cells := 0, slots := 0, locals := 0 } : Room)) (fun a U => a = #[(.int (1 : Int32))] ∧ Z.Warmed39 U.vm ∧ U.heap = h0) (fun _ _ _ _ _ => True) (fun _ U o U' => ∃ v L, o = .returned v ∧ Q1_1 Z a1 h0 n0 v U'.heap L ∧ FrameEnd U o U' L ({ frames := 0, cells := 0, slots := 0, locals := 0 } : Room).cells ({ frames := 0, cells := 0, slots := 0, locals := 0 } : Room).slots) := by
  refine MetFree.of_bodySF (plainFor_of_name pn_com_example_cartulary_cartulary_codec_OperationHasResponsePinLaw) hisR ?_
  intro p e s m args below meth c s₁ Bd hml0 hP hK
  obtain ⟨rfl, hZ, hh⟩ := hP
  have hx := Bd.exec
  have hby := Bd.bytes
  have hlk : meth.locks = false := BodyLoose.notSynchronized Bd
  have hml : c.maxLocals = 1 := hml0
  have hown : s.vm.findClass "com/example/cartulary/cartulary/codec/OperationHasResponsePinLaw" = some m.cls := findClass_of_methodNamed Bd.named
  have hnm := (name_of_methodNamed Bd.named Bd.method).1
  have X0 : Stand p l e ({ frames := 0, cells := 0, slots := 0, locals := 0 } : Room) s m #[(.int (1 : Int32))] below meth c s₁ [] 0 0 := Stand.of_body Bd
  have e0 : s₁.heap = h0 := by rw [← hh, Bd.state]; rfl
  have N0 := Fr.nil n0
  show own_G p.tables e below s (Q1_1 Z a1 h0 n0) ({ frames := 0, cells := 0, slots := 0, locals := 0 } : Room).cells ({ frames := 0, cells := 0, slots := 0, locals := 0 } : Room).slots (s₁.setTop (entryFrame m #[(.int (1 : Int32))] 1))
  refine own_go (fun t k => castTop (ef_1_1 m (1 : Int32)) k) ?_
  show own_G p.tables e below s _ _ _ (s₁.setTop (mkF m 0 #[.val (.int (1 : Int32))] []))
  refine own_go (fun t k => XS.iloadN X0.here hx rfl (hb hby d1_1_0) rfl k) ?_
  show own_G p.tables e below s _ _ _ (s₁.setTop (mkF m 1 #[.val (.int (1 : Int32))] [(.int (1 : Int32))]))
  refine own_go (fun t k => XS.ifYes X0.here hx rfl (pc0 := 1) (pc' := 8) rfl (hb hby d1_1_1) rfl (by decide) (by decide) (by decide) k) ?_
  show own_G p.tables e below s _ _ _ (s₁.setTop (mkF m 8 #[.val (.int (1 : Int32))] []))
  refine own_go (fun t k => XS.iloadN X0.here hx rfl (hb hby d1_1_8) rfl k) ?_
  show own_G p.tables e below s _ _ _ (s₁.setTop (mkF m 9 #[.val (.int (1 : Int32))] [(.int (1 : Int32))]))
  refine own_go (fun t k => XS.iconst X0.here hx rfl (hb hby d1_1_9) k) ?_
  show own_G p.tables e below s _ _ _ (s₁.setTop (mkF m 10 #[.val (.int (1 : Int32))] [(.int (1 : Int32)), (.int (1 : Int32))]))
  refine own_go (fun t k => XS.icmpNo X0.here hx rfl (hb hby d1_1_10) rfl (by decide) k) ?_
  show own_G p.tables e below s _ _ _ (s₁.setTop (mkF m 13 #[.val (.int (1 : Int32))] []))
  obtain ⟨T2, X2, e2, st2⟩ := getS X0 hx hZ hown (host := "") (hw _ (List.mem_of_getElem? (i := 17) rfl)) Via.refl e0 S1 (g := (mkF m 13 #[.val (.int (1 : Int32))] [])) rfl (hb hby d1_1_13)
  refine own_go st2 ?_
  show own_G p.tables e below s _ _ _ (T2.setTop (mkF m 16 #[.val (.int (1 : Int32))] [(.ref a1)]))
  exact own_retA X2 hx hlk Bd.returns rfl rfl (hb hby d1_1_16) (by rw [e2]; exact ⟨rfl, N0, rfl⟩) (by decide) (by decide)
theorem d1_2_0 : decode method_2_code 0 = .ok (.iload_n 0, 1) := by decide +kernel
theorem d1_2_1 : decode method_2_code 1 = .ok (.ifCond .ne 7, 3) := by decide +kernel
theorem d1_2_8 : decode method_2_code 8 = .ok (.iload_n 0, 1) := by decide +kernel
theorem d1_2_9 : decode method_2_code 9 = .ok (.iconst 1, 1) := by decide +kernel
theorem d1_2_10 : decode method_2_code 10 = .ok (.if_icmp .ne 7, 3) := by decide +kernel
theorem d1_2_17 : decode method_2_code 17 = .ok (.iload_n 0, 1) := by decide +kernel
theorem d1_2_18 : decode method_2_code 18 = .ok (.iconst 2, 1) := by decide +kernel
theorem d1_2_19 : decode method_2_code 19 = .ok (.if_icmp .ne 7, 3) := by decide +kernel
theorem d1_2_22 : decode method_2_code 22 = .ok (.getstatic 16, 3) := by decide +kernel
theorem d1_2_25 : decode method_2_code 25 = .ok (.areturn, 1) := by decide +kernel
theorem ef_1_2 (m : MethodId) (x0 : Int32) : entryFrame m #[(.int x0)] 1 = mkF m 0 #[.val (.int x0)] [] := by first | (simp [entryFrame, mkF, argsToLocals, Value.category]; done) | rfl
def Q1_2 (Z : State) (a1 : Addr) (h0 : Heap) (n0 : Nat) (v : Option Value) (h : Heap) (L : List Loc) : Prop := v = some (.ref a1) ∧ Fr n0 L ∧ h = h0
set_option maxRecDepth 65536 in
set_option maxHeartbeats 40000000 in
theorem rm1_2 (l : Launch) (Z : State) (a0 : Array Value) (hw : ∀ d ∈ tables_1, d.before a0 Z = true) (ws : List Jvm.Cond) (a1 : Addr) (h0 : Heap) (n0 : Nat) (Z0 : n0 ≤ h0.size) (S1 : Sta Z h0 "com/example/cartulary/cartulary/codec/Operation" "SEARCH" "Lcom/example/cartulary/cartulary/codec/Operation;" (.ref a1)) :
    MetFree l (⟨"com/example/cartulary/cartulary/codec/OperationHasResponsePinLaw", "pick", "(I)Lcom/example/cartulary/cartulary/codec/Operation;"⟩ : MethodName) (head1 (Jvm.Cond.code (⟨"com/example/cartulary/cartulary/codec/OperationHasResponsePinLaw", "pick", "(I)Lcom/example/cartulary/cartulary/codec/Operation;"⟩ : MethodName) method_2_code 1 (some (.object "com/example/cartulary/cartulary/codec/Operation")) :: ws) ({ frames := 0, cells := 0, slots := 0, locals := 0 } : Room)) (fun a U => a = #[(.int (2 : Int32))] ∧ Z.Warmed39 U.vm ∧ U.heap = h0) (fun _ _ _ _ _ => True) (fun _ U o U' => ∃ v L, o = .returned v ∧ Q1_2 Z a1 h0 n0 v U'.heap L ∧ FrameEnd U o U' L ({ frames := 0, cells := 0, slots := 0, locals := 0 } : Room).cells ({ frames := 0, cells := 0, slots := 0, locals := 0 } : Room).slots) := by
  refine MetFree.of_bodySF (plainFor_of_name pn_com_example_cartulary_cartulary_codec_OperationHasResponsePinLaw) hisR ?_
  intro p e s m args below meth c s₁ Bd hml0 hP hK
  obtain ⟨rfl, hZ, hh⟩ := hP
  have hx := Bd.exec
  have hby := Bd.bytes
  have hlk : meth.locks = false := BodyLoose.notSynchronized Bd
  have hml : c.maxLocals = 1 := hml0
  have hown : s.vm.findClass "com/example/cartulary/cartulary/codec/OperationHasResponsePinLaw" = some m.cls := findClass_of_methodNamed Bd.named
  have hnm := (name_of_methodNamed Bd.named Bd.method).1
  have X0 : Stand p l e ({ frames := 0, cells := 0, slots := 0, locals := 0 } : Room) s m #[(.int (2 : Int32))] below meth c s₁ [] 0 0 := Stand.of_body Bd
  have e0 : s₁.heap = h0 := by rw [← hh, Bd.state]; rfl
  have N0 := Fr.nil n0
  show own_G p.tables e below s (Q1_2 Z a1 h0 n0) ({ frames := 0, cells := 0, slots := 0, locals := 0 } : Room).cells ({ frames := 0, cells := 0, slots := 0, locals := 0 } : Room).slots (s₁.setTop (entryFrame m #[(.int (2 : Int32))] 1))
  refine own_go (fun t k => castTop (ef_1_2 m (2 : Int32)) k) ?_
  show own_G p.tables e below s _ _ _ (s₁.setTop (mkF m 0 #[.val (.int (2 : Int32))] []))
  refine own_go (fun t k => XS.iloadN X0.here hx rfl (hb hby d1_2_0) rfl k) ?_
  show own_G p.tables e below s _ _ _ (s₁.setTop (mkF m 1 #[.val (.int (2 : Int32))] [(.int (2 : Int32))]))
  refine own_go (fun t k => XS.ifYes X0.here hx rfl (pc0 := 1) (pc' := 8) rfl (hb hby d1_2_1) rfl (by decide) (by decide) (by decide) k) ?_
  show own_G p.tables e below s _ _ _ (s₁.setTop (mkF m 8 #[.val (.int (2 : Int32))] []))
  refine own_go (fun t k => XS.iloadN X0.here hx rfl (hb hby d1_2_8) rfl k) ?_
  show own_G p.tables e below s _ _ _ (s₁.setTop (mkF m 9 #[.val (.int (2 : Int32))] [(.int (2 : Int32))]))
  refine own_go (fun t k => XS.iconst X0.here hx rfl (hb hby d1_2_9) k) ?_
  show own_G p.tables e below s _ _ _ (s₁.setTop (mkF m 10 #[.val (.int (2 : Int32))] [(.int (1 : Int32)), (.int (2 : Int32))]))
  refine own_go (fun t k => XS.icmpYes X0.here hx rfl (pc0 := 10) (pc' := 17) rfl (hb hby d1_2_10) rfl (by decide) (by decide) (by decide) k) ?_
  show own_G p.tables e below s _ _ _ (s₁.setTop (mkF m 17 #[.val (.int (2 : Int32))] []))
  refine own_go (fun t k => XS.iloadN X0.here hx rfl (hb hby d1_2_17) rfl k) ?_
  show own_G p.tables e below s _ _ _ (s₁.setTop (mkF m 18 #[.val (.int (2 : Int32))] [(.int (2 : Int32))]))
  refine own_go (fun t k => XS.iconst X0.here hx rfl (hb hby d1_2_18) k) ?_
  show own_G p.tables e below s _ _ _ (s₁.setTop (mkF m 19 #[.val (.int (2 : Int32))] [(.int (2 : Int32)), (.int (2 : Int32))]))
  refine own_go (fun t k => XS.icmpNo X0.here hx rfl (hb hby d1_2_19) rfl (by decide) k) ?_
  show own_G p.tables e below s _ _ _ (s₁.setTop (mkF m 22 #[.val (.int (2 : Int32))] []))
  obtain ⟨T3, X3, e3, st3⟩ := getS X0 hx hZ hown (host := "") (hw _ (List.mem_of_getElem? (i := 23) rfl)) Via.refl e0 S1 (g := (mkF m 22 #[.val (.int (2 : Int32))] [])) rfl (hb hby d1_2_22)
  refine own_go st3 ?_
  show own_G p.tables e below s _ _ _ (T3.setTop (mkF m 25 #[.val (.int (2 : Int32))] [(.ref a1)]))
  exact own_retA X3 hx hlk Bd.returns rfl rfl (hb hby d1_2_25) (by rw [e3]; exact ⟨rfl, N0, rfl⟩) (by decide) (by decide)
theorem d1_3_0 : decode method_2_code 0 = .ok (.iload_n 0, 1) := by decide +kernel
theorem d1_3_1 : decode method_2_code 1 = .ok (.ifCond .ne 7, 3) := by decide +kernel
theorem d1_3_8 : decode method_2_code 8 = .ok (.iload_n 0, 1) := by decide +kernel
theorem d1_3_9 : decode method_2_code 9 = .ok (.iconst 1, 1) := by decide +kernel
theorem d1_3_10 : decode method_2_code 10 = .ok (.if_icmp .ne 7, 3) := by decide +kernel
theorem d1_3_17 : decode method_2_code 17 = .ok (.iload_n 0, 1) := by decide +kernel
theorem d1_3_18 : decode method_2_code 18 = .ok (.iconst 2, 1) := by decide +kernel
theorem d1_3_19 : decode method_2_code 19 = .ok (.if_icmp .ne 7, 3) := by decide +kernel
theorem d1_3_26 : decode method_2_code 26 = .ok (.iload_n 0, 1) := by decide +kernel
theorem d1_3_27 : decode method_2_code 27 = .ok (.iconst 3, 1) := by decide +kernel
theorem d1_3_28 : decode method_2_code 28 = .ok (.if_icmp .ne 7, 3) := by decide +kernel
theorem d1_3_31 : decode method_2_code 31 = .ok (.getstatic 19, 3) := by decide +kernel
theorem d1_3_34 : decode method_2_code 34 = .ok (.areturn, 1) := by decide +kernel
theorem ef_1_3 (m : MethodId) (x0 : Int32) : entryFrame m #[(.int x0)] 1 = mkF m 0 #[.val (.int x0)] [] := by first | (simp [entryFrame, mkF, argsToLocals, Value.category]; done) | rfl
def Q1_3 (Z : State) (a1 : Addr) (h0 : Heap) (n0 : Nat) (v : Option Value) (h : Heap) (L : List Loc) : Prop := v = some (.ref a1) ∧ Fr n0 L ∧ h = h0
set_option maxRecDepth 65536 in
set_option maxHeartbeats 40000000 in
theorem rm1_3 (l : Launch) (Z : State) (a0 : Array Value) (hw : ∀ d ∈ tables_1, d.before a0 Z = true) (ws : List Jvm.Cond) (a1 : Addr) (h0 : Heap) (n0 : Nat) (Z0 : n0 ≤ h0.size) (S1 : Sta Z h0 "com/example/cartulary/cartulary/codec/Operation" "MODIFY" "Lcom/example/cartulary/cartulary/codec/Operation;" (.ref a1)) :
    MetFree l (⟨"com/example/cartulary/cartulary/codec/OperationHasResponsePinLaw", "pick", "(I)Lcom/example/cartulary/cartulary/codec/Operation;"⟩ : MethodName) (head1 (Jvm.Cond.code (⟨"com/example/cartulary/cartulary/codec/OperationHasResponsePinLaw", "pick", "(I)Lcom/example/cartulary/cartulary/codec/Operation;"⟩ : MethodName) method_2_code 1 (some (.object "com/example/cartulary/cartulary/codec/Operation")) :: ws) ({ frames := 0, cells := 0, slots := 0, locals := 0 } : Room)) (fun a U => a = #[(.int (3 : Int32))] ∧ Z.Warmed39 U.vm ∧ U.heap = h0) (fun _ _ _ _ _ => True) (fun _ U o U' => ∃ v L, o = .returned v ∧ Q1_3 Z a1 h0 n0 v U'.heap L ∧ FrameEnd U o U' L ({ frames := 0, cells := 0, slots := 0, locals := 0 } : Room).cells ({ frames := 0, cells := 0, slots := 0, locals := 0 } : Room).slots) := by
  refine MetFree.of_bodySF (plainFor_of_name pn_com_example_cartulary_cartulary_codec_OperationHasResponsePinLaw) hisR ?_
  intro p e s m args below meth c s₁ Bd hml0 hP hK
  obtain ⟨rfl, hZ, hh⟩ := hP
  have hx := Bd.exec
  have hby := Bd.bytes
  have hlk : meth.locks = false := BodyLoose.notSynchronized Bd
  have hml : c.maxLocals = 1 := hml0
  have hown : s.vm.findClass "com/example/cartulary/cartulary/codec/OperationHasResponsePinLaw" = some m.cls := findClass_of_methodNamed Bd.named
  have hnm := (name_of_methodNamed Bd.named Bd.method).1
  have X0 : Stand p l e ({ frames := 0, cells := 0, slots := 0, locals := 0 } : Room) s m #[(.int (3 : Int32))] below meth c s₁ [] 0 0 := Stand.of_body Bd
  have e0 : s₁.heap = h0 := by rw [← hh, Bd.state]; rfl
  have N0 := Fr.nil n0
  show own_G p.tables e below s (Q1_3 Z a1 h0 n0) ({ frames := 0, cells := 0, slots := 0, locals := 0 } : Room).cells ({ frames := 0, cells := 0, slots := 0, locals := 0 } : Room).slots (s₁.setTop (entryFrame m #[(.int (3 : Int32))] 1))
  refine own_go (fun t k => castTop (ef_1_3 m (3 : Int32)) k) ?_
  show own_G p.tables e below s _ _ _ (s₁.setTop (mkF m 0 #[.val (.int (3 : Int32))] []))
  refine own_go (fun t k => XS.iloadN X0.here hx rfl (hb hby d1_3_0) rfl k) ?_
  show own_G p.tables e below s _ _ _ (s₁.setTop (mkF m 1 #[.val (.int (3 : Int32))] [(.int (3 : Int32))]))
  refine own_go (fun t k => XS.ifYes X0.here hx rfl (pc0 := 1) (pc' := 8) rfl (hb hby d1_3_1) rfl (by decide) (by decide) (by decide) k) ?_
  show own_G p.tables e below s _ _ _ (s₁.setTop (mkF m 8 #[.val (.int (3 : Int32))] []))
  refine own_go (fun t k => XS.iloadN X0.here hx rfl (hb hby d1_3_8) rfl k) ?_
  show own_G p.tables e below s _ _ _ (s₁.setTop (mkF m 9 #[.val (.int (3 : Int32))] [(.int (3 : Int32))]))
  refine own_go (fun t k => XS.iconst X0.here hx rfl (hb hby d1_3_9) k) ?_
  show own_G p.tables e below s _ _ _ (s₁.setTop (mkF m 10 #[.val (.int (3 : Int32))] [(.int (1 : Int32)), (.int (3 : Int32))]))
  refine own_go (fun t k => XS.icmpYes X0.here hx rfl (pc0 := 10) (pc' := 17) rfl (hb hby d1_3_10) rfl (by decide) (by decide) (by decide) k) ?_
  show own_G p.tables e below s _ _ _ (s₁.setTop (mkF m 17 #[.val (.int (3 : Int32))] []))
  refine own_go (fun t k => XS.iloadN X0.here hx rfl (hb hby d1_3_17) rfl k) ?_
  show own_G p.tables e below s _ _ _ (s₁.setTop (mkF m 18 #[.val (.int (3 : Int32))] [(.int (3 : Int32))]))
  refine own_go (fun t k => XS.iconst X0.here hx rfl (hb hby d1_3_18) k) ?_
  show own_G p.tables e below s _ _ _ (s₁.setTop (mkF m 19 #[.val (.int (3 : Int32))] [(.int (2 : Int32)), (.int (3 : Int32))]))
  refine own_go (fun t k => XS.icmpYes X0.here hx rfl (pc0 := 19) (pc' := 26) rfl (hb hby d1_3_19) rfl (by decide) (by decide) (by decide) k) ?_
  show own_G p.tables e below s _ _ _ (s₁.setTop (mkF m 26 #[.val (.int (3 : Int32))] []))
  refine own_go (fun t k => XS.iloadN X0.here hx rfl (hb hby d1_3_26) rfl k) ?_
  show own_G p.tables e below s _ _ _ (s₁.setTop (mkF m 27 #[.val (.int (3 : Int32))] [(.int (3 : Int32))]))
  refine own_go (fun t k => XS.iconst X0.here hx rfl (hb hby d1_3_27) k) ?_
  show own_G p.tables e below s _ _ _ (s₁.setTop (mkF m 28 #[.val (.int (3 : Int32))] [(.int (3 : Int32)), (.int (3 : Int32))]))
  refine own_go (fun t k => XS.icmpNo X0.here hx rfl (hb hby d1_3_28) rfl (by decide) k) ?_
  show own_G p.tables e below s _ _ _ (s₁.setTop (mkF m 31 #[.val (.int (3 : Int32))] []))
  obtain ⟨T4, X4, e4, st4⟩ := getS X0 hx hZ hown (host := "") (hw _ (List.mem_of_getElem? (i := 15) rfl)) Via.refl e0 S1 (g := (mkF m 31 #[.val (.int (3 : Int32))] [])) rfl (hb hby d1_3_31)
  refine own_go st4 ?_
  show own_G p.tables e below s _ _ _ (T4.setTop (mkF m 34 #[.val (.int (3 : Int32))] [(.ref a1)]))
  exact own_retA X4 hx hlk Bd.returns rfl rfl (hb hby d1_3_34) (by rw [e4]; exact ⟨rfl, N0, rfl⟩) (by decide) (by decide)
theorem d1_4_0 : decode method_2_code 0 = .ok (.iload_n 0, 1) := by decide +kernel
theorem d1_4_1 : decode method_2_code 1 = .ok (.ifCond .ne 7, 3) := by decide +kernel
theorem d1_4_8 : decode method_2_code 8 = .ok (.iload_n 0, 1) := by decide +kernel
theorem d1_4_9 : decode method_2_code 9 = .ok (.iconst 1, 1) := by decide +kernel
theorem d1_4_10 : decode method_2_code 10 = .ok (.if_icmp .ne 7, 3) := by decide +kernel
theorem d1_4_17 : decode method_2_code 17 = .ok (.iload_n 0, 1) := by decide +kernel
theorem d1_4_18 : decode method_2_code 18 = .ok (.iconst 2, 1) := by decide +kernel
theorem d1_4_19 : decode method_2_code 19 = .ok (.if_icmp .ne 7, 3) := by decide +kernel
theorem d1_4_26 : decode method_2_code 26 = .ok (.iload_n 0, 1) := by decide +kernel
theorem d1_4_27 : decode method_2_code 27 = .ok (.iconst 3, 1) := by decide +kernel
theorem d1_4_28 : decode method_2_code 28 = .ok (.if_icmp .ne 7, 3) := by decide +kernel
theorem d1_4_35 : decode method_2_code 35 = .ok (.iload_n 0, 1) := by decide +kernel
theorem d1_4_36 : decode method_2_code 36 = .ok (.iconst 4, 1) := by decide +kernel
theorem d1_4_37 : decode method_2_code 37 = .ok (.if_icmp .ne 7, 3) := by decide +kernel
theorem d1_4_40 : decode method_2_code 40 = .ok (.getstatic 22, 3) := by decide +kernel
theorem d1_4_43 : decode method_2_code 43 = .ok (.areturn, 1) := by decide +kernel
theorem ef_1_4 (m : MethodId) (x0 : Int32) : entryFrame m #[(.int x0)] 1 = mkF m 0 #[.val (.int x0)] [] := by first | (simp [entryFrame, mkF, argsToLocals, Value.category]; done) | rfl
def Q1_4 (Z : State) (a1 : Addr) (h0 : Heap) (n0 : Nat) (v : Option Value) (h : Heap) (L : List Loc) : Prop := v = some (.ref a1) ∧ Fr n0 L ∧ h = h0
set_option maxRecDepth 65536 in
set_option maxHeartbeats 40000000 in
theorem rm1_4 (l : Launch) (Z : State) (a0 : Array Value) (hw : ∀ d ∈ tables_1, d.before a0 Z = true) (ws : List Jvm.Cond) (a1 : Addr) (h0 : Heap) (n0 : Nat) (Z0 : n0 ≤ h0.size) (S1 : Sta Z h0 "com/example/cartulary/cartulary/codec/Operation" "ADD" "Lcom/example/cartulary/cartulary/codec/Operation;" (.ref a1)) :
    MetFree l (⟨"com/example/cartulary/cartulary/codec/OperationHasResponsePinLaw", "pick", "(I)Lcom/example/cartulary/cartulary/codec/Operation;"⟩ : MethodName) (head1 (Jvm.Cond.code (⟨"com/example/cartulary/cartulary/codec/OperationHasResponsePinLaw", "pick", "(I)Lcom/example/cartulary/cartulary/codec/Operation;"⟩ : MethodName) method_2_code 1 (some (.object "com/example/cartulary/cartulary/codec/Operation")) :: ws) ({ frames := 0, cells := 0, slots := 0, locals := 0 } : Room)) (fun a U => a = #[(.int (4 : Int32))] ∧ Z.Warmed39 U.vm ∧ U.heap = h0) (fun _ _ _ _ _ => True) (fun _ U o U' => ∃ v L, o = .returned v ∧ Q1_4 Z a1 h0 n0 v U'.heap L ∧ FrameEnd U o U' L ({ frames := 0, cells := 0, slots := 0, locals := 0 } : Room).cells ({ frames := 0, cells := 0, slots := 0, locals := 0 } : Room).slots) := by
  refine MetFree.of_bodySF (plainFor_of_name pn_com_example_cartulary_cartulary_codec_OperationHasResponsePinLaw) hisR ?_
  intro p e s m args below meth c s₁ Bd hml0 hP hK
  obtain ⟨rfl, hZ, hh⟩ := hP
  have hx := Bd.exec
  have hby := Bd.bytes
  have hlk : meth.locks = false := BodyLoose.notSynchronized Bd
  have hml : c.maxLocals = 1 := hml0
  have hown : s.vm.findClass "com/example/cartulary/cartulary/codec/OperationHasResponsePinLaw" = some m.cls := findClass_of_methodNamed Bd.named
  have hnm := (name_of_methodNamed Bd.named Bd.method).1
  have X0 : Stand p l e ({ frames := 0, cells := 0, slots := 0, locals := 0 } : Room) s m #[(.int (4 : Int32))] below meth c s₁ [] 0 0 := Stand.of_body Bd
  have e0 : s₁.heap = h0 := by rw [← hh, Bd.state]; rfl
  have N0 := Fr.nil n0
  show own_G p.tables e below s (Q1_4 Z a1 h0 n0) ({ frames := 0, cells := 0, slots := 0, locals := 0 } : Room).cells ({ frames := 0, cells := 0, slots := 0, locals := 0 } : Room).slots (s₁.setTop (entryFrame m #[(.int (4 : Int32))] 1))
  refine own_go (fun t k => castTop (ef_1_4 m (4 : Int32)) k) ?_
  show own_G p.tables e below s _ _ _ (s₁.setTop (mkF m 0 #[.val (.int (4 : Int32))] []))
  refine own_go (fun t k => XS.iloadN X0.here hx rfl (hb hby d1_4_0) rfl k) ?_
  show own_G p.tables e below s _ _ _ (s₁.setTop (mkF m 1 #[.val (.int (4 : Int32))] [(.int (4 : Int32))]))
  refine own_go (fun t k => XS.ifYes X0.here hx rfl (pc0 := 1) (pc' := 8) rfl (hb hby d1_4_1) rfl (by decide) (by decide) (by decide) k) ?_
  show own_G p.tables e below s _ _ _ (s₁.setTop (mkF m 8 #[.val (.int (4 : Int32))] []))
  refine own_go (fun t k => XS.iloadN X0.here hx rfl (hb hby d1_4_8) rfl k) ?_
  show own_G p.tables e below s _ _ _ (s₁.setTop (mkF m 9 #[.val (.int (4 : Int32))] [(.int (4 : Int32))]))
  refine own_go (fun t k => XS.iconst X0.here hx rfl (hb hby d1_4_9) k) ?_
  show own_G p.tables e below s _ _ _ (s₁.setTop (mkF m 10 #[.val (.int (4 : Int32))] [(.int (1 : Int32)), (.int (4 : Int32))]))
  refine own_go (fun t k => XS.icmpYes X0.here hx rfl (pc0 := 10) (pc' := 17) rfl (hb hby d1_4_10) rfl (by decide) (by decide) (by decide) k) ?_
  show own_G p.tables e below s _ _ _ (s₁.setTop (mkF m 17 #[.val (.int (4 : Int32))] []))
  refine own_go (fun t k => XS.iloadN X0.here hx rfl (hb hby d1_4_17) rfl k) ?_
  show own_G p.tables e below s _ _ _ (s₁.setTop (mkF m 18 #[.val (.int (4 : Int32))] [(.int (4 : Int32))]))
  refine own_go (fun t k => XS.iconst X0.here hx rfl (hb hby d1_4_18) k) ?_
  show own_G p.tables e below s _ _ _ (s₁.setTop (mkF m 19 #[.val (.int (4 : Int32))] [(.int (2 : Int32)), (.int (4 : Int32))]))
  refine own_go (fun t k => XS.icmpYes X0.here hx rfl (pc0 := 19) (pc' := 26) rfl (hb hby d1_4_19) rfl (by decide) (by decide) (by decide) k) ?_
  show own_G p.tables e below s _ _ _ (s₁.setTop (mkF m 26 #[.val (.int (4 : Int32))] []))
  refine own_go (fun t k => XS.iloadN X0.here hx rfl (hb hby d1_4_26) rfl k) ?_
  show own_G p.tables e below s _ _ _ (s₁.setTop (mkF m 27 #[.val (.int (4 : Int32))] [(.int (4 : Int32))]))
  refine own_go (fun t k => XS.iconst X0.here hx rfl (hb hby d1_4_27) k) ?_
  show own_G p.tables e below s _ _ _ (s₁.setTop (mkF m 28 #[.val (.int (4 : Int32))] [(.int (3 : Int32)), (.int (4 : Int32))]))
  refine own_go (fun t k => XS.icmpYes X0.here hx rfl (pc0 := 28) (pc' := 35) rfl (hb hby d1_4_28) rfl (by decide) (by decide) (by decide) k) ?_
  show own_G p.tables e below s _ _ _ (s₁.setTop (mkF m 35 #[.val (.int (4 : Int32))] []))
  refine own_go (fun t k => XS.iloadN X0.here hx rfl (hb hby d1_4_35) rfl k) ?_
  show own_G p.tables e below s _ _ _ (s₁.setTop (mkF m 36 #[.val (.int (4 : Int32))] [(.int (4 : Int32))]))
  refine own_go (fun t k => XS.iconst X0.here hx rfl (hb hby d1_4_36) k) ?_
  show own_G p.tables e below s _ _ _ (s₁.setTop (mkF m 37 #[.val (.int (4 : Int32))] [(.int (4 : Int32)), (.int (4 : Int32))]))
  refine own_go (fun t k => XS.icmpNo X0.here hx rfl (hb hby d1_4_37) rfl (by decide) k) ?_
  show own_G p.tables e below s _ _ _ (s₁.setTop (mkF m 40 #[.val (.int (4 : Int32))] []))
  obtain ⟨T5, X5, e5, st5⟩ := getS X0 hx hZ hown (host := "") (hw _ (List.mem_of_getElem? (i := 19) rfl)) Via.refl e0 S1 (g := (mkF m 40 #[.val (.int (4 : Int32))] [])) rfl (hb hby d1_4_40)
  refine own_go st5 ?_
  show own_G p.tables e below s _ _ _ (T5.setTop (mkF m 43 #[.val (.int (4 : Int32))] [(.ref a1)]))
  exact own_retA X5 hx hlk Bd.returns rfl rfl (hb hby d1_4_43) (by rw [e5]; exact ⟨rfl, N0, rfl⟩) (by decide) (by decide)
theorem d1_5_0 : decode method_2_code 0 = .ok (.iload_n 0, 1) := by decide +kernel
theorem d1_5_1 : decode method_2_code 1 = .ok (.ifCond .ne 7, 3) := by decide +kernel
theorem d1_5_8 : decode method_2_code 8 = .ok (.iload_n 0, 1) := by decide +kernel
theorem d1_5_9 : decode method_2_code 9 = .ok (.iconst 1, 1) := by decide +kernel
theorem d1_5_10 : decode method_2_code 10 = .ok (.if_icmp .ne 7, 3) := by decide +kernel
theorem d1_5_17 : decode method_2_code 17 = .ok (.iload_n 0, 1) := by decide +kernel
theorem d1_5_18 : decode method_2_code 18 = .ok (.iconst 2, 1) := by decide +kernel
theorem d1_5_19 : decode method_2_code 19 = .ok (.if_icmp .ne 7, 3) := by decide +kernel
theorem d1_5_26 : decode method_2_code 26 = .ok (.iload_n 0, 1) := by decide +kernel
theorem d1_5_27 : decode method_2_code 27 = .ok (.iconst 3, 1) := by decide +kernel
theorem d1_5_28 : decode method_2_code 28 = .ok (.if_icmp .ne 7, 3) := by decide +kernel
theorem d1_5_35 : decode method_2_code 35 = .ok (.iload_n 0, 1) := by decide +kernel
theorem d1_5_36 : decode method_2_code 36 = .ok (.iconst 4, 1) := by decide +kernel
theorem d1_5_37 : decode method_2_code 37 = .ok (.if_icmp .ne 7, 3) := by decide +kernel
theorem d1_5_44 : decode method_2_code 44 = .ok (.iload_n 0, 1) := by decide +kernel
theorem d1_5_45 : decode method_2_code 45 = .ok (.iconst 5, 1) := by decide +kernel
theorem d1_5_46 : decode method_2_code 46 = .ok (.if_icmp .ne 7, 3) := by decide +kernel
theorem d1_5_49 : decode method_2_code 49 = .ok (.getstatic 25, 3) := by decide +kernel
theorem d1_5_52 : decode method_2_code 52 = .ok (.areturn, 1) := by decide +kernel
theorem ef_1_5 (m : MethodId) (x0 : Int32) : entryFrame m #[(.int x0)] 1 = mkF m 0 #[.val (.int x0)] [] := by first | (simp [entryFrame, mkF, argsToLocals, Value.category]; done) | rfl
def Q1_5 (Z : State) (a1 : Addr) (h0 : Heap) (n0 : Nat) (v : Option Value) (h : Heap) (L : List Loc) : Prop := v = some (.ref a1) ∧ Fr n0 L ∧ h = h0
set_option maxRecDepth 65536 in
set_option maxHeartbeats 40000000 in
theorem rm1_5 (l : Launch) (Z : State) (a0 : Array Value) (hw : ∀ d ∈ tables_1, d.before a0 Z = true) (ws : List Jvm.Cond) (a1 : Addr) (h0 : Heap) (n0 : Nat) (Z0 : n0 ≤ h0.size) (S1 : Sta Z h0 "com/example/cartulary/cartulary/codec/Operation" "DELETE" "Lcom/example/cartulary/cartulary/codec/Operation;" (.ref a1)) :
    MetFree l (⟨"com/example/cartulary/cartulary/codec/OperationHasResponsePinLaw", "pick", "(I)Lcom/example/cartulary/cartulary/codec/Operation;"⟩ : MethodName) (head1 (Jvm.Cond.code (⟨"com/example/cartulary/cartulary/codec/OperationHasResponsePinLaw", "pick", "(I)Lcom/example/cartulary/cartulary/codec/Operation;"⟩ : MethodName) method_2_code 1 (some (.object "com/example/cartulary/cartulary/codec/Operation")) :: ws) ({ frames := 0, cells := 0, slots := 0, locals := 0 } : Room)) (fun a U => a = #[(.int (5 : Int32))] ∧ Z.Warmed39 U.vm ∧ U.heap = h0) (fun _ _ _ _ _ => True) (fun _ U o U' => ∃ v L, o = .returned v ∧ Q1_5 Z a1 h0 n0 v U'.heap L ∧ FrameEnd U o U' L ({ frames := 0, cells := 0, slots := 0, locals := 0 } : Room).cells ({ frames := 0, cells := 0, slots := 0, locals := 0 } : Room).slots) := by
  refine MetFree.of_bodySF (plainFor_of_name pn_com_example_cartulary_cartulary_codec_OperationHasResponsePinLaw) hisR ?_
  intro p e s m args below meth c s₁ Bd hml0 hP hK
  obtain ⟨rfl, hZ, hh⟩ := hP
  have hx := Bd.exec
  have hby := Bd.bytes
  have hlk : meth.locks = false := BodyLoose.notSynchronized Bd
  have hml : c.maxLocals = 1 := hml0
  have hown : s.vm.findClass "com/example/cartulary/cartulary/codec/OperationHasResponsePinLaw" = some m.cls := findClass_of_methodNamed Bd.named
  have hnm := (name_of_methodNamed Bd.named Bd.method).1
  have X0 : Stand p l e ({ frames := 0, cells := 0, slots := 0, locals := 0 } : Room) s m #[(.int (5 : Int32))] below meth c s₁ [] 0 0 := Stand.of_body Bd
  have e0 : s₁.heap = h0 := by rw [← hh, Bd.state]; rfl
  have N0 := Fr.nil n0
  show own_G p.tables e below s (Q1_5 Z a1 h0 n0) ({ frames := 0, cells := 0, slots := 0, locals := 0 } : Room).cells ({ frames := 0, cells := 0, slots := 0, locals := 0 } : Room).slots (s₁.setTop (entryFrame m #[(.int (5 : Int32))] 1))
  refine own_go (fun t k => castTop (ef_1_5 m (5 : Int32)) k) ?_
  show own_G p.tables e below s _ _ _ (s₁.setTop (mkF m 0 #[.val (.int (5 : Int32))] []))
  refine own_go (fun t k => XS.iloadN X0.here hx rfl (hb hby d1_5_0) rfl k) ?_
  show own_G p.tables e below s _ _ _ (s₁.setTop (mkF m 1 #[.val (.int (5 : Int32))] [(.int (5 : Int32))]))
  refine own_go (fun t k => XS.ifYes X0.here hx rfl (pc0 := 1) (pc' := 8) rfl (hb hby d1_5_1) rfl (by decide) (by decide) (by decide) k) ?_
  show own_G p.tables e below s _ _ _ (s₁.setTop (mkF m 8 #[.val (.int (5 : Int32))] []))
  refine own_go (fun t k => XS.iloadN X0.here hx rfl (hb hby d1_5_8) rfl k) ?_
  show own_G p.tables e below s _ _ _ (s₁.setTop (mkF m 9 #[.val (.int (5 : Int32))] [(.int (5 : Int32))]))
  refine own_go (fun t k => XS.iconst X0.here hx rfl (hb hby d1_5_9) k) ?_
  show own_G p.tables e below s _ _ _ (s₁.setTop (mkF m 10 #[.val (.int (5 : Int32))] [(.int (1 : Int32)), (.int (5 : Int32))]))
  refine own_go (fun t k => XS.icmpYes X0.here hx rfl (pc0 := 10) (pc' := 17) rfl (hb hby d1_5_10) rfl (by decide) (by decide) (by decide) k) ?_
  show own_G p.tables e below s _ _ _ (s₁.setTop (mkF m 17 #[.val (.int (5 : Int32))] []))
  refine own_go (fun t k => XS.iloadN X0.here hx rfl (hb hby d1_5_17) rfl k) ?_
  show own_G p.tables e below s _ _ _ (s₁.setTop (mkF m 18 #[.val (.int (5 : Int32))] [(.int (5 : Int32))]))
  refine own_go (fun t k => XS.iconst X0.here hx rfl (hb hby d1_5_18) k) ?_
  show own_G p.tables e below s _ _ _ (s₁.setTop (mkF m 19 #[.val (.int (5 : Int32))] [(.int (2 : Int32)), (.int (5 : Int32))]))
  refine own_go (fun t k => XS.icmpYes X0.here hx rfl (pc0 := 19) (pc' := 26) rfl (hb hby d1_5_19) rfl (by decide) (by decide) (by decide) k) ?_
  show own_G p.tables e below s _ _ _ (s₁.setTop (mkF m 26 #[.val (.int (5 : Int32))] []))
  refine own_go (fun t k => XS.iloadN X0.here hx rfl (hb hby d1_5_26) rfl k) ?_
  show own_G p.tables e below s _ _ _ (s₁.setTop (mkF m 27 #[.val (.int (5 : Int32))] [(.int (5 : Int32))]))
  refine own_go (fun t k => XS.iconst X0.here hx rfl (hb hby d1_5_27) k) ?_
  show own_G p.tables e below s _ _ _ (s₁.setTop (mkF m 28 #[.val (.int (5 : Int32))] [(.int (3 : Int32)), (.int (5 : Int32))]))
  refine own_go (fun t k => XS.icmpYes X0.here hx rfl (pc0 := 28) (pc' := 35) rfl (hb hby d1_5_28) rfl (by decide) (by decide) (by decide) k) ?_
  show own_G p.tables e below s _ _ _ (s₁.setTop (mkF m 35 #[.val (.int (5 : Int32))] []))
  refine own_go (fun t k => XS.iloadN X0.here hx rfl (hb hby d1_5_35) rfl k) ?_
  show own_G p.tables e below s _ _ _ (s₁.setTop (mkF m 36 #[.val (.int (5 : Int32))] [(.int (5 : Int32))]))
  refine own_go (fun t k => XS.iconst X0.here hx rfl (hb hby d1_5_36) k) ?_
  show own_G p.tables e below s _ _ _ (s₁.setTop (mkF m 37 #[.val (.int (5 : Int32))] [(.int (4 : Int32)), (.int (5 : Int32))]))
  refine own_go (fun t k => XS.icmpYes X0.here hx rfl (pc0 := 37) (pc' := 44) rfl (hb hby d1_5_37) rfl (by decide) (by decide) (by decide) k) ?_
  show own_G p.tables e below s _ _ _ (s₁.setTop (mkF m 44 #[.val (.int (5 : Int32))] []))
  refine own_go (fun t k => XS.iloadN X0.here hx rfl (hb hby d1_5_44) rfl k) ?_
  show own_G p.tables e below s _ _ _ (s₁.setTop (mkF m 45 #[.val (.int (5 : Int32))] [(.int (5 : Int32))]))
  refine own_go (fun t k => XS.iconst X0.here hx rfl (hb hby d1_5_45) k) ?_
  show own_G p.tables e below s _ _ _ (s₁.setTop (mkF m 46 #[.val (.int (5 : Int32))] [(.int (5 : Int32)), (.int (5 : Int32))]))
  refine own_go (fun t k => XS.icmpNo X0.here hx rfl (hb hby d1_5_46) rfl (by decide) k) ?_
  show own_G p.tables e below s _ _ _ (s₁.setTop (mkF m 49 #[.val (.int (5 : Int32))] []))
  obtain ⟨T6, X6, e6, st6⟩ := getS X0 hx hZ hown (host := "") (hw _ (List.mem_of_getElem? (i := 29) rfl)) Via.refl e0 S1 (g := (mkF m 49 #[.val (.int (5 : Int32))] [])) rfl (hb hby d1_5_49)
  refine own_go st6 ?_
  show own_G p.tables e below s _ _ _ (T6.setTop (mkF m 52 #[.val (.int (5 : Int32))] [(.ref a1)]))
  exact own_retA X6 hx hlk Bd.returns rfl rfl (hb hby d1_5_52) (by rw [e6]; exact ⟨rfl, N0, rfl⟩) (by decide) (by decide)
theorem d1_6_0 : decode method_2_code 0 = .ok (.iload_n 0, 1) := by decide +kernel
theorem d1_6_1 : decode method_2_code 1 = .ok (.ifCond .ne 7, 3) := by decide +kernel
theorem d1_6_8 : decode method_2_code 8 = .ok (.iload_n 0, 1) := by decide +kernel
theorem d1_6_9 : decode method_2_code 9 = .ok (.iconst 1, 1) := by decide +kernel
theorem d1_6_10 : decode method_2_code 10 = .ok (.if_icmp .ne 7, 3) := by decide +kernel
theorem d1_6_17 : decode method_2_code 17 = .ok (.iload_n 0, 1) := by decide +kernel
theorem d1_6_18 : decode method_2_code 18 = .ok (.iconst 2, 1) := by decide +kernel
theorem d1_6_19 : decode method_2_code 19 = .ok (.if_icmp .ne 7, 3) := by decide +kernel
theorem d1_6_26 : decode method_2_code 26 = .ok (.iload_n 0, 1) := by decide +kernel
theorem d1_6_27 : decode method_2_code 27 = .ok (.iconst 3, 1) := by decide +kernel
theorem d1_6_28 : decode method_2_code 28 = .ok (.if_icmp .ne 7, 3) := by decide +kernel
theorem d1_6_35 : decode method_2_code 35 = .ok (.iload_n 0, 1) := by decide +kernel
theorem d1_6_36 : decode method_2_code 36 = .ok (.iconst 4, 1) := by decide +kernel
theorem d1_6_37 : decode method_2_code 37 = .ok (.if_icmp .ne 7, 3) := by decide +kernel
theorem d1_6_44 : decode method_2_code 44 = .ok (.iload_n 0, 1) := by decide +kernel
theorem d1_6_45 : decode method_2_code 45 = .ok (.iconst 5, 1) := by decide +kernel
theorem d1_6_46 : decode method_2_code 46 = .ok (.if_icmp .ne 7, 3) := by decide +kernel
theorem d1_6_53 : decode method_2_code 53 = .ok (.iload_n 0, 1) := by decide +kernel
theorem d1_6_54 : decode method_2_code 54 = .ok (.bipush 6, 2) := by decide +kernel
theorem d1_6_56 : decode method_2_code 56 = .ok (.if_icmp .ne 7, 3) := by decide +kernel
theorem d1_6_59 : decode method_2_code 59 = .ok (.getstatic 28, 3) := by decide +kernel
theorem d1_6_62 : decode method_2_code 62 = .ok (.areturn, 1) := by decide +kernel
theorem ef_1_6 (m : MethodId) (x0 : Int32) : entryFrame m #[(.int x0)] 1 = mkF m 0 #[.val (.int x0)] [] := by first | (simp [entryFrame, mkF, argsToLocals, Value.category]; done) | rfl
def Q1_6 (Z : State) (a1 : Addr) (h0 : Heap) (n0 : Nat) (v : Option Value) (h : Heap) (L : List Loc) : Prop := v = some (.ref a1) ∧ Fr n0 L ∧ h = h0
set_option maxRecDepth 65536 in
set_option maxHeartbeats 40000000 in
theorem rm1_6 (l : Launch) (Z : State) (a0 : Array Value) (hw : ∀ d ∈ tables_1, d.before a0 Z = true) (ws : List Jvm.Cond) (a1 : Addr) (h0 : Heap) (n0 : Nat) (Z0 : n0 ≤ h0.size) (S1 : Sta Z h0 "com/example/cartulary/cartulary/codec/Operation" "MODIFY_DN" "Lcom/example/cartulary/cartulary/codec/Operation;" (.ref a1)) :
    MetFree l (⟨"com/example/cartulary/cartulary/codec/OperationHasResponsePinLaw", "pick", "(I)Lcom/example/cartulary/cartulary/codec/Operation;"⟩ : MethodName) (head1 (Jvm.Cond.code (⟨"com/example/cartulary/cartulary/codec/OperationHasResponsePinLaw", "pick", "(I)Lcom/example/cartulary/cartulary/codec/Operation;"⟩ : MethodName) method_2_code 1 (some (.object "com/example/cartulary/cartulary/codec/Operation")) :: ws) ({ frames := 0, cells := 0, slots := 0, locals := 0 } : Room)) (fun a U => a = #[(.int (6 : Int32))] ∧ Z.Warmed39 U.vm ∧ U.heap = h0) (fun _ _ _ _ _ => True) (fun _ U o U' => ∃ v L, o = .returned v ∧ Q1_6 Z a1 h0 n0 v U'.heap L ∧ FrameEnd U o U' L ({ frames := 0, cells := 0, slots := 0, locals := 0 } : Room).cells ({ frames := 0, cells := 0, slots := 0, locals := 0 } : Room).slots) := by
  refine MetFree.of_bodySF (plainFor_of_name pn_com_example_cartulary_cartulary_codec_OperationHasResponsePinLaw) hisR ?_
  intro p e s m args below meth c s₁ Bd hml0 hP hK
  obtain ⟨rfl, hZ, hh⟩ := hP
  have hx := Bd.exec
  have hby := Bd.bytes
  have hlk : meth.locks = false := BodyLoose.notSynchronized Bd
  have hml : c.maxLocals = 1 := hml0
  have hown : s.vm.findClass "com/example/cartulary/cartulary/codec/OperationHasResponsePinLaw" = some m.cls := findClass_of_methodNamed Bd.named
  have hnm := (name_of_methodNamed Bd.named Bd.method).1
  have X0 : Stand p l e ({ frames := 0, cells := 0, slots := 0, locals := 0 } : Room) s m #[(.int (6 : Int32))] below meth c s₁ [] 0 0 := Stand.of_body Bd
  have e0 : s₁.heap = h0 := by rw [← hh, Bd.state]; rfl
  have N0 := Fr.nil n0
  show own_G p.tables e below s (Q1_6 Z a1 h0 n0) ({ frames := 0, cells := 0, slots := 0, locals := 0 } : Room).cells ({ frames := 0, cells := 0, slots := 0, locals := 0 } : Room).slots (s₁.setTop (entryFrame m #[(.int (6 : Int32))] 1))
  refine own_go (fun t k => castTop (ef_1_6 m (6 : Int32)) k) ?_
  show own_G p.tables e below s _ _ _ (s₁.setTop (mkF m 0 #[.val (.int (6 : Int32))] []))
  refine own_go (fun t k => XS.iloadN X0.here hx rfl (hb hby d1_6_0) rfl k) ?_
  show own_G p.tables e below s _ _ _ (s₁.setTop (mkF m 1 #[.val (.int (6 : Int32))] [(.int (6 : Int32))]))
  refine own_go (fun t k => XS.ifYes X0.here hx rfl (pc0 := 1) (pc' := 8) rfl (hb hby d1_6_1) rfl (by decide) (by decide) (by decide) k) ?_
  show own_G p.tables e below s _ _ _ (s₁.setTop (mkF m 8 #[.val (.int (6 : Int32))] []))
  refine own_go (fun t k => XS.iloadN X0.here hx rfl (hb hby d1_6_8) rfl k) ?_
  show own_G p.tables e below s _ _ _ (s₁.setTop (mkF m 9 #[.val (.int (6 : Int32))] [(.int (6 : Int32))]))
  refine own_go (fun t k => XS.iconst X0.here hx rfl (hb hby d1_6_9) k) ?_
  show own_G p.tables e below s _ _ _ (s₁.setTop (mkF m 10 #[.val (.int (6 : Int32))] [(.int (1 : Int32)), (.int (6 : Int32))]))
  refine own_go (fun t k => XS.icmpYes X0.here hx rfl (pc0 := 10) (pc' := 17) rfl (hb hby d1_6_10) rfl (by decide) (by decide) (by decide) k) ?_
  show own_G p.tables e below s _ _ _ (s₁.setTop (mkF m 17 #[.val (.int (6 : Int32))] []))
  refine own_go (fun t k => XS.iloadN X0.here hx rfl (hb hby d1_6_17) rfl k) ?_
  show own_G p.tables e below s _ _ _ (s₁.setTop (mkF m 18 #[.val (.int (6 : Int32))] [(.int (6 : Int32))]))
  refine own_go (fun t k => XS.iconst X0.here hx rfl (hb hby d1_6_18) k) ?_
  show own_G p.tables e below s _ _ _ (s₁.setTop (mkF m 19 #[.val (.int (6 : Int32))] [(.int (2 : Int32)), (.int (6 : Int32))]))
  refine own_go (fun t k => XS.icmpYes X0.here hx rfl (pc0 := 19) (pc' := 26) rfl (hb hby d1_6_19) rfl (by decide) (by decide) (by decide) k) ?_
  show own_G p.tables e below s _ _ _ (s₁.setTop (mkF m 26 #[.val (.int (6 : Int32))] []))
  refine own_go (fun t k => XS.iloadN X0.here hx rfl (hb hby d1_6_26) rfl k) ?_
  show own_G p.tables e below s _ _ _ (s₁.setTop (mkF m 27 #[.val (.int (6 : Int32))] [(.int (6 : Int32))]))
  refine own_go (fun t k => XS.iconst X0.here hx rfl (hb hby d1_6_27) k) ?_
  show own_G p.tables e below s _ _ _ (s₁.setTop (mkF m 28 #[.val (.int (6 : Int32))] [(.int (3 : Int32)), (.int (6 : Int32))]))
  refine own_go (fun t k => XS.icmpYes X0.here hx rfl (pc0 := 28) (pc' := 35) rfl (hb hby d1_6_28) rfl (by decide) (by decide) (by decide) k) ?_
  show own_G p.tables e below s _ _ _ (s₁.setTop (mkF m 35 #[.val (.int (6 : Int32))] []))
  refine own_go (fun t k => XS.iloadN X0.here hx rfl (hb hby d1_6_35) rfl k) ?_
  show own_G p.tables e below s _ _ _ (s₁.setTop (mkF m 36 #[.val (.int (6 : Int32))] [(.int (6 : Int32))]))
  refine own_go (fun t k => XS.iconst X0.here hx rfl (hb hby d1_6_36) k) ?_
  show own_G p.tables e below s _ _ _ (s₁.setTop (mkF m 37 #[.val (.int (6 : Int32))] [(.int (4 : Int32)), (.int (6 : Int32))]))
  refine own_go (fun t k => XS.icmpYes X0.here hx rfl (pc0 := 37) (pc' := 44) rfl (hb hby d1_6_37) rfl (by decide) (by decide) (by decide) k) ?_
  show own_G p.tables e below s _ _ _ (s₁.setTop (mkF m 44 #[.val (.int (6 : Int32))] []))
  refine own_go (fun t k => XS.iloadN X0.here hx rfl (hb hby d1_6_44) rfl k) ?_
  show own_G p.tables e below s _ _ _ (s₁.setTop (mkF m 45 #[.val (.int (6 : Int32))] [(.int (6 : Int32))]))
  refine own_go (fun t k => XS.iconst X0.here hx rfl (hb hby d1_6_45) k) ?_
  show own_G p.tables e below s _ _ _ (s₁.setTop (mkF m 46 #[.val (.int (6 : Int32))] [(.int (5 : Int32)), (.int (6 : Int32))]))
  refine own_go (fun t k => XS.icmpYes X0.here hx rfl (pc0 := 46) (pc' := 53) rfl (hb hby d1_6_46) rfl (by decide) (by decide) (by decide) k) ?_
  show own_G p.tables e below s _ _ _ (s₁.setTop (mkF m 53 #[.val (.int (6 : Int32))] []))
  refine own_go (fun t k => XS.iloadN X0.here hx rfl (hb hby d1_6_53) rfl k) ?_
  show own_G p.tables e below s _ _ _ (s₁.setTop (mkF m 54 #[.val (.int (6 : Int32))] [(.int (6 : Int32))]))
  refine own_go (fun t k => XS.bipush X0.here hx rfl (hb hby d1_6_54) k) ?_
  show own_G p.tables e below s _ _ _ (s₁.setTop (mkF m 56 #[.val (.int (6 : Int32))] [(.int (6 : Int32)), (.int (6 : Int32))]))
  refine own_go (fun t k => XS.icmpNo X0.here hx rfl (hb hby d1_6_56) rfl (by decide) k) ?_
  show own_G p.tables e below s _ _ _ (s₁.setTop (mkF m 59 #[.val (.int (6 : Int32))] []))
  obtain ⟨T7, X7, e7, st7⟩ := getS X0 hx hZ hown (host := "") (hw _ (List.mem_of_getElem? (i := 31) rfl)) Via.refl e0 S1 (g := (mkF m 59 #[.val (.int (6 : Int32))] [])) rfl (hb hby d1_6_59)
  refine own_go st7 ?_
  show own_G p.tables e below s _ _ _ (T7.setTop (mkF m 62 #[.val (.int (6 : Int32))] [(.ref a1)]))
  exact own_retA X7 hx hlk Bd.returns rfl rfl (hb hby d1_6_62) (by rw [e7]; exact ⟨rfl, N0, rfl⟩) (by decide) (by decide)
theorem d1_7_0 : decode method_2_code 0 = .ok (.iload_n 0, 1) := by decide +kernel
theorem d1_7_1 : decode method_2_code 1 = .ok (.ifCond .ne 7, 3) := by decide +kernel
theorem d1_7_8 : decode method_2_code 8 = .ok (.iload_n 0, 1) := by decide +kernel
theorem d1_7_9 : decode method_2_code 9 = .ok (.iconst 1, 1) := by decide +kernel
theorem d1_7_10 : decode method_2_code 10 = .ok (.if_icmp .ne 7, 3) := by decide +kernel
theorem d1_7_17 : decode method_2_code 17 = .ok (.iload_n 0, 1) := by decide +kernel
theorem d1_7_18 : decode method_2_code 18 = .ok (.iconst 2, 1) := by decide +kernel
theorem d1_7_19 : decode method_2_code 19 = .ok (.if_icmp .ne 7, 3) := by decide +kernel
theorem d1_7_26 : decode method_2_code 26 = .ok (.iload_n 0, 1) := by decide +kernel
theorem d1_7_27 : decode method_2_code 27 = .ok (.iconst 3, 1) := by decide +kernel
theorem d1_7_28 : decode method_2_code 28 = .ok (.if_icmp .ne 7, 3) := by decide +kernel
theorem d1_7_35 : decode method_2_code 35 = .ok (.iload_n 0, 1) := by decide +kernel
theorem d1_7_36 : decode method_2_code 36 = .ok (.iconst 4, 1) := by decide +kernel
theorem d1_7_37 : decode method_2_code 37 = .ok (.if_icmp .ne 7, 3) := by decide +kernel
theorem d1_7_44 : decode method_2_code 44 = .ok (.iload_n 0, 1) := by decide +kernel
theorem d1_7_45 : decode method_2_code 45 = .ok (.iconst 5, 1) := by decide +kernel
theorem d1_7_46 : decode method_2_code 46 = .ok (.if_icmp .ne 7, 3) := by decide +kernel
theorem d1_7_53 : decode method_2_code 53 = .ok (.iload_n 0, 1) := by decide +kernel
theorem d1_7_54 : decode method_2_code 54 = .ok (.bipush 6, 2) := by decide +kernel
theorem d1_7_56 : decode method_2_code 56 = .ok (.if_icmp .ne 7, 3) := by decide +kernel
theorem d1_7_63 : decode method_2_code 63 = .ok (.iload_n 0, 1) := by decide +kernel
theorem d1_7_64 : decode method_2_code 64 = .ok (.bipush 7, 2) := by decide +kernel
theorem d1_7_66 : decode method_2_code 66 = .ok (.if_icmp .ne 7, 3) := by decide +kernel
theorem d1_7_69 : decode method_2_code 69 = .ok (.getstatic 31, 3) := by decide +kernel
theorem d1_7_72 : decode method_2_code 72 = .ok (.areturn, 1) := by decide +kernel
theorem ef_1_7 (m : MethodId) (x0 : Int32) : entryFrame m #[(.int x0)] 1 = mkF m 0 #[.val (.int x0)] [] := by first | (simp [entryFrame, mkF, argsToLocals, Value.category]; done) | rfl
def Q1_7 (Z : State) (a1 : Addr) (h0 : Heap) (n0 : Nat) (v : Option Value) (h : Heap) (L : List Loc) : Prop := v = some (.ref a1) ∧ Fr n0 L ∧ h = h0
set_option maxRecDepth 65536 in
set_option maxHeartbeats 40000000 in
theorem rm1_7 (l : Launch) (Z : State) (a0 : Array Value) (hw : ∀ d ∈ tables_1, d.before a0 Z = true) (ws : List Jvm.Cond) (a1 : Addr) (h0 : Heap) (n0 : Nat) (Z0 : n0 ≤ h0.size) (S1 : Sta Z h0 "com/example/cartulary/cartulary/codec/Operation" "COMPARE" "Lcom/example/cartulary/cartulary/codec/Operation;" (.ref a1)) :
    MetFree l (⟨"com/example/cartulary/cartulary/codec/OperationHasResponsePinLaw", "pick", "(I)Lcom/example/cartulary/cartulary/codec/Operation;"⟩ : MethodName) (head1 (Jvm.Cond.code (⟨"com/example/cartulary/cartulary/codec/OperationHasResponsePinLaw", "pick", "(I)Lcom/example/cartulary/cartulary/codec/Operation;"⟩ : MethodName) method_2_code 1 (some (.object "com/example/cartulary/cartulary/codec/Operation")) :: ws) ({ frames := 0, cells := 0, slots := 0, locals := 0 } : Room)) (fun a U => a = #[(.int (7 : Int32))] ∧ Z.Warmed39 U.vm ∧ U.heap = h0) (fun _ _ _ _ _ => True) (fun _ U o U' => ∃ v L, o = .returned v ∧ Q1_7 Z a1 h0 n0 v U'.heap L ∧ FrameEnd U o U' L ({ frames := 0, cells := 0, slots := 0, locals := 0 } : Room).cells ({ frames := 0, cells := 0, slots := 0, locals := 0 } : Room).slots) := by
  refine MetFree.of_bodySF (plainFor_of_name pn_com_example_cartulary_cartulary_codec_OperationHasResponsePinLaw) hisR ?_
  intro p e s m args below meth c s₁ Bd hml0 hP hK
  obtain ⟨rfl, hZ, hh⟩ := hP
  have hx := Bd.exec
  have hby := Bd.bytes
  have hlk : meth.locks = false := BodyLoose.notSynchronized Bd
  have hml : c.maxLocals = 1 := hml0
  have hown : s.vm.findClass "com/example/cartulary/cartulary/codec/OperationHasResponsePinLaw" = some m.cls := findClass_of_methodNamed Bd.named
  have hnm := (name_of_methodNamed Bd.named Bd.method).1
  have X0 : Stand p l e ({ frames := 0, cells := 0, slots := 0, locals := 0 } : Room) s m #[(.int (7 : Int32))] below meth c s₁ [] 0 0 := Stand.of_body Bd
  have e0 : s₁.heap = h0 := by rw [← hh, Bd.state]; rfl
  have N0 := Fr.nil n0
  show own_G p.tables e below s (Q1_7 Z a1 h0 n0) ({ frames := 0, cells := 0, slots := 0, locals := 0 } : Room).cells ({ frames := 0, cells := 0, slots := 0, locals := 0 } : Room).slots (s₁.setTop (entryFrame m #[(.int (7 : Int32))] 1))
  refine own_go (fun t k => castTop (ef_1_7 m (7 : Int32)) k) ?_
  show own_G p.tables e below s _ _ _ (s₁.setTop (mkF m 0 #[.val (.int (7 : Int32))] []))
  refine own_go (fun t k => XS.iloadN X0.here hx rfl (hb hby d1_7_0) rfl k) ?_
  show own_G p.tables e below s _ _ _ (s₁.setTop (mkF m 1 #[.val (.int (7 : Int32))] [(.int (7 : Int32))]))
  refine own_go (fun t k => XS.ifYes X0.here hx rfl (pc0 := 1) (pc' := 8) rfl (hb hby d1_7_1) rfl (by decide) (by decide) (by decide) k) ?_
  show own_G p.tables e below s _ _ _ (s₁.setTop (mkF m 8 #[.val (.int (7 : Int32))] []))
  refine own_go (fun t k => XS.iloadN X0.here hx rfl (hb hby d1_7_8) rfl k) ?_
  show own_G p.tables e below s _ _ _ (s₁.setTop (mkF m 9 #[.val (.int (7 : Int32))] [(.int (7 : Int32))]))
  refine own_go (fun t k => XS.iconst X0.here hx rfl (hb hby d1_7_9) k) ?_
  show own_G p.tables e below s _ _ _ (s₁.setTop (mkF m 10 #[.val (.int (7 : Int32))] [(.int (1 : Int32)), (.int (7 : Int32))]))
  refine own_go (fun t k => XS.icmpYes X0.here hx rfl (pc0 := 10) (pc' := 17) rfl (hb hby d1_7_10) rfl (by decide) (by decide) (by decide) k) ?_
  show own_G p.tables e below s _ _ _ (s₁.setTop (mkF m 17 #[.val (.int (7 : Int32))] []))
  refine own_go (fun t k => XS.iloadN X0.here hx rfl (hb hby d1_7_17) rfl k) ?_
  show own_G p.tables e below s _ _ _ (s₁.setTop (mkF m 18 #[.val (.int (7 : Int32))] [(.int (7 : Int32))]))
  refine own_go (fun t k => XS.iconst X0.here hx rfl (hb hby d1_7_18) k) ?_
  show own_G p.tables e below s _ _ _ (s₁.setTop (mkF m 19 #[.val (.int (7 : Int32))] [(.int (2 : Int32)), (.int (7 : Int32))]))
  refine own_go (fun t k => XS.icmpYes X0.here hx rfl (pc0 := 19) (pc' := 26) rfl (hb hby d1_7_19) rfl (by decide) (by decide) (by decide) k) ?_
  show own_G p.tables e below s _ _ _ (s₁.setTop (mkF m 26 #[.val (.int (7 : Int32))] []))
  refine own_go (fun t k => XS.iloadN X0.here hx rfl (hb hby d1_7_26) rfl k) ?_
  show own_G p.tables e below s _ _ _ (s₁.setTop (mkF m 27 #[.val (.int (7 : Int32))] [(.int (7 : Int32))]))
  refine own_go (fun t k => XS.iconst X0.here hx rfl (hb hby d1_7_27) k) ?_
  show own_G p.tables e below s _ _ _ (s₁.setTop (mkF m 28 #[.val (.int (7 : Int32))] [(.int (3 : Int32)), (.int (7 : Int32))]))
  refine own_go (fun t k => XS.icmpYes X0.here hx rfl (pc0 := 28) (pc' := 35) rfl (hb hby d1_7_28) rfl (by decide) (by decide) (by decide) k) ?_
  show own_G p.tables e below s _ _ _ (s₁.setTop (mkF m 35 #[.val (.int (7 : Int32))] []))
  refine own_go (fun t k => XS.iloadN X0.here hx rfl (hb hby d1_7_35) rfl k) ?_
  show own_G p.tables e below s _ _ _ (s₁.setTop (mkF m 36 #[.val (.int (7 : Int32))] [(.int (7 : Int32))]))
  refine own_go (fun t k => XS.iconst X0.here hx rfl (hb hby d1_7_36) k) ?_
  show own_G p.tables e below s _ _ _ (s₁.setTop (mkF m 37 #[.val (.int (7 : Int32))] [(.int (4 : Int32)), (.int (7 : Int32))]))
  refine own_go (fun t k => XS.icmpYes X0.here hx rfl (pc0 := 37) (pc' := 44) rfl (hb hby d1_7_37) rfl (by decide) (by decide) (by decide) k) ?_
  show own_G p.tables e below s _ _ _ (s₁.setTop (mkF m 44 #[.val (.int (7 : Int32))] []))
  refine own_go (fun t k => XS.iloadN X0.here hx rfl (hb hby d1_7_44) rfl k) ?_
  show own_G p.tables e below s _ _ _ (s₁.setTop (mkF m 45 #[.val (.int (7 : Int32))] [(.int (7 : Int32))]))
  refine own_go (fun t k => XS.iconst X0.here hx rfl (hb hby d1_7_45) k) ?_
  show own_G p.tables e below s _ _ _ (s₁.setTop (mkF m 46 #[.val (.int (7 : Int32))] [(.int (5 : Int32)), (.int (7 : Int32))]))
  refine own_go (fun t k => XS.icmpYes X0.here hx rfl (pc0 := 46) (pc' := 53) rfl (hb hby d1_7_46) rfl (by decide) (by decide) (by decide) k) ?_
  show own_G p.tables e below s _ _ _ (s₁.setTop (mkF m 53 #[.val (.int (7 : Int32))] []))
  refine own_go (fun t k => XS.iloadN X0.here hx rfl (hb hby d1_7_53) rfl k) ?_
  show own_G p.tables e below s _ _ _ (s₁.setTop (mkF m 54 #[.val (.int (7 : Int32))] [(.int (7 : Int32))]))
  refine own_go (fun t k => XS.bipush X0.here hx rfl (hb hby d1_7_54) k) ?_
  show own_G p.tables e below s _ _ _ (s₁.setTop (mkF m 56 #[.val (.int (7 : Int32))] [(.int (6 : Int32)), (.int (7 : Int32))]))
  refine own_go (fun t k => XS.icmpYes X0.here hx rfl (pc0 := 56) (pc' := 63) rfl (hb hby d1_7_56) rfl (by decide) (by decide) (by decide) k) ?_
  show own_G p.tables e below s _ _ _ (s₁.setTop (mkF m 63 #[.val (.int (7 : Int32))] []))
  refine own_go (fun t k => XS.iloadN X0.here hx rfl (hb hby d1_7_63) rfl k) ?_
  show own_G p.tables e below s _ _ _ (s₁.setTop (mkF m 64 #[.val (.int (7 : Int32))] [(.int (7 : Int32))]))
  refine own_go (fun t k => XS.bipush X0.here hx rfl (hb hby d1_7_64) k) ?_
  show own_G p.tables e below s _ _ _ (s₁.setTop (mkF m 66 #[.val (.int (7 : Int32))] [(.int (7 : Int32)), (.int (7 : Int32))]))
  refine own_go (fun t k => XS.icmpNo X0.here hx rfl (hb hby d1_7_66) rfl (by decide) k) ?_
  show own_G p.tables e below s _ _ _ (s₁.setTop (mkF m 69 #[.val (.int (7 : Int32))] []))
  obtain ⟨T8, X8, e8, st8⟩ := getS X0 hx hZ hown (host := "") (hw _ (List.mem_of_getElem? (i := 21) rfl)) Via.refl e0 S1 (g := (mkF m 69 #[.val (.int (7 : Int32))] [])) rfl (hb hby d1_7_69)
  refine own_go st8 ?_
  show own_G p.tables e below s _ _ _ (T8.setTop (mkF m 72 #[.val (.int (7 : Int32))] [(.ref a1)]))
  exact own_retA X8 hx hlk Bd.returns rfl rfl (hb hby d1_7_72) (by rw [e8]; exact ⟨rfl, N0, rfl⟩) (by decide) (by decide)
theorem d1_8_0 : decode method_2_code 0 = .ok (.iload_n 0, 1) := by decide +kernel
theorem d1_8_1 : decode method_2_code 1 = .ok (.ifCond .ne 7, 3) := by decide +kernel
theorem d1_8_8 : decode method_2_code 8 = .ok (.iload_n 0, 1) := by decide +kernel
theorem d1_8_9 : decode method_2_code 9 = .ok (.iconst 1, 1) := by decide +kernel
theorem d1_8_10 : decode method_2_code 10 = .ok (.if_icmp .ne 7, 3) := by decide +kernel
theorem d1_8_17 : decode method_2_code 17 = .ok (.iload_n 0, 1) := by decide +kernel
theorem d1_8_18 : decode method_2_code 18 = .ok (.iconst 2, 1) := by decide +kernel
theorem d1_8_19 : decode method_2_code 19 = .ok (.if_icmp .ne 7, 3) := by decide +kernel
theorem d1_8_26 : decode method_2_code 26 = .ok (.iload_n 0, 1) := by decide +kernel
theorem d1_8_27 : decode method_2_code 27 = .ok (.iconst 3, 1) := by decide +kernel
theorem d1_8_28 : decode method_2_code 28 = .ok (.if_icmp .ne 7, 3) := by decide +kernel
theorem d1_8_35 : decode method_2_code 35 = .ok (.iload_n 0, 1) := by decide +kernel
theorem d1_8_36 : decode method_2_code 36 = .ok (.iconst 4, 1) := by decide +kernel
theorem d1_8_37 : decode method_2_code 37 = .ok (.if_icmp .ne 7, 3) := by decide +kernel
theorem d1_8_44 : decode method_2_code 44 = .ok (.iload_n 0, 1) := by decide +kernel
theorem d1_8_45 : decode method_2_code 45 = .ok (.iconst 5, 1) := by decide +kernel
theorem d1_8_46 : decode method_2_code 46 = .ok (.if_icmp .ne 7, 3) := by decide +kernel
theorem d1_8_53 : decode method_2_code 53 = .ok (.iload_n 0, 1) := by decide +kernel
theorem d1_8_54 : decode method_2_code 54 = .ok (.bipush 6, 2) := by decide +kernel
theorem d1_8_56 : decode method_2_code 56 = .ok (.if_icmp .ne 7, 3) := by decide +kernel
theorem d1_8_63 : decode method_2_code 63 = .ok (.iload_n 0, 1) := by decide +kernel
theorem d1_8_64 : decode method_2_code 64 = .ok (.bipush 7, 2) := by decide +kernel
theorem d1_8_66 : decode method_2_code 66 = .ok (.if_icmp .ne 7, 3) := by decide +kernel
theorem d1_8_73 : decode method_2_code 73 = .ok (.iload_n 0, 1) := by decide +kernel
theorem d1_8_74 : decode method_2_code 74 = .ok (.bipush 8, 2) := by decide +kernel
theorem d1_8_76 : decode method_2_code 76 = .ok (.if_icmp .ne 7, 3) := by decide +kernel
theorem d1_8_79 : decode method_2_code 79 = .ok (.getstatic 34, 3) := by decide +kernel
theorem d1_8_82 : decode method_2_code 82 = .ok (.areturn, 1) := by decide +kernel
theorem ef_1_8 (m : MethodId) (x0 : Int32) : entryFrame m #[(.int x0)] 1 = mkF m 0 #[.val (.int x0)] [] := by first | (simp [entryFrame, mkF, argsToLocals, Value.category]; done) | rfl
def Q1_8 (Z : State) (a1 : Addr) (h0 : Heap) (n0 : Nat) (v : Option Value) (h : Heap) (L : List Loc) : Prop := v = some (.ref a1) ∧ Fr n0 L ∧ h = h0
set_option maxRecDepth 65536 in
set_option maxHeartbeats 40000000 in
theorem rm1_8 (l : Launch) (Z : State) (a0 : Array Value) (hw : ∀ d ∈ tables_1, d.before a0 Z = true) (ws : List Jvm.Cond) (a1 : Addr) (h0 : Heap) (n0 : Nat) (Z0 : n0 ≤ h0.size) (S1 : Sta Z h0 "com/example/cartulary/cartulary/codec/Operation" "ABANDON" "Lcom/example/cartulary/cartulary/codec/Operation;" (.ref a1)) :
    MetFree l (⟨"com/example/cartulary/cartulary/codec/OperationHasResponsePinLaw", "pick", "(I)Lcom/example/cartulary/cartulary/codec/Operation;"⟩ : MethodName) (head1 (Jvm.Cond.code (⟨"com/example/cartulary/cartulary/codec/OperationHasResponsePinLaw", "pick", "(I)Lcom/example/cartulary/cartulary/codec/Operation;"⟩ : MethodName) method_2_code 1 (some (.object "com/example/cartulary/cartulary/codec/Operation")) :: ws) ({ frames := 0, cells := 0, slots := 0, locals := 0 } : Room)) (fun a U => a = #[(.int (8 : Int32))] ∧ Z.Warmed39 U.vm ∧ U.heap = h0) (fun _ _ _ _ _ => True) (fun _ U o U' => ∃ v L, o = .returned v ∧ Q1_8 Z a1 h0 n0 v U'.heap L ∧ FrameEnd U o U' L ({ frames := 0, cells := 0, slots := 0, locals := 0 } : Room).cells ({ frames := 0, cells := 0, slots := 0, locals := 0 } : Room).slots) := by
  refine MetFree.of_bodySF (plainFor_of_name pn_com_example_cartulary_cartulary_codec_OperationHasResponsePinLaw) hisR ?_
  intro p e s m args below meth c s₁ Bd hml0 hP hK
  obtain ⟨rfl, hZ, hh⟩ := hP
  have hx := Bd.exec
  have hby := Bd.bytes
  have hlk : meth.locks = false := BodyLoose.notSynchronized Bd
  have hml : c.maxLocals = 1 := hml0
  have hown : s.vm.findClass "com/example/cartulary/cartulary/codec/OperationHasResponsePinLaw" = some m.cls := findClass_of_methodNamed Bd.named
  have hnm := (name_of_methodNamed Bd.named Bd.method).1
  have X0 : Stand p l e ({ frames := 0, cells := 0, slots := 0, locals := 0 } : Room) s m #[(.int (8 : Int32))] below meth c s₁ [] 0 0 := Stand.of_body Bd
  have e0 : s₁.heap = h0 := by rw [← hh, Bd.state]; rfl
  have N0 := Fr.nil n0
  show own_G p.tables e below s (Q1_8 Z a1 h0 n0) ({ frames := 0, cells := 0, slots := 0, locals := 0 } : Room).cells ({ frames := 0, cells := 0, slots := 0, locals := 0 } : Room).slots (s₁.setTop (entryFrame m #[(.int (8 : Int32))] 1))
  refine own_go (fun t k => castTop (ef_1_8 m (8 : Int32)) k) ?_
  show own_G p.tables e below s _ _ _ (s₁.setTop (mkF m 0 #[.val (.int (8 : Int32))] []))
  refine own_go (fun t k => XS.iloadN X0.here hx rfl (hb hby d1_8_0) rfl k) ?_
  show own_G p.tables e below s _ _ _ (s₁.setTop (mkF m 1 #[.val (.int (8 : Int32))] [(.int (8 : Int32))]))
  refine own_go (fun t k => XS.ifYes X0.here hx rfl (pc0 := 1) (pc' := 8) rfl (hb hby d1_8_1) rfl (by decide) (by decide) (by decide) k) ?_
  show own_G p.tables e below s _ _ _ (s₁.setTop (mkF m 8 #[.val (.int (8 : Int32))] []))
  refine own_go (fun t k => XS.iloadN X0.here hx rfl (hb hby d1_8_8) rfl k) ?_
  show own_G p.tables e below s _ _ _ (s₁.setTop (mkF m 9 #[.val (.int (8 : Int32))] [(.int (8 : Int32))]))
  refine own_go (fun t k => XS.iconst X0.here hx rfl (hb hby d1_8_9) k) ?_
  show own_G p.tables e below s _ _ _ (s₁.setTop (mkF m 10 #[.val (.int (8 : Int32))] [(.int (1 : Int32)), (.int (8 : Int32))]))
  refine own_go (fun t k => XS.icmpYes X0.here hx rfl (pc0 := 10) (pc' := 17) rfl (hb hby d1_8_10) rfl (by decide) (by decide) (by decide) k) ?_
  show own_G p.tables e below s _ _ _ (s₁.setTop (mkF m 17 #[.val (.int (8 : Int32))] []))
  refine own_go (fun t k => XS.iloadN X0.here hx rfl (hb hby d1_8_17) rfl k) ?_
  show own_G p.tables e below s _ _ _ (s₁.setTop (mkF m 18 #[.val (.int (8 : Int32))] [(.int (8 : Int32))]))
  refine own_go (fun t k => XS.iconst X0.here hx rfl (hb hby d1_8_18) k) ?_
  show own_G p.tables e below s _ _ _ (s₁.setTop (mkF m 19 #[.val (.int (8 : Int32))] [(.int (2 : Int32)), (.int (8 : Int32))]))
  refine own_go (fun t k => XS.icmpYes X0.here hx rfl (pc0 := 19) (pc' := 26) rfl (hb hby d1_8_19) rfl (by decide) (by decide) (by decide) k) ?_
  show own_G p.tables e below s _ _ _ (s₁.setTop (mkF m 26 #[.val (.int (8 : Int32))] []))
  refine own_go (fun t k => XS.iloadN X0.here hx rfl (hb hby d1_8_26) rfl k) ?_
  show own_G p.tables e below s _ _ _ (s₁.setTop (mkF m 27 #[.val (.int (8 : Int32))] [(.int (8 : Int32))]))
  refine own_go (fun t k => XS.iconst X0.here hx rfl (hb hby d1_8_27) k) ?_
  show own_G p.tables e below s _ _ _ (s₁.setTop (mkF m 28 #[.val (.int (8 : Int32))] [(.int (3 : Int32)), (.int (8 : Int32))]))
  refine own_go (fun t k => XS.icmpYes X0.here hx rfl (pc0 := 28) (pc' := 35) rfl (hb hby d1_8_28) rfl (by decide) (by decide) (by decide) k) ?_
  show own_G p.tables e below s _ _ _ (s₁.setTop (mkF m 35 #[.val (.int (8 : Int32))] []))
  refine own_go (fun t k => XS.iloadN X0.here hx rfl (hb hby d1_8_35) rfl k) ?_
  show own_G p.tables e below s _ _ _ (s₁.setTop (mkF m 36 #[.val (.int (8 : Int32))] [(.int (8 : Int32))]))
  refine own_go (fun t k => XS.iconst X0.here hx rfl (hb hby d1_8_36) k) ?_
  show own_G p.tables e below s _ _ _ (s₁.setTop (mkF m 37 #[.val (.int (8 : Int32))] [(.int (4 : Int32)), (.int (8 : Int32))]))
  refine own_go (fun t k => XS.icmpYes X0.here hx rfl (pc0 := 37) (pc' := 44) rfl (hb hby d1_8_37) rfl (by decide) (by decide) (by decide) k) ?_
  show own_G p.tables e below s _ _ _ (s₁.setTop (mkF m 44 #[.val (.int (8 : Int32))] []))
  refine own_go (fun t k => XS.iloadN X0.here hx rfl (hb hby d1_8_44) rfl k) ?_
  show own_G p.tables e below s _ _ _ (s₁.setTop (mkF m 45 #[.val (.int (8 : Int32))] [(.int (8 : Int32))]))
  refine own_go (fun t k => XS.iconst X0.here hx rfl (hb hby d1_8_45) k) ?_
  show own_G p.tables e below s _ _ _ (s₁.setTop (mkF m 46 #[.val (.int (8 : Int32))] [(.int (5 : Int32)), (.int (8 : Int32))]))
  refine own_go (fun t k => XS.icmpYes X0.here hx rfl (pc0 := 46) (pc' := 53) rfl (hb hby d1_8_46) rfl (by decide) (by decide) (by decide) k) ?_
  show own_G p.tables e below s _ _ _ (s₁.setTop (mkF m 53 #[.val (.int (8 : Int32))] []))
  refine own_go (fun t k => XS.iloadN X0.here hx rfl (hb hby d1_8_53) rfl k) ?_
  show own_G p.tables e below s _ _ _ (s₁.setTop (mkF m 54 #[.val (.int (8 : Int32))] [(.int (8 : Int32))]))
  refine own_go (fun t k => XS.bipush X0.here hx rfl (hb hby d1_8_54) k) ?_
  show own_G p.tables e below s _ _ _ (s₁.setTop (mkF m 56 #[.val (.int (8 : Int32))] [(.int (6 : Int32)), (.int (8 : Int32))]))
  refine own_go (fun t k => XS.icmpYes X0.here hx rfl (pc0 := 56) (pc' := 63) rfl (hb hby d1_8_56) rfl (by decide) (by decide) (by decide) k) ?_
  show own_G p.tables e below s _ _ _ (s₁.setTop (mkF m 63 #[.val (.int (8 : Int32))] []))
  refine own_go (fun t k => XS.iloadN X0.here hx rfl (hb hby d1_8_63) rfl k) ?_
  show own_G p.tables e below s _ _ _ (s₁.setTop (mkF m 64 #[.val (.int (8 : Int32))] [(.int (8 : Int32))]))
  refine own_go (fun t k => XS.bipush X0.here hx rfl (hb hby d1_8_64) k) ?_
  show own_G p.tables e below s _ _ _ (s₁.setTop (mkF m 66 #[.val (.int (8 : Int32))] [(.int (7 : Int32)), (.int (8 : Int32))]))
  refine own_go (fun t k => XS.icmpYes X0.here hx rfl (pc0 := 66) (pc' := 73) rfl (hb hby d1_8_66) rfl (by decide) (by decide) (by decide) k) ?_
  show own_G p.tables e below s _ _ _ (s₁.setTop (mkF m 73 #[.val (.int (8 : Int32))] []))
  refine own_go (fun t k => XS.iloadN X0.here hx rfl (hb hby d1_8_73) rfl k) ?_
  show own_G p.tables e below s _ _ _ (s₁.setTop (mkF m 74 #[.val (.int (8 : Int32))] [(.int (8 : Int32))]))
  refine own_go (fun t k => XS.bipush X0.here hx rfl (hb hby d1_8_74) k) ?_
  show own_G p.tables e below s _ _ _ (s₁.setTop (mkF m 76 #[.val (.int (8 : Int32))] [(.int (8 : Int32)), (.int (8 : Int32))]))
  refine own_go (fun t k => XS.icmpNo X0.here hx rfl (hb hby d1_8_76) rfl (by decide) k) ?_
  show own_G p.tables e below s _ _ _ (s₁.setTop (mkF m 79 #[.val (.int (8 : Int32))] []))
  obtain ⟨T9, X9, e9, st9⟩ := getS X0 hx hZ hown (host := "") (hw _ (List.mem_of_getElem? (i := 25) rfl)) Via.refl e0 S1 (g := (mkF m 79 #[.val (.int (8 : Int32))] [])) rfl (hb hby d1_8_79)
  refine own_go st9 ?_
  show own_G p.tables e below s _ _ _ (T9.setTop (mkF m 82 #[.val (.int (8 : Int32))] [(.ref a1)]))
  exact own_retA X9 hx hlk Bd.returns rfl rfl (hb hby d1_8_82) (by rw [e9]; exact ⟨rfl, N0, rfl⟩) (by decide) (by decide)
theorem d1_9_0 : decode method_2_code 0 = .ok (.iload_n 0, 1) := by decide +kernel
theorem d1_9_1 : decode method_2_code 1 = .ok (.ifCond .ne 7, 3) := by decide +kernel
theorem d1_9_8 : decode method_2_code 8 = .ok (.iload_n 0, 1) := by decide +kernel
theorem d1_9_9 : decode method_2_code 9 = .ok (.iconst 1, 1) := by decide +kernel
theorem d1_9_10 : decode method_2_code 10 = .ok (.if_icmp .ne 7, 3) := by decide +kernel
theorem d1_9_17 : decode method_2_code 17 = .ok (.iload_n 0, 1) := by decide +kernel
theorem d1_9_18 : decode method_2_code 18 = .ok (.iconst 2, 1) := by decide +kernel
theorem d1_9_19 : decode method_2_code 19 = .ok (.if_icmp .ne 7, 3) := by decide +kernel
theorem d1_9_26 : decode method_2_code 26 = .ok (.iload_n 0, 1) := by decide +kernel
theorem d1_9_27 : decode method_2_code 27 = .ok (.iconst 3, 1) := by decide +kernel
theorem d1_9_28 : decode method_2_code 28 = .ok (.if_icmp .ne 7, 3) := by decide +kernel
theorem d1_9_35 : decode method_2_code 35 = .ok (.iload_n 0, 1) := by decide +kernel
theorem d1_9_36 : decode method_2_code 36 = .ok (.iconst 4, 1) := by decide +kernel
theorem d1_9_37 : decode method_2_code 37 = .ok (.if_icmp .ne 7, 3) := by decide +kernel
theorem d1_9_44 : decode method_2_code 44 = .ok (.iload_n 0, 1) := by decide +kernel
theorem d1_9_45 : decode method_2_code 45 = .ok (.iconst 5, 1) := by decide +kernel
theorem d1_9_46 : decode method_2_code 46 = .ok (.if_icmp .ne 7, 3) := by decide +kernel
theorem d1_9_53 : decode method_2_code 53 = .ok (.iload_n 0, 1) := by decide +kernel
theorem d1_9_54 : decode method_2_code 54 = .ok (.bipush 6, 2) := by decide +kernel
theorem d1_9_56 : decode method_2_code 56 = .ok (.if_icmp .ne 7, 3) := by decide +kernel
theorem d1_9_63 : decode method_2_code 63 = .ok (.iload_n 0, 1) := by decide +kernel
theorem d1_9_64 : decode method_2_code 64 = .ok (.bipush 7, 2) := by decide +kernel
theorem d1_9_66 : decode method_2_code 66 = .ok (.if_icmp .ne 7, 3) := by decide +kernel
theorem d1_9_73 : decode method_2_code 73 = .ok (.iload_n 0, 1) := by decide +kernel
theorem d1_9_74 : decode method_2_code 74 = .ok (.bipush 8, 2) := by decide +kernel
theorem d1_9_76 : decode method_2_code 76 = .ok (.if_icmp .ne 7, 3) := by decide +kernel
theorem d1_9_83 : decode method_2_code 83 = .ok (.getstatic 37, 3) := by decide +kernel
theorem d1_9_86 : decode method_2_code 86 = .ok (.areturn, 1) := by decide +kernel
theorem ef_1_9 (m : MethodId) (x0 : Int32) : entryFrame m #[(.int x0)] 1 = mkF m 0 #[.val (.int x0)] [] := by first | (simp [entryFrame, mkF, argsToLocals, Value.category]; done) | rfl
def Q1_9 (Z : State) (a1 : Addr) (h0 : Heap) (n0 : Nat) (v : Option Value) (h : Heap) (L : List Loc) : Prop := v = some (.ref a1) ∧ Fr n0 L ∧ h = h0
set_option maxRecDepth 65536 in
set_option maxHeartbeats 40000000 in
theorem rm1_9 (l : Launch) (Z : State) (a0 : Array Value) (hw : ∀ d ∈ tables_1, d.before a0 Z = true) (ws : List Jvm.Cond) (a1 : Addr) (h0 : Heap) (n0 : Nat) (Z0 : n0 ≤ h0.size) (S1 : Sta Z h0 "com/example/cartulary/cartulary/codec/Operation" "EXTENDED" "Lcom/example/cartulary/cartulary/codec/Operation;" (.ref a1)) :
    MetFree l (⟨"com/example/cartulary/cartulary/codec/OperationHasResponsePinLaw", "pick", "(I)Lcom/example/cartulary/cartulary/codec/Operation;"⟩ : MethodName) (head1 (Jvm.Cond.code (⟨"com/example/cartulary/cartulary/codec/OperationHasResponsePinLaw", "pick", "(I)Lcom/example/cartulary/cartulary/codec/Operation;"⟩ : MethodName) method_2_code 1 (some (.object "com/example/cartulary/cartulary/codec/Operation")) :: ws) ({ frames := 0, cells := 0, slots := 0, locals := 0 } : Room)) (fun a U => a = #[(.int (9 : Int32))] ∧ Z.Warmed39 U.vm ∧ U.heap = h0) (fun _ _ _ _ _ => True) (fun _ U o U' => ∃ v L, o = .returned v ∧ Q1_9 Z a1 h0 n0 v U'.heap L ∧ FrameEnd U o U' L ({ frames := 0, cells := 0, slots := 0, locals := 0 } : Room).cells ({ frames := 0, cells := 0, slots := 0, locals := 0 } : Room).slots) := by
  refine MetFree.of_bodySF (plainFor_of_name pn_com_example_cartulary_cartulary_codec_OperationHasResponsePinLaw) hisR ?_
  intro p e s m args below meth c s₁ Bd hml0 hP hK
  obtain ⟨rfl, hZ, hh⟩ := hP
  have hx := Bd.exec
  have hby := Bd.bytes
  have hlk : meth.locks = false := BodyLoose.notSynchronized Bd
  have hml : c.maxLocals = 1 := hml0
  have hown : s.vm.findClass "com/example/cartulary/cartulary/codec/OperationHasResponsePinLaw" = some m.cls := findClass_of_methodNamed Bd.named
  have hnm := (name_of_methodNamed Bd.named Bd.method).1
  have X0 : Stand p l e ({ frames := 0, cells := 0, slots := 0, locals := 0 } : Room) s m #[(.int (9 : Int32))] below meth c s₁ [] 0 0 := Stand.of_body Bd
  have e0 : s₁.heap = h0 := by rw [← hh, Bd.state]; rfl
  have N0 := Fr.nil n0
  show own_G p.tables e below s (Q1_9 Z a1 h0 n0) ({ frames := 0, cells := 0, slots := 0, locals := 0 } : Room).cells ({ frames := 0, cells := 0, slots := 0, locals := 0 } : Room).slots (s₁.setTop (entryFrame m #[(.int (9 : Int32))] 1))
  refine own_go (fun t k => castTop (ef_1_9 m (9 : Int32)) k) ?_
  show own_G p.tables e below s _ _ _ (s₁.setTop (mkF m 0 #[.val (.int (9 : Int32))] []))
  refine own_go (fun t k => XS.iloadN X0.here hx rfl (hb hby d1_9_0) rfl k) ?_
  show own_G p.tables e below s _ _ _ (s₁.setTop (mkF m 1 #[.val (.int (9 : Int32))] [(.int (9 : Int32))]))
  refine own_go (fun t k => XS.ifYes X0.here hx rfl (pc0 := 1) (pc' := 8) rfl (hb hby d1_9_1) rfl (by decide) (by decide) (by decide) k) ?_
  show own_G p.tables e below s _ _ _ (s₁.setTop (mkF m 8 #[.val (.int (9 : Int32))] []))
  refine own_go (fun t k => XS.iloadN X0.here hx rfl (hb hby d1_9_8) rfl k) ?_
  show own_G p.tables e below s _ _ _ (s₁.setTop (mkF m 9 #[.val (.int (9 : Int32))] [(.int (9 : Int32))]))
  refine own_go (fun t k => XS.iconst X0.here hx rfl (hb hby d1_9_9) k) ?_
  show own_G p.tables e below s _ _ _ (s₁.setTop (mkF m 10 #[.val (.int (9 : Int32))] [(.int (1 : Int32)), (.int (9 : Int32))]))
  refine own_go (fun t k => XS.icmpYes X0.here hx rfl (pc0 := 10) (pc' := 17) rfl (hb hby d1_9_10) rfl (by decide) (by decide) (by decide) k) ?_
  show own_G p.tables e below s _ _ _ (s₁.setTop (mkF m 17 #[.val (.int (9 : Int32))] []))
  refine own_go (fun t k => XS.iloadN X0.here hx rfl (hb hby d1_9_17) rfl k) ?_
  show own_G p.tables e below s _ _ _ (s₁.setTop (mkF m 18 #[.val (.int (9 : Int32))] [(.int (9 : Int32))]))
  refine own_go (fun t k => XS.iconst X0.here hx rfl (hb hby d1_9_18) k) ?_
  show own_G p.tables e below s _ _ _ (s₁.setTop (mkF m 19 #[.val (.int (9 : Int32))] [(.int (2 : Int32)), (.int (9 : Int32))]))
  refine own_go (fun t k => XS.icmpYes X0.here hx rfl (pc0 := 19) (pc' := 26) rfl (hb hby d1_9_19) rfl (by decide) (by decide) (by decide) k) ?_
  show own_G p.tables e below s _ _ _ (s₁.setTop (mkF m 26 #[.val (.int (9 : Int32))] []))
  refine own_go (fun t k => XS.iloadN X0.here hx rfl (hb hby d1_9_26) rfl k) ?_
  show own_G p.tables e below s _ _ _ (s₁.setTop (mkF m 27 #[.val (.int (9 : Int32))] [(.int (9 : Int32))]))
  refine own_go (fun t k => XS.iconst X0.here hx rfl (hb hby d1_9_27) k) ?_
  show own_G p.tables e below s _ _ _ (s₁.setTop (mkF m 28 #[.val (.int (9 : Int32))] [(.int (3 : Int32)), (.int (9 : Int32))]))
  refine own_go (fun t k => XS.icmpYes X0.here hx rfl (pc0 := 28) (pc' := 35) rfl (hb hby d1_9_28) rfl (by decide) (by decide) (by decide) k) ?_
  show own_G p.tables e below s _ _ _ (s₁.setTop (mkF m 35 #[.val (.int (9 : Int32))] []))
  refine own_go (fun t k => XS.iloadN X0.here hx rfl (hb hby d1_9_35) rfl k) ?_
  show own_G p.tables e below s _ _ _ (s₁.setTop (mkF m 36 #[.val (.int (9 : Int32))] [(.int (9 : Int32))]))
  refine own_go (fun t k => XS.iconst X0.here hx rfl (hb hby d1_9_36) k) ?_
  show own_G p.tables e below s _ _ _ (s₁.setTop (mkF m 37 #[.val (.int (9 : Int32))] [(.int (4 : Int32)), (.int (9 : Int32))]))
  refine own_go (fun t k => XS.icmpYes X0.here hx rfl (pc0 := 37) (pc' := 44) rfl (hb hby d1_9_37) rfl (by decide) (by decide) (by decide) k) ?_
  show own_G p.tables e below s _ _ _ (s₁.setTop (mkF m 44 #[.val (.int (9 : Int32))] []))
  refine own_go (fun t k => XS.iloadN X0.here hx rfl (hb hby d1_9_44) rfl k) ?_
  show own_G p.tables e below s _ _ _ (s₁.setTop (mkF m 45 #[.val (.int (9 : Int32))] [(.int (9 : Int32))]))
  refine own_go (fun t k => XS.iconst X0.here hx rfl (hb hby d1_9_45) k) ?_
  show own_G p.tables e below s _ _ _ (s₁.setTop (mkF m 46 #[.val (.int (9 : Int32))] [(.int (5 : Int32)), (.int (9 : Int32))]))
  refine own_go (fun t k => XS.icmpYes X0.here hx rfl (pc0 := 46) (pc' := 53) rfl (hb hby d1_9_46) rfl (by decide) (by decide) (by decide) k) ?_
  show own_G p.tables e below s _ _ _ (s₁.setTop (mkF m 53 #[.val (.int (9 : Int32))] []))
  refine own_go (fun t k => XS.iloadN X0.here hx rfl (hb hby d1_9_53) rfl k) ?_
  show own_G p.tables e below s _ _ _ (s₁.setTop (mkF m 54 #[.val (.int (9 : Int32))] [(.int (9 : Int32))]))
  refine own_go (fun t k => XS.bipush X0.here hx rfl (hb hby d1_9_54) k) ?_
  show own_G p.tables e below s _ _ _ (s₁.setTop (mkF m 56 #[.val (.int (9 : Int32))] [(.int (6 : Int32)), (.int (9 : Int32))]))
  refine own_go (fun t k => XS.icmpYes X0.here hx rfl (pc0 := 56) (pc' := 63) rfl (hb hby d1_9_56) rfl (by decide) (by decide) (by decide) k) ?_
  show own_G p.tables e below s _ _ _ (s₁.setTop (mkF m 63 #[.val (.int (9 : Int32))] []))
  refine own_go (fun t k => XS.iloadN X0.here hx rfl (hb hby d1_9_63) rfl k) ?_
  show own_G p.tables e below s _ _ _ (s₁.setTop (mkF m 64 #[.val (.int (9 : Int32))] [(.int (9 : Int32))]))
  refine own_go (fun t k => XS.bipush X0.here hx rfl (hb hby d1_9_64) k) ?_
  show own_G p.tables e below s _ _ _ (s₁.setTop (mkF m 66 #[.val (.int (9 : Int32))] [(.int (7 : Int32)), (.int (9 : Int32))]))
  refine own_go (fun t k => XS.icmpYes X0.here hx rfl (pc0 := 66) (pc' := 73) rfl (hb hby d1_9_66) rfl (by decide) (by decide) (by decide) k) ?_
  show own_G p.tables e below s _ _ _ (s₁.setTop (mkF m 73 #[.val (.int (9 : Int32))] []))
  refine own_go (fun t k => XS.iloadN X0.here hx rfl (hb hby d1_9_73) rfl k) ?_
  show own_G p.tables e below s _ _ _ (s₁.setTop (mkF m 74 #[.val (.int (9 : Int32))] [(.int (9 : Int32))]))
  refine own_go (fun t k => XS.bipush X0.here hx rfl (hb hby d1_9_74) k) ?_
  show own_G p.tables e below s _ _ _ (s₁.setTop (mkF m 76 #[.val (.int (9 : Int32))] [(.int (8 : Int32)), (.int (9 : Int32))]))
  refine own_go (fun t k => XS.icmpYes X0.here hx rfl (pc0 := 76) (pc' := 83) rfl (hb hby d1_9_76) rfl (by decide) (by decide) (by decide) k) ?_
  show own_G p.tables e below s _ _ _ (s₁.setTop (mkF m 83 #[.val (.int (9 : Int32))] []))
  obtain ⟨T10, X10, e10, st10⟩ := getS X0 hx hZ hown (host := "") (hw _ (List.mem_of_getElem? (i := 27) rfl)) Via.refl e0 S1 (g := (mkF m 83 #[.val (.int (9 : Int32))] [])) rfl (hb hby d1_9_83)
  refine own_go st10 ?_
  show own_G p.tables e below s _ _ _ (T10.setTop (mkF m 86 #[.val (.int (9 : Int32))] [(.ref a1)]))
  exact own_retA X10 hx hlk Bd.returns rfl rfl (hb hby d1_9_86) (by rw [e10]; exact ⟨rfl, N0, rfl⟩) (by decide) (by decide)
theorem d2_0 : decode prog_12_method_6_code 0 = .ok (.aload_n 0, 1) := by decide +kernel
theorem d2_1 : decode prog_12_method_6_code 1 = .ok (.getfield 61, 3) := by decide +kernel
theorem d2_4 : decode prog_12_method_6_code 4 = .ok (.iconst (-1), 1) := by decide +kernel
theorem d2_5 : decode prog_12_method_6_code 5 = .ok (.if_icmp .eq 7, 3) := by decide +kernel
theorem d2_12 : decode prog_12_method_6_code 12 = .ok (.iconst 0, 1) := by decide +kernel
theorem d2_13 : decode prog_12_method_6_code 13 = .ok (.ireturn, 1) := by decide +kernel
theorem d2_8 : decode prog_12_method_6_code 8 = .ok (.iconst 1, 1) := by decide +kernel
theorem d2_9 : decode prog_12_method_6_code 9 = .ok (.goto 4, 3) := by decide +kernel
theorem pn_com_example_cartulary_cartulary_codec_Operation : plainName "com/example/cartulary/cartulary/codec/Operation" = true := by first | (simp [plainName, overriddenIn]; done) | decide +kernel
theorem ef_2 (m : MethodId) (x0 : Addr) : entryFrame m #[(.ref x0)] 1 = mkF m 0 #[.val (.ref x0)] [] := by first | (simp [entryFrame, mkF, argsToLocals, Value.category]; done) | rfl
def Q2 (Z : State) (a1 : Addr) (w2 r : Int32) (h0 : Heap) (n0 : Nat) (v : Option Value) (h : Heap) (L : List Loc) : Prop := v = some (.int r) ∧ Fr n0 L ∧ h = h0
set_option maxRecDepth 65536 in
set_option maxHeartbeats 40000000 in
theorem rm2 (l : Launch) (Z : State) (a0 : Array Value) (hw : ∀ d ∈ tables_1, d.before a0 Z = true) (ws : List Jvm.Cond) (a1 : Addr) (w2 r : Int32) (h0 : Heap) (n0 : Nat) (Z0 : n0 ≤ h0.size) (F1 : Fld Z h0 a1 "com/example/cartulary/cartulary/codec/Operation" "responseTag" "I" (.int w2)) (hr : (if w2 = (-1 : Int32) then (0 : Int32) else 1) = r) :
    MetFree l (⟨"com/example/cartulary/cartulary/codec/Operation", "hasResponse", "()Z"⟩ : MethodName) (head1 (Jvm.Cond.code (⟨"com/example/cartulary/cartulary/codec/Operation", "hasResponse", "()Z"⟩ : MethodName) prog_12_method_6_code 1 (some .boolean) :: ws) ({ frames := 0, cells := 0, slots := 0, locals := 0 } : Room)) (fun a U => a = #[(.ref a1)] ∧ Z.Warmed39 U.vm ∧ U.heap = h0) (fun _ _ _ _ _ => True) (fun _ U o U' => ∃ v L, o = .returned v ∧ Q2 Z a1 w2 r h0 n0 v U'.heap L ∧ FrameEnd U o U' L ({ frames := 0, cells := 0, slots := 0, locals := 0 } : Room).cells ({ frames := 0, cells := 0, slots := 0, locals := 0 } : Room).slots) := by
  refine MetFree.of_bodySF (plainFor_of_name pn_com_example_cartulary_cartulary_codec_Operation) hisR ?_
  intro p e s m args below meth c s₁ Bd hml0 hP hK
  obtain ⟨rfl, hZ, hh⟩ := hP
  have hx := Bd.exec
  have hby := Bd.bytes
  have hlk : meth.locks = false := BodyLoose.notSynchronized Bd
  have hml : c.maxLocals = 1 := hml0
  have hown : s.vm.findClass "com/example/cartulary/cartulary/codec/Operation" = some m.cls := findClass_of_methodNamed Bd.named
  have hnm := (name_of_methodNamed Bd.named Bd.method).1
  have X0 : Stand p l e ({ frames := 0, cells := 0, slots := 0, locals := 0 } : Room) s m #[(.ref a1)] below meth c s₁ [] 0 0 := Stand.of_body Bd
  have e0 : s₁.heap = h0 := by rw [← hh, Bd.state]; rfl
  have N0 := Fr.nil n0
  show own_G p.tables e below s (Q2 Z a1 w2 r h0 n0) ({ frames := 0, cells := 0, slots := 0, locals := 0 } : Room).cells ({ frames := 0, cells := 0, slots := 0, locals := 0 } : Room).slots (s₁.setTop (entryFrame m #[(.ref a1)] 1))
  refine own_go (fun t k => castTop (ef_2 m a1) k) ?_
  show own_G p.tables e below s _ _ _ (s₁.setTop (mkF m 0 #[.val (.ref a1)] []))
  refine own_go (fun t k => XS.aloadN X0.here hx rfl (hb hby d2_0) rfl rfl k) ?_
  show own_G p.tables e below s _ _ _ (s₁.setTop (mkF m 1 #[.val (.ref a1)] [(.ref a1)]))
  obtain ⟨T11, X11, e11, st11⟩ := getF X0 hx hZ hown (host := "") (Or.inl (hw _ (List.mem_of_getElem? (i := 13) rfl))) Via.refl e0 F1 (g := (mkF m 1 #[.val (.ref a1)] [(.ref a1)])) rfl rfl (hb hby d2_1)
  refine own_go st11 ?_
  show own_G p.tables e below s _ _ _ (T11.setTop (mkF m 4 #[.val (.ref a1)] [(.int w2)]))
  refine own_go (fun t k => XS.iconst X11.here hx rfl (hb hby d2_4) k) ?_
  show own_G p.tables e below s _ _ _ (T11.setTop (mkF m 5 #[.val (.ref a1)] [(.int (-1 : Int32)), (.int w2)]))
  by_cases h5 : w2 = (-1 : Int32)
  · refine own_go (fun t k => XS.icmpYes X11.here hx rfl (pc0 := 5) (pc' := 12) rfl (hb hby d2_5) rfl (Jvm.Free.XT.ii_eq_t h5) (by decide) (by decide) k) ?_
    show own_G p.tables e below s _ _ _ (T11.setTop (mkF m 12 #[.val (.ref a1)] []))
    refine own_go (fun t k => XS.iconst X11.here hx rfl (hb hby d2_12) k) ?_
    show own_G p.tables e below s _ _ _ (T11.setTop (mkF m 13 #[.val (.ref a1)] [(.int (0 : Int32))]))
    exact own_retN X11 hx hlk (t := .boolean) (z' := (0 : Int32)) Bd.returns (by simp) (hb hby d2_13) (rfl) (by rw [e11]; exact ⟨by rw [← hr, if_pos h5], N0, rfl⟩) (by decide) (by decide)
  · refine own_go (fun t k => XS.icmpNo X11.here hx rfl (hb hby d2_5) rfl (Jvm.Free.XT.ii_eq_f h5) k) ?_
    show own_G p.tables e below s _ _ _ (T11.setTop (mkF m 8 #[.val (.ref a1)] []))
    refine own_go (fun t k => XS.iconst X11.here hx rfl (hb hby d2_8) k) ?_
    show own_G p.tables e below s _ _ _ (T11.setTop (mkF m 9 #[.val (.ref a1)] [(.int (1 : Int32))]))
    refine own_go (fun t k => XS.goto X11.here hx rfl (pc0 := 9) (pc' := 13) rfl (hb hby d2_9) (by decide) (by decide) k) ?_
    show own_G p.tables e below s _ _ _ (T11.setTop (mkF m 13 #[.val (.ref a1)] [(.int (1 : Int32))]))
    exact own_retN X11 hx hlk (t := .boolean) (z' := (1 : Int32)) Bd.returns (by simp) (hb hby d2_13) (rfl) (by rw [e11]; exact ⟨by rw [← hr, if_neg h5], N0, rfl⟩) (by decide) (by decide)
theorem pd__I_Lcom_example_cartulary_cartulary_codec_Operation_ : parseMethodDescriptor "(I)Lcom/example/cartulary/cartulary/codec/Operation;" = some ⟨[.int], some (.object "com/example/cartulary/cartulary/codec/Operation")⟩ := by decide +kernel
theorem pd___Z : parseMethodDescriptor "()Z" = some ⟨[], some .boolean⟩ := by decide +kernel
theorem ef_0 (m : MethodId) (x0 : Int32) : entryFrame m #[(.int x0)] maxLocals = mkF m 0 #[.val (.int x0), .unset, .unset, .unset] [] := by first | (simp [entryFrame, mkF, argsToLocals, Value.category, maxLocals]; done) | rfl
def Q0 (Z : State) (p1 : Int32) (h0 : Heap) (n0 : Nat) (v : Option Value) (h : Heap) (L : List Loc) : Prop := v = some (.int 1) ∧ Fr n0 L
set_option maxRecDepth 65536 in
set_option maxHeartbeats 40000000 in
theorem rm0 (l : Launch) (Z : State) (a0 : Array Value) (hw : ∀ d ∈ tables_1, d.before a0 Z = true) (ws : List Jvm.Cond) (p1 : Int32) (h0 : Heap) (n0 : Nat) (Z0 : n0 ≤ h0.size) (K0 : own_K Z h0 "BIND" (97 : Int32)) (K1 : own_K Z h0 "UNBIND" (-1 : Int32)) (K2 : own_K Z h0 "SEARCH" (101 : Int32)) (K3 : own_K Z h0 "MODIFY" (103 : Int32)) (K4 : own_K Z h0 "ADD" (105 : Int32)) (K5 : own_K Z h0 "DELETE" (107 : Int32)) (K6 : own_K Z h0 "MODIFY_DN" (109 : Int32)) (K7 : own_K Z h0 "COMPARE" (111 : Int32)) (K8 : own_K Z h0 "ABANDON" (-1 : Int32)) (K9 : own_K Z h0 "EXTENDED" (120 : Int32)) :
    MetFree l x (head1 (Jvm.Cond.code x code maxLocals ret :: ws) room_1) (fun a U => a = #[(.int p1)] ∧ Z.Warmed39 U.vm ∧ U.heap = h0) (fun _ _ _ _ _ => True) (fun _ U o U' => ∃ v L, o = .returned v ∧ Q0 Z p1 h0 n0 v U'.heap L ∧ FrameEnd U o U' L room_1.cells room_1.slots) := by
  refine MetFree.of_bodySF (plainFor_of_name pn_com_example_cartulary_cartulary_codec_OperationHasResponsePinLaw) hisR ?_
  intro p e s m args below meth c s₁ Bd hml0 hP hK
  obtain ⟨rfl, hZ, hh⟩ := hP
  have hx := Bd.exec
  have hby := Bd.bytes
  have hlk : meth.locks = false := BodyLoose.notSynchronized Bd
  have hml : c.maxLocals = 4 := hml0
  have hown : s.vm.findClass "com/example/cartulary/cartulary/codec/OperationHasResponsePinLaw" = some m.cls := findClass_of_methodNamed Bd.named
  have hnm := (name_of_methodNamed Bd.named Bd.method).1
  have X0 : Stand p l e room_1 s m #[(.int p1)] below meth c s₁ [] 0 0 := Stand.of_body Bd
  have e0 : s₁.heap = h0 := by rw [← hh, Bd.state]; rfl
  have N0 := Fr.nil n0
  show own_G p.tables e below s (Q0 Z p1 h0 n0) room_1.cells room_1.slots (s₁.setTop (entryFrame m #[(.int p1)] maxLocals))
  refine own_go (fun t k => castTop (ef_0 m p1) k) ?_
  show own_G p.tables e below s _ _ _ (s₁.setTop (mkF m 0 #[.val (.int p1), .unset, .unset, .unset] []))
  refine own_go (fun t k => XS.iloadN X0.here hx rfl (hb hby at_0) rfl k) ?_
  show own_G p.tables e below s _ _ _ (s₁.setTop (mkF m 1 #[.val (.int p1), .unset, .unset, .unset] [(.int p1)]))
  refine own_go (fun t k => X0.ldcInt hx hown (mvT hZ (hw _ (List.mem_of_getElem? (i := 0) rfl))) (g := (mkF m 1 #[.val (.int p1), .unset, .unset, .unset] [(.int p1)])) rfl (hb hby at_1) _ k) ?_
  show own_G p.tables e below s _ _ _ (s₁.setTop (mkF m 3 #[.val (.int p1), .unset, .unset, .unset] [(.int (2147483647 : Int32)), (.int p1)]))
  refine own_go (fun t k => XS.iand X0.here hx rfl (hb hby at_3) rfl k) ?_
  show own_G p.tables e below s _ _ _ (s₁.setTop (mkF m 4 #[.val (.int p1), .unset, .unset, .unset] [(.int (p1 &&& (2147483647 : Int32)))]))
  refine own_go (fun t k => XS.bipush X0.here hx rfl (hb hby at_4) k) ?_
  show own_G p.tables e below s _ _ _ (s₁.setTop (mkF m 6 #[.val (.int p1), .unset, .unset, .unset] [(.int (10 : Int32)), (.int (p1 &&& (2147483647 : Int32)))]))
  refine own_go (fun t k => iremM X0 hx rfl (hb hby at_6) rfl (by decide) k) ?_
  show own_G p.tables e below s _ _ _ (s₁.setTop (mkF m 7 #[.val (.int p1), .unset, .unset, .unset] [(.int ((p1 &&& (2147483647 : Int32)) % (10 : Int32)))]))
  rcases own_ten p1 with hk | hk | hk | hk | hk | hk | hk | hk | hk | hk
  · rw [hk]
    show own_G p.tables e below s _ _ _ (s₁.setTop (mkF m 7 #[.val (.int p1), .unset, .unset, .unset] [(.int (0 : Int32))]))
    obtain ⟨a, Sa, Ea, Fa⟩ := K0
    refine own_go (fun t k => XS.istoreN X0.here hx rfl (hb hby at_7) rfl (l' := #[.val (.int p1), .val (.int (0 : Int32)), .unset, .unset]) rfl k) ?_
    show own_G p.tables e below s _ _ _ (s₁.setTop (mkF m 8 #[.val (.int p1), .val (.int (0 : Int32)), .unset, .unset] []))
    refine own_go (fun t k => XS.iloadN X0.here hx rfl (hb hby at_8) rfl k) ?_
    show own_G p.tables e below s _ _ _ (s₁.setTop (mkF m 9 #[.val (.int p1), .val (.int (0 : Int32)), .unset, .unset] [(.int (0 : Int32))]))
    obtain ⟨_, _, ⟨T12, L12, k12, n12⟩, -, X12, ⟨Lc12, hQ12, l12, y12, z12⟩, st12⟩ := Jvm.LawKit.callS X0 hx (y := (⟨"com/example/cartulary/cartulary/codec/OperationHasResponsePinLaw", "pick", "(I)Lcom/example/cartulary/cartulary/codec/Operation;"⟩ : MethodName)) hown (mvT hZ (hw _ (List.mem_of_getElem? (i := 1) rfl))) (mvT hZ (hw _ (List.mem_of_getElem? (i := 2) rfl))) (mvT hZ (hw _ (List.mem_of_getElem? (i := 3) rfl))) (mvT hZ (hw _ (List.mem_of_getElem? (i := 4) rfl))) (by decide) (backOf (W := 0) (rm1_0 l Z a0 hw [] a h0 n0 Z0 Sa) hZ (hw _ (List.mem_of_getElem? (i := 4) rfl)) (hw _ (List.mem_of_getElem? (i := 3) rfl)) (by decide) (by decide)) (g := (mkF m 9 #[.val (.int p1), .val (.int (0 : Int32)), .unset, .unset] [(.int (0 : Int32))])) rfl (by rw [hml]; rfl) (argsL := [(.int (0 : Int32))]) (rest := []) (lenOf pd__I_Lcom_example_cartulary_cartulary_codec_Operation_ rfl) rfl (by show 2 * 0 + _ ≤ _; exact Nat.le_of_eq rfl) (hb hby at_9) (fun _ _ => ⟨rfl, e0, (by decide : 0 + 0 ≤ _), (by decide : 0 + 0 ≤ _)⟩)
    dsimp only [Pt.U, Pt.locs, Pt.cells, Pt.slots] at X12 l12 y12 z12 st12 hQ12
    subst l12 y12 z12
    obtain ⟨rfl, N12q, hh12⟩ := hQ12
    have N12 := Fr.app N0 N12q
    refine own_go st12 ?_
    show own_G p.tables e below s _ _ _ (T12.setTop (mkF m 12 #[.val (.int p1), .val (.int (0 : Int32)), .unset, .unset] [(.ref a)]))
    refine own_go (fun t k => XS.astoreN X12.here hx rfl (hb hby at_12) rfl rfl (l' := #[.val (.int p1), .val (.int (0 : Int32)), .val (.ref a), .unset]) rfl k) ?_
    show own_G p.tables e below s _ _ _ (T12.setTop (mkF m 13 #[.val (.int p1), .val (.int (0 : Int32)), .val (.ref a), .unset] []))
    refine own_go (fun t k => XS.iloadN X12.here hx rfl (hb hby at_13) rfl k) ?_
    show own_G p.tables e below s _ _ _ (T12.setTop (mkF m 14 #[.val (.int p1), .val (.int (0 : Int32)), .val (.ref a), .unset] [(.int (0 : Int32))]))
    refine own_go (fun t k => XS.iconst X12.here hx rfl (hb hby at_14) k) ?_
    show own_G p.tables e below s _ _ _ (T12.setTop (mkF m 15 #[.val (.int p1), .val (.int (0 : Int32)), .val (.ref a), .unset] [(.int (1 : Int32)), (.int (0 : Int32))]))
    refine own_go (fun t k => XS.icmpNo X12.here hx rfl (hb hby at_15) rfl (by decide) k) ?_
    show own_G p.tables e below s _ _ _ (T12.setTop (mkF m 18 #[.val (.int p1), .val (.int (0 : Int32)), .val (.ref a), .unset] []))
    refine own_go (fun t k => XS.iloadN X12.here hx rfl (hb hby at_18) rfl k) ?_
    show own_G p.tables e below s _ _ _ (T12.setTop (mkF m 19 #[.val (.int p1), .val (.int (0 : Int32)), .val (.ref a), .unset] [(.int (0 : Int32))]))
    refine own_go (fun t k => XS.bipush X12.here hx rfl (hb hby at_19) k) ?_
    show own_G p.tables e below s _ _ _ (T12.setTop (mkF m 21 #[.val (.int p1), .val (.int (0 : Int32)), .val (.ref a), .unset] [(.int (8 : Int32)), (.int (0 : Int32))]))
    refine own_go (fun t k => XS.icmpNo X12.here hx rfl (hb hby at_21) rfl (by decide) k) ?_
    show own_G p.tables e below s _ _ _ (T12.setTop (mkF m 24 #[.val (.int p1), .val (.int (0 : Int32)), .val (.ref a), .unset] []))
    refine own_go (fun t k => XS.iconst X12.here hx rfl (hb hby at_24) k) ?_
    show own_G p.tables e below s _ _ _ (T12.setTop (mkF m 25 #[.val (.int p1), .val (.int (0 : Int32)), .val (.ref a), .unset] [(.int (1 : Int32))]))
    refine own_go (fun t k => XS.goto X12.here hx rfl (pc0 := 25) (pc' := 29) rfl (hb hby at_25) (by decide) (by decide) k) ?_
    show own_G p.tables e below s _ _ _ (T12.setTop (mkF m 29 #[.val (.int p1), .val (.int (0 : Int32)), .val (.ref a), .unset] [(.int (1 : Int32))]))
    refine own_go (fun t k => XS.istoreN X12.here hx rfl (hb hby at_29) rfl (l' := #[.val (.int p1), .val (.int (0 : Int32)), .val (.ref a), .val (.int (1 : Int32))]) rfl k) ?_
    show own_G p.tables e below s _ _ _ (T12.setTop (mkF m 30 #[.val (.int p1), .val (.int (0 : Int32)), .val (.ref a), .val (.int (1 : Int32))] []))
    refine own_go (fun t k => XS.aloadN X12.here hx rfl (hb hby at_30) rfl rfl k) ?_
    show own_G p.tables e below s _ _ _ (T12.setTop (mkF m 31 #[.val (.int p1), .val (.int (0 : Int32)), .val (.ref a), .val (.int (1 : Int32))] [(.ref a)]))
    obtain ⟨cq13, kq13, q13a, q13b, q13c⟩ := isOf hZ hh12 Ea
    obtain ⟨_, _, ⟨T13, L13, k13, n13⟩, -, X13, ⟨Lc13, hQ13, l13, y13, z13⟩, st13⟩ := X12.virtualBack hx (y := (⟨"com/example/cartulary/cartulary/codec/Operation", "hasResponse", "()Z"⟩ : MethodName)) (z := (⟨"com/example/cartulary/cartulary/codec/Operation", "hasResponse", "()Z"⟩ : MethodName)) hown (mvT hZ (hw _ (List.mem_of_getElem? (i := 8) rfl))) (mvT hZ (hw _ (List.mem_of_getElem? (i := 9) rfl))) (notFace_of_selects (args := #[]) (mvT hZ (hw _ (List.mem_of_getElem? (i := 11) rfl)))) (mvT hZ (hw _ (List.mem_of_getElem? (i := 11) rfl))) (mvT hZ (hw _ (List.mem_of_getElem? (i := 10) rfl))) (by decide) (backOf (W := 0) (rm2 l Z a0 hw [] a (97 : Int32) (1 : Int32) h0 n0 Z0 Fa (by decide)) hZ (hw _ (List.mem_of_getElem? (i := 12) rfl)) (hw _ (List.mem_of_getElem? (i := 6) rfl)) (by decide) (by decide)) q13a q13c (g := (mkF m 31 #[.val (.int p1), .val (.int (0 : Int32)), .val (.ref a), .val (.int (1 : Int32))] [(.ref a)])) rfl (by rw [hml]; rfl) (Steps.refl _) (argsL := []) (rest := []) (lenOf pd___Z rfl) rfl (by show 2 * 0 + _ ≤ _; exact Nat.le_of_eq rfl) (hb hby at_31) (fun _ _ => ⟨rfl, hh12, (by decide : 0 + 0 ≤ _), (by decide : 0 + 0 ≤ _)⟩)
    dsimp only [Pt.U, Pt.locs, Pt.cells, Pt.slots] at X13 l13 y13 z13 st13 hQ13
    subst l13 y13 z13
    obtain ⟨rfl, N13q, hh13⟩ := hQ13
    have N13 := Fr.app N12 N13q
    refine own_go (fun t k => st13.trans k) ?_
    show own_G p.tables e below s _ _ _ (T13.setTop (mkF m 34 #[.val (.int p1), .val (.int (0 : Int32)), .val (.ref a), .val (.int (1 : Int32))] [(.int (1 : Int32))]))
    refine own_go (fun t k => XS.iloadN X13.here hx rfl (hb hby at_34) rfl k) ?_
    show own_G p.tables e below s _ _ _ (T13.setTop (mkF m 35 #[.val (.int p1), .val (.int (0 : Int32)), .val (.ref a), .val (.int (1 : Int32))] [(.int (1 : Int32)), (.int (1 : Int32))]))
    refine own_go (fun t k => XS.icmpNo X13.here hx rfl (hb hby at_35) rfl (by decide) k) ?_
    show own_G p.tables e below s _ _ _ (T13.setTop (mkF m 38 #[.val (.int p1), .val (.int (0 : Int32)), .val (.ref a), .val (.int (1 : Int32))] []))
    refine own_go (fun t k => XS.iconst X13.here hx rfl (hb hby at_38) k) ?_
    show own_G p.tables e below s _ _ _ (T13.setTop (mkF m 39 #[.val (.int p1), .val (.int (0 : Int32)), .val (.ref a), .val (.int (1 : Int32))] [(.int (1 : Int32))]))
    refine own_go (fun t k => XS.goto X13.here hx rfl (pc0 := 39) (pc' := 43) rfl (hb hby at_39) (by decide) (by decide) k) ?_
    show own_G p.tables e below s _ _ _ (T13.setTop (mkF m 43 #[.val (.int p1), .val (.int (0 : Int32)), .val (.ref a), .val (.int (1 : Int32))] [(.int (1 : Int32))]))
    exact own_retN X13 hx hlk (t := .boolean) (z' := (1 : Int32)) Bd.returns (by simp) (hb hby at_43) (rfl) (by rw [hh13]; exact ⟨rfl, N13⟩) (by decide) (by decide)
  · rw [hk]
    show own_G p.tables e below s _ _ _ (s₁.setTop (mkF m 7 #[.val (.int p1), .unset, .unset, .unset] [(.int (1 : Int32))]))
    obtain ⟨a, Sa, Ea, Fa⟩ := K1
    refine own_go (fun t k => XS.istoreN X0.here hx rfl (hb hby at_7) rfl (l' := #[.val (.int p1), .val (.int (1 : Int32)), .unset, .unset]) rfl k) ?_
    show own_G p.tables e below s _ _ _ (s₁.setTop (mkF m 8 #[.val (.int p1), .val (.int (1 : Int32)), .unset, .unset] []))
    refine own_go (fun t k => XS.iloadN X0.here hx rfl (hb hby at_8) rfl k) ?_
    show own_G p.tables e below s _ _ _ (s₁.setTop (mkF m 9 #[.val (.int p1), .val (.int (1 : Int32)), .unset, .unset] [(.int (1 : Int32))]))
    obtain ⟨_, _, ⟨T14, L14, k14, n14⟩, -, X14, ⟨Lc14, hQ14, l14, y14, z14⟩, st14⟩ := Jvm.LawKit.callS X0 hx (y := (⟨"com/example/cartulary/cartulary/codec/OperationHasResponsePinLaw", "pick", "(I)Lcom/example/cartulary/cartulary/codec/Operation;"⟩ : MethodName)) hown (mvT hZ (hw _ (List.mem_of_getElem? (i := 1) rfl))) (mvT hZ (hw _ (List.mem_of_getElem? (i := 2) rfl))) (mvT hZ (hw _ (List.mem_of_getElem? (i := 3) rfl))) (mvT hZ (hw _ (List.mem_of_getElem? (i := 4) rfl))) (by decide) (backOf (W := 0) (rm1_1 l Z a0 hw [] a h0 n0 Z0 Sa) hZ (hw _ (List.mem_of_getElem? (i := 4) rfl)) (hw _ (List.mem_of_getElem? (i := 3) rfl)) (by decide) (by decide)) (g := (mkF m 9 #[.val (.int p1), .val (.int (1 : Int32)), .unset, .unset] [(.int (1 : Int32))])) rfl (by rw [hml]; rfl) (argsL := [(.int (1 : Int32))]) (rest := []) (lenOf pd__I_Lcom_example_cartulary_cartulary_codec_Operation_ rfl) rfl (by show 2 * 0 + _ ≤ _; exact Nat.le_of_eq rfl) (hb hby at_9) (fun _ _ => ⟨rfl, e0, (by decide : 0 + 0 ≤ _), (by decide : 0 + 0 ≤ _)⟩)
    dsimp only [Pt.U, Pt.locs, Pt.cells, Pt.slots] at X14 l14 y14 z14 st14 hQ14
    subst l14 y14 z14
    obtain ⟨rfl, N14q, hh14⟩ := hQ14
    have N14 := Fr.app N0 N14q
    refine own_go st14 ?_
    show own_G p.tables e below s _ _ _ (T14.setTop (mkF m 12 #[.val (.int p1), .val (.int (1 : Int32)), .unset, .unset] [(.ref a)]))
    refine own_go (fun t k => XS.astoreN X14.here hx rfl (hb hby at_12) rfl rfl (l' := #[.val (.int p1), .val (.int (1 : Int32)), .val (.ref a), .unset]) rfl k) ?_
    show own_G p.tables e below s _ _ _ (T14.setTop (mkF m 13 #[.val (.int p1), .val (.int (1 : Int32)), .val (.ref a), .unset] []))
    refine own_go (fun t k => XS.iloadN X14.here hx rfl (hb hby at_13) rfl k) ?_
    show own_G p.tables e below s _ _ _ (T14.setTop (mkF m 14 #[.val (.int p1), .val (.int (1 : Int32)), .val (.ref a), .unset] [(.int (1 : Int32))]))
    refine own_go (fun t k => XS.iconst X14.here hx rfl (hb hby at_14) k) ?_
    show own_G p.tables e below s _ _ _ (T14.setTop (mkF m 15 #[.val (.int p1), .val (.int (1 : Int32)), .val (.ref a), .unset] [(.int (1 : Int32)), (.int (1 : Int32))]))
    refine own_go (fun t k => XS.icmpYes X14.here hx rfl (pc0 := 15) (pc' := 28) rfl (hb hby at_15) rfl (by decide) (by decide) (by decide) k) ?_
    show own_G p.tables e below s _ _ _ (T14.setTop (mkF m 28 #[.val (.int p1), .val (.int (1 : Int32)), .val (.ref a), .unset] []))
    refine own_go (fun t k => XS.iconst X14.here hx rfl (hb hby at_28) k) ?_
    show own_G p.tables e below s _ _ _ (T14.setTop (mkF m 29 #[.val (.int p1), .val (.int (1 : Int32)), .val (.ref a), .unset] [(.int (0 : Int32))]))
    refine own_go (fun t k => XS.istoreN X14.here hx rfl (hb hby at_29) rfl (l' := #[.val (.int p1), .val (.int (1 : Int32)), .val (.ref a), .val (.int (0 : Int32))]) rfl k) ?_
    show own_G p.tables e below s _ _ _ (T14.setTop (mkF m 30 #[.val (.int p1), .val (.int (1 : Int32)), .val (.ref a), .val (.int (0 : Int32))] []))
    refine own_go (fun t k => XS.aloadN X14.here hx rfl (hb hby at_30) rfl rfl k) ?_
    show own_G p.tables e below s _ _ _ (T14.setTop (mkF m 31 #[.val (.int p1), .val (.int (1 : Int32)), .val (.ref a), .val (.int (0 : Int32))] [(.ref a)]))
    obtain ⟨cq15, kq15, q15a, q15b, q15c⟩ := isOf hZ hh14 Ea
    obtain ⟨_, _, ⟨T15, L15, k15, n15⟩, -, X15, ⟨Lc15, hQ15, l15, y15, z15⟩, st15⟩ := X14.virtualBack hx (y := (⟨"com/example/cartulary/cartulary/codec/Operation", "hasResponse", "()Z"⟩ : MethodName)) (z := (⟨"com/example/cartulary/cartulary/codec/Operation", "hasResponse", "()Z"⟩ : MethodName)) hown (mvT hZ (hw _ (List.mem_of_getElem? (i := 8) rfl))) (mvT hZ (hw _ (List.mem_of_getElem? (i := 9) rfl))) (notFace_of_selects (args := #[]) (mvT hZ (hw _ (List.mem_of_getElem? (i := 11) rfl)))) (mvT hZ (hw _ (List.mem_of_getElem? (i := 11) rfl))) (mvT hZ (hw _ (List.mem_of_getElem? (i := 10) rfl))) (by decide) (backOf (W := 0) (rm2 l Z a0 hw [] a (-1 : Int32) (0 : Int32) h0 n0 Z0 Fa (by decide)) hZ (hw _ (List.mem_of_getElem? (i := 12) rfl)) (hw _ (List.mem_of_getElem? (i := 6) rfl)) (by decide) (by decide)) q15a q15c (g := (mkF m 31 #[.val (.int p1), .val (.int (1 : Int32)), .val (.ref a), .val (.int (0 : Int32))] [(.ref a)])) rfl (by rw [hml]; rfl) (Steps.refl _) (argsL := []) (rest := []) (lenOf pd___Z rfl) rfl (by show 2 * 0 + _ ≤ _; exact Nat.le_of_eq rfl) (hb hby at_31) (fun _ _ => ⟨rfl, hh14, (by decide : 0 + 0 ≤ _), (by decide : 0 + 0 ≤ _)⟩)
    dsimp only [Pt.U, Pt.locs, Pt.cells, Pt.slots] at X15 l15 y15 z15 st15 hQ15
    subst l15 y15 z15
    obtain ⟨rfl, N15q, hh15⟩ := hQ15
    have N15 := Fr.app N14 N15q
    refine own_go (fun t k => st15.trans k) ?_
    show own_G p.tables e below s _ _ _ (T15.setTop (mkF m 34 #[.val (.int p1), .val (.int (1 : Int32)), .val (.ref a), .val (.int (0 : Int32))] [(.int (0 : Int32))]))
    refine own_go (fun t k => XS.iloadN X15.here hx rfl (hb hby at_34) rfl k) ?_
    show own_G p.tables e below s _ _ _ (T15.setTop (mkF m 35 #[.val (.int p1), .val (.int (1 : Int32)), .val (.ref a), .val (.int (0 : Int32))] [(.int (0 : Int32)), (.int (0 : Int32))]))
    refine own_go (fun t k => XS.icmpNo X15.here hx rfl (hb hby at_35) rfl (by decide) k) ?_
    show own_G p.tables e below s _ _ _ (T15.setTop (mkF m 38 #[.val (.int p1), .val (.int (1 : Int32)), .val (.ref a), .val (.int (0 : Int32))] []))
    refine own_go (fun t k => XS.iconst X15.here hx rfl (hb hby at_38) k) ?_
    show own_G p.tables e below s _ _ _ (T15.setTop (mkF m 39 #[.val (.int p1), .val (.int (1 : Int32)), .val (.ref a), .val (.int (0 : Int32))] [(.int (1 : Int32))]))
    refine own_go (fun t k => XS.goto X15.here hx rfl (pc0 := 39) (pc' := 43) rfl (hb hby at_39) (by decide) (by decide) k) ?_
    show own_G p.tables e below s _ _ _ (T15.setTop (mkF m 43 #[.val (.int p1), .val (.int (1 : Int32)), .val (.ref a), .val (.int (0 : Int32))] [(.int (1 : Int32))]))
    exact own_retN X15 hx hlk (t := .boolean) (z' := (1 : Int32)) Bd.returns (by simp) (hb hby at_43) (rfl) (by rw [hh15]; exact ⟨rfl, N15⟩) (by decide) (by decide)
  · rw [hk]
    show own_G p.tables e below s _ _ _ (s₁.setTop (mkF m 7 #[.val (.int p1), .unset, .unset, .unset] [(.int (2 : Int32))]))
    obtain ⟨a, Sa, Ea, Fa⟩ := K2
    refine own_go (fun t k => XS.istoreN X0.here hx rfl (hb hby at_7) rfl (l' := #[.val (.int p1), .val (.int (2 : Int32)), .unset, .unset]) rfl k) ?_
    show own_G p.tables e below s _ _ _ (s₁.setTop (mkF m 8 #[.val (.int p1), .val (.int (2 : Int32)), .unset, .unset] []))
    refine own_go (fun t k => XS.iloadN X0.here hx rfl (hb hby at_8) rfl k) ?_
    show own_G p.tables e below s _ _ _ (s₁.setTop (mkF m 9 #[.val (.int p1), .val (.int (2 : Int32)), .unset, .unset] [(.int (2 : Int32))]))
    obtain ⟨_, _, ⟨T16, L16, k16, n16⟩, -, X16, ⟨Lc16, hQ16, l16, y16, z16⟩, st16⟩ := Jvm.LawKit.callS X0 hx (y := (⟨"com/example/cartulary/cartulary/codec/OperationHasResponsePinLaw", "pick", "(I)Lcom/example/cartulary/cartulary/codec/Operation;"⟩ : MethodName)) hown (mvT hZ (hw _ (List.mem_of_getElem? (i := 1) rfl))) (mvT hZ (hw _ (List.mem_of_getElem? (i := 2) rfl))) (mvT hZ (hw _ (List.mem_of_getElem? (i := 3) rfl))) (mvT hZ (hw _ (List.mem_of_getElem? (i := 4) rfl))) (by decide) (backOf (W := 0) (rm1_2 l Z a0 hw [] a h0 n0 Z0 Sa) hZ (hw _ (List.mem_of_getElem? (i := 4) rfl)) (hw _ (List.mem_of_getElem? (i := 3) rfl)) (by decide) (by decide)) (g := (mkF m 9 #[.val (.int p1), .val (.int (2 : Int32)), .unset, .unset] [(.int (2 : Int32))])) rfl (by rw [hml]; rfl) (argsL := [(.int (2 : Int32))]) (rest := []) (lenOf pd__I_Lcom_example_cartulary_cartulary_codec_Operation_ rfl) rfl (by show 2 * 0 + _ ≤ _; exact Nat.le_of_eq rfl) (hb hby at_9) (fun _ _ => ⟨rfl, e0, (by decide : 0 + 0 ≤ _), (by decide : 0 + 0 ≤ _)⟩)
    dsimp only [Pt.U, Pt.locs, Pt.cells, Pt.slots] at X16 l16 y16 z16 st16 hQ16
    subst l16 y16 z16
    obtain ⟨rfl, N16q, hh16⟩ := hQ16
    have N16 := Fr.app N0 N16q
    refine own_go st16 ?_
    show own_G p.tables e below s _ _ _ (T16.setTop (mkF m 12 #[.val (.int p1), .val (.int (2 : Int32)), .unset, .unset] [(.ref a)]))
    refine own_go (fun t k => XS.astoreN X16.here hx rfl (hb hby at_12) rfl rfl (l' := #[.val (.int p1), .val (.int (2 : Int32)), .val (.ref a), .unset]) rfl k) ?_
    show own_G p.tables e below s _ _ _ (T16.setTop (mkF m 13 #[.val (.int p1), .val (.int (2 : Int32)), .val (.ref a), .unset] []))
    refine own_go (fun t k => XS.iloadN X16.here hx rfl (hb hby at_13) rfl k) ?_
    show own_G p.tables e below s _ _ _ (T16.setTop (mkF m 14 #[.val (.int p1), .val (.int (2 : Int32)), .val (.ref a), .unset] [(.int (2 : Int32))]))
    refine own_go (fun t k => XS.iconst X16.here hx rfl (hb hby at_14) k) ?_
    show own_G p.tables e below s _ _ _ (T16.setTop (mkF m 15 #[.val (.int p1), .val (.int (2 : Int32)), .val (.ref a), .unset] [(.int (1 : Int32)), (.int (2 : Int32))]))
    refine own_go (fun t k => XS.icmpNo X16.here hx rfl (hb hby at_15) rfl (by decide) k) ?_
    show own_G p.tables e below s _ _ _ (T16.setTop (mkF m 18 #[.val (.int p1), .val (.int (2 : Int32)), .val (.ref a), .unset] []))
    refine own_go (fun t k => XS.iloadN X16.here hx rfl (hb hby at_18) rfl k) ?_
    show own_G p.tables e below s _ _ _ (T16.setTop (mkF m 19 #[.val (.int p1), .val (.int (2 : Int32)), .val (.ref a), .unset] [(.int (2 : Int32))]))
    refine own_go (fun t k => XS.bipush X16.here hx rfl (hb hby at_19) k) ?_
    show own_G p.tables e below s _ _ _ (T16.setTop (mkF m 21 #[.val (.int p1), .val (.int (2 : Int32)), .val (.ref a), .unset] [(.int (8 : Int32)), (.int (2 : Int32))]))
    refine own_go (fun t k => XS.icmpNo X16.here hx rfl (hb hby at_21) rfl (by decide) k) ?_
    show own_G p.tables e below s _ _ _ (T16.setTop (mkF m 24 #[.val (.int p1), .val (.int (2 : Int32)), .val (.ref a), .unset] []))
    refine own_go (fun t k => XS.iconst X16.here hx rfl (hb hby at_24) k) ?_
    show own_G p.tables e below s _ _ _ (T16.setTop (mkF m 25 #[.val (.int p1), .val (.int (2 : Int32)), .val (.ref a), .unset] [(.int (1 : Int32))]))
    refine own_go (fun t k => XS.goto X16.here hx rfl (pc0 := 25) (pc' := 29) rfl (hb hby at_25) (by decide) (by decide) k) ?_
    show own_G p.tables e below s _ _ _ (T16.setTop (mkF m 29 #[.val (.int p1), .val (.int (2 : Int32)), .val (.ref a), .unset] [(.int (1 : Int32))]))
    refine own_go (fun t k => XS.istoreN X16.here hx rfl (hb hby at_29) rfl (l' := #[.val (.int p1), .val (.int (2 : Int32)), .val (.ref a), .val (.int (1 : Int32))]) rfl k) ?_
    show own_G p.tables e below s _ _ _ (T16.setTop (mkF m 30 #[.val (.int p1), .val (.int (2 : Int32)), .val (.ref a), .val (.int (1 : Int32))] []))
    refine own_go (fun t k => XS.aloadN X16.here hx rfl (hb hby at_30) rfl rfl k) ?_
    show own_G p.tables e below s _ _ _ (T16.setTop (mkF m 31 #[.val (.int p1), .val (.int (2 : Int32)), .val (.ref a), .val (.int (1 : Int32))] [(.ref a)]))
    obtain ⟨cq17, kq17, q17a, q17b, q17c⟩ := isOf hZ hh16 Ea
    obtain ⟨_, _, ⟨T17, L17, k17, n17⟩, -, X17, ⟨Lc17, hQ17, l17, y17, z17⟩, st17⟩ := X16.virtualBack hx (y := (⟨"com/example/cartulary/cartulary/codec/Operation", "hasResponse", "()Z"⟩ : MethodName)) (z := (⟨"com/example/cartulary/cartulary/codec/Operation", "hasResponse", "()Z"⟩ : MethodName)) hown (mvT hZ (hw _ (List.mem_of_getElem? (i := 8) rfl))) (mvT hZ (hw _ (List.mem_of_getElem? (i := 9) rfl))) (notFace_of_selects (args := #[]) (mvT hZ (hw _ (List.mem_of_getElem? (i := 11) rfl)))) (mvT hZ (hw _ (List.mem_of_getElem? (i := 11) rfl))) (mvT hZ (hw _ (List.mem_of_getElem? (i := 10) rfl))) (by decide) (backOf (W := 0) (rm2 l Z a0 hw [] a (101 : Int32) (1 : Int32) h0 n0 Z0 Fa (by decide)) hZ (hw _ (List.mem_of_getElem? (i := 12) rfl)) (hw _ (List.mem_of_getElem? (i := 6) rfl)) (by decide) (by decide)) q17a q17c (g := (mkF m 31 #[.val (.int p1), .val (.int (2 : Int32)), .val (.ref a), .val (.int (1 : Int32))] [(.ref a)])) rfl (by rw [hml]; rfl) (Steps.refl _) (argsL := []) (rest := []) (lenOf pd___Z rfl) rfl (by show 2 * 0 + _ ≤ _; exact Nat.le_of_eq rfl) (hb hby at_31) (fun _ _ => ⟨rfl, hh16, (by decide : 0 + 0 ≤ _), (by decide : 0 + 0 ≤ _)⟩)
    dsimp only [Pt.U, Pt.locs, Pt.cells, Pt.slots] at X17 l17 y17 z17 st17 hQ17
    subst l17 y17 z17
    obtain ⟨rfl, N17q, hh17⟩ := hQ17
    have N17 := Fr.app N16 N17q
    refine own_go (fun t k => st17.trans k) ?_
    show own_G p.tables e below s _ _ _ (T17.setTop (mkF m 34 #[.val (.int p1), .val (.int (2 : Int32)), .val (.ref a), .val (.int (1 : Int32))] [(.int (1 : Int32))]))
    refine own_go (fun t k => XS.iloadN X17.here hx rfl (hb hby at_34) rfl k) ?_
    show own_G p.tables e below s _ _ _ (T17.setTop (mkF m 35 #[.val (.int p1), .val (.int (2 : Int32)), .val (.ref a), .val (.int (1 : Int32))] [(.int (1 : Int32)), (.int (1 : Int32))]))
    refine own_go (fun t k => XS.icmpNo X17.here hx rfl (hb hby at_35) rfl (by decide) k) ?_
    show own_G p.tables e below s _ _ _ (T17.setTop (mkF m 38 #[.val (.int p1), .val (.int (2 : Int32)), .val (.ref a), .val (.int (1 : Int32))] []))
    refine own_go (fun t k => XS.iconst X17.here hx rfl (hb hby at_38) k) ?_
    show own_G p.tables e below s _ _ _ (T17.setTop (mkF m 39 #[.val (.int p1), .val (.int (2 : Int32)), .val (.ref a), .val (.int (1 : Int32))] [(.int (1 : Int32))]))
    refine own_go (fun t k => XS.goto X17.here hx rfl (pc0 := 39) (pc' := 43) rfl (hb hby at_39) (by decide) (by decide) k) ?_
    show own_G p.tables e below s _ _ _ (T17.setTop (mkF m 43 #[.val (.int p1), .val (.int (2 : Int32)), .val (.ref a), .val (.int (1 : Int32))] [(.int (1 : Int32))]))
    exact own_retN X17 hx hlk (t := .boolean) (z' := (1 : Int32)) Bd.returns (by simp) (hb hby at_43) (rfl) (by rw [hh17]; exact ⟨rfl, N17⟩) (by decide) (by decide)
  · rw [hk]
    show own_G p.tables e below s _ _ _ (s₁.setTop (mkF m 7 #[.val (.int p1), .unset, .unset, .unset] [(.int (3 : Int32))]))
    obtain ⟨a, Sa, Ea, Fa⟩ := K3
    refine own_go (fun t k => XS.istoreN X0.here hx rfl (hb hby at_7) rfl (l' := #[.val (.int p1), .val (.int (3 : Int32)), .unset, .unset]) rfl k) ?_
    show own_G p.tables e below s _ _ _ (s₁.setTop (mkF m 8 #[.val (.int p1), .val (.int (3 : Int32)), .unset, .unset] []))
    refine own_go (fun t k => XS.iloadN X0.here hx rfl (hb hby at_8) rfl k) ?_
    show own_G p.tables e below s _ _ _ (s₁.setTop (mkF m 9 #[.val (.int p1), .val (.int (3 : Int32)), .unset, .unset] [(.int (3 : Int32))]))
    obtain ⟨_, _, ⟨T18, L18, k18, n18⟩, -, X18, ⟨Lc18, hQ18, l18, y18, z18⟩, st18⟩ := Jvm.LawKit.callS X0 hx (y := (⟨"com/example/cartulary/cartulary/codec/OperationHasResponsePinLaw", "pick", "(I)Lcom/example/cartulary/cartulary/codec/Operation;"⟩ : MethodName)) hown (mvT hZ (hw _ (List.mem_of_getElem? (i := 1) rfl))) (mvT hZ (hw _ (List.mem_of_getElem? (i := 2) rfl))) (mvT hZ (hw _ (List.mem_of_getElem? (i := 3) rfl))) (mvT hZ (hw _ (List.mem_of_getElem? (i := 4) rfl))) (by decide) (backOf (W := 0) (rm1_3 l Z a0 hw [] a h0 n0 Z0 Sa) hZ (hw _ (List.mem_of_getElem? (i := 4) rfl)) (hw _ (List.mem_of_getElem? (i := 3) rfl)) (by decide) (by decide)) (g := (mkF m 9 #[.val (.int p1), .val (.int (3 : Int32)), .unset, .unset] [(.int (3 : Int32))])) rfl (by rw [hml]; rfl) (argsL := [(.int (3 : Int32))]) (rest := []) (lenOf pd__I_Lcom_example_cartulary_cartulary_codec_Operation_ rfl) rfl (by show 2 * 0 + _ ≤ _; exact Nat.le_of_eq rfl) (hb hby at_9) (fun _ _ => ⟨rfl, e0, (by decide : 0 + 0 ≤ _), (by decide : 0 + 0 ≤ _)⟩)
    dsimp only [Pt.U, Pt.locs, Pt.cells, Pt.slots] at X18 l18 y18 z18 st18 hQ18
    subst l18 y18 z18
    obtain ⟨rfl, N18q, hh18⟩ := hQ18
    have N18 := Fr.app N0 N18q
    refine own_go st18 ?_
    show own_G p.tables e below s _ _ _ (T18.setTop (mkF m 12 #[.val (.int p1), .val (.int (3 : Int32)), .unset, .unset] [(.ref a)]))
    refine own_go (fun t k => XS.astoreN X18.here hx rfl (hb hby at_12) rfl rfl (l' := #[.val (.int p1), .val (.int (3 : Int32)), .val (.ref a), .unset]) rfl k) ?_
    show own_G p.tables e below s _ _ _ (T18.setTop (mkF m 13 #[.val (.int p1), .val (.int (3 : Int32)), .val (.ref a), .unset] []))
    refine own_go (fun t k => XS.iloadN X18.here hx rfl (hb hby at_13) rfl k) ?_
    show own_G p.tables e below s _ _ _ (T18.setTop (mkF m 14 #[.val (.int p1), .val (.int (3 : Int32)), .val (.ref a), .unset] [(.int (3 : Int32))]))
    refine own_go (fun t k => XS.iconst X18.here hx rfl (hb hby at_14) k) ?_
    show own_G p.tables e below s _ _ _ (T18.setTop (mkF m 15 #[.val (.int p1), .val (.int (3 : Int32)), .val (.ref a), .unset] [(.int (1 : Int32)), (.int (3 : Int32))]))
    refine own_go (fun t k => XS.icmpNo X18.here hx rfl (hb hby at_15) rfl (by decide) k) ?_
    show own_G p.tables e below s _ _ _ (T18.setTop (mkF m 18 #[.val (.int p1), .val (.int (3 : Int32)), .val (.ref a), .unset] []))
    refine own_go (fun t k => XS.iloadN X18.here hx rfl (hb hby at_18) rfl k) ?_
    show own_G p.tables e below s _ _ _ (T18.setTop (mkF m 19 #[.val (.int p1), .val (.int (3 : Int32)), .val (.ref a), .unset] [(.int (3 : Int32))]))
    refine own_go (fun t k => XS.bipush X18.here hx rfl (hb hby at_19) k) ?_
    show own_G p.tables e below s _ _ _ (T18.setTop (mkF m 21 #[.val (.int p1), .val (.int (3 : Int32)), .val (.ref a), .unset] [(.int (8 : Int32)), (.int (3 : Int32))]))
    refine own_go (fun t k => XS.icmpNo X18.here hx rfl (hb hby at_21) rfl (by decide) k) ?_
    show own_G p.tables e below s _ _ _ (T18.setTop (mkF m 24 #[.val (.int p1), .val (.int (3 : Int32)), .val (.ref a), .unset] []))
    refine own_go (fun t k => XS.iconst X18.here hx rfl (hb hby at_24) k) ?_
    show own_G p.tables e below s _ _ _ (T18.setTop (mkF m 25 #[.val (.int p1), .val (.int (3 : Int32)), .val (.ref a), .unset] [(.int (1 : Int32))]))
    refine own_go (fun t k => XS.goto X18.here hx rfl (pc0 := 25) (pc' := 29) rfl (hb hby at_25) (by decide) (by decide) k) ?_
    show own_G p.tables e below s _ _ _ (T18.setTop (mkF m 29 #[.val (.int p1), .val (.int (3 : Int32)), .val (.ref a), .unset] [(.int (1 : Int32))]))
    refine own_go (fun t k => XS.istoreN X18.here hx rfl (hb hby at_29) rfl (l' := #[.val (.int p1), .val (.int (3 : Int32)), .val (.ref a), .val (.int (1 : Int32))]) rfl k) ?_
    show own_G p.tables e below s _ _ _ (T18.setTop (mkF m 30 #[.val (.int p1), .val (.int (3 : Int32)), .val (.ref a), .val (.int (1 : Int32))] []))
    refine own_go (fun t k => XS.aloadN X18.here hx rfl (hb hby at_30) rfl rfl k) ?_
    show own_G p.tables e below s _ _ _ (T18.setTop (mkF m 31 #[.val (.int p1), .val (.int (3 : Int32)), .val (.ref a), .val (.int (1 : Int32))] [(.ref a)]))
    obtain ⟨cq19, kq19, q19a, q19b, q19c⟩ := isOf hZ hh18 Ea
    obtain ⟨_, _, ⟨T19, L19, k19, n19⟩, -, X19, ⟨Lc19, hQ19, l19, y19, z19⟩, st19⟩ := X18.virtualBack hx (y := (⟨"com/example/cartulary/cartulary/codec/Operation", "hasResponse", "()Z"⟩ : MethodName)) (z := (⟨"com/example/cartulary/cartulary/codec/Operation", "hasResponse", "()Z"⟩ : MethodName)) hown (mvT hZ (hw _ (List.mem_of_getElem? (i := 8) rfl))) (mvT hZ (hw _ (List.mem_of_getElem? (i := 9) rfl))) (notFace_of_selects (args := #[]) (mvT hZ (hw _ (List.mem_of_getElem? (i := 11) rfl)))) (mvT hZ (hw _ (List.mem_of_getElem? (i := 11) rfl))) (mvT hZ (hw _ (List.mem_of_getElem? (i := 10) rfl))) (by decide) (backOf (W := 0) (rm2 l Z a0 hw [] a (103 : Int32) (1 : Int32) h0 n0 Z0 Fa (by decide)) hZ (hw _ (List.mem_of_getElem? (i := 12) rfl)) (hw _ (List.mem_of_getElem? (i := 6) rfl)) (by decide) (by decide)) q19a q19c (g := (mkF m 31 #[.val (.int p1), .val (.int (3 : Int32)), .val (.ref a), .val (.int (1 : Int32))] [(.ref a)])) rfl (by rw [hml]; rfl) (Steps.refl _) (argsL := []) (rest := []) (lenOf pd___Z rfl) rfl (by show 2 * 0 + _ ≤ _; exact Nat.le_of_eq rfl) (hb hby at_31) (fun _ _ => ⟨rfl, hh18, (by decide : 0 + 0 ≤ _), (by decide : 0 + 0 ≤ _)⟩)
    dsimp only [Pt.U, Pt.locs, Pt.cells, Pt.slots] at X19 l19 y19 z19 st19 hQ19
    subst l19 y19 z19
    obtain ⟨rfl, N19q, hh19⟩ := hQ19
    have N19 := Fr.app N18 N19q
    refine own_go (fun t k => st19.trans k) ?_
    show own_G p.tables e below s _ _ _ (T19.setTop (mkF m 34 #[.val (.int p1), .val (.int (3 : Int32)), .val (.ref a), .val (.int (1 : Int32))] [(.int (1 : Int32))]))
    refine own_go (fun t k => XS.iloadN X19.here hx rfl (hb hby at_34) rfl k) ?_
    show own_G p.tables e below s _ _ _ (T19.setTop (mkF m 35 #[.val (.int p1), .val (.int (3 : Int32)), .val (.ref a), .val (.int (1 : Int32))] [(.int (1 : Int32)), (.int (1 : Int32))]))
    refine own_go (fun t k => XS.icmpNo X19.here hx rfl (hb hby at_35) rfl (by decide) k) ?_
    show own_G p.tables e below s _ _ _ (T19.setTop (mkF m 38 #[.val (.int p1), .val (.int (3 : Int32)), .val (.ref a), .val (.int (1 : Int32))] []))
    refine own_go (fun t k => XS.iconst X19.here hx rfl (hb hby at_38) k) ?_
    show own_G p.tables e below s _ _ _ (T19.setTop (mkF m 39 #[.val (.int p1), .val (.int (3 : Int32)), .val (.ref a), .val (.int (1 : Int32))] [(.int (1 : Int32))]))
    refine own_go (fun t k => XS.goto X19.here hx rfl (pc0 := 39) (pc' := 43) rfl (hb hby at_39) (by decide) (by decide) k) ?_
    show own_G p.tables e below s _ _ _ (T19.setTop (mkF m 43 #[.val (.int p1), .val (.int (3 : Int32)), .val (.ref a), .val (.int (1 : Int32))] [(.int (1 : Int32))]))
    exact own_retN X19 hx hlk (t := .boolean) (z' := (1 : Int32)) Bd.returns (by simp) (hb hby at_43) (rfl) (by rw [hh19]; exact ⟨rfl, N19⟩) (by decide) (by decide)
  · rw [hk]
    show own_G p.tables e below s _ _ _ (s₁.setTop (mkF m 7 #[.val (.int p1), .unset, .unset, .unset] [(.int (4 : Int32))]))
    obtain ⟨a, Sa, Ea, Fa⟩ := K4
    refine own_go (fun t k => XS.istoreN X0.here hx rfl (hb hby at_7) rfl (l' := #[.val (.int p1), .val (.int (4 : Int32)), .unset, .unset]) rfl k) ?_
    show own_G p.tables e below s _ _ _ (s₁.setTop (mkF m 8 #[.val (.int p1), .val (.int (4 : Int32)), .unset, .unset] []))
    refine own_go (fun t k => XS.iloadN X0.here hx rfl (hb hby at_8) rfl k) ?_
    show own_G p.tables e below s _ _ _ (s₁.setTop (mkF m 9 #[.val (.int p1), .val (.int (4 : Int32)), .unset, .unset] [(.int (4 : Int32))]))
    obtain ⟨_, _, ⟨T20, L20, k20, n20⟩, -, X20, ⟨Lc20, hQ20, l20, y20, z20⟩, st20⟩ := Jvm.LawKit.callS X0 hx (y := (⟨"com/example/cartulary/cartulary/codec/OperationHasResponsePinLaw", "pick", "(I)Lcom/example/cartulary/cartulary/codec/Operation;"⟩ : MethodName)) hown (mvT hZ (hw _ (List.mem_of_getElem? (i := 1) rfl))) (mvT hZ (hw _ (List.mem_of_getElem? (i := 2) rfl))) (mvT hZ (hw _ (List.mem_of_getElem? (i := 3) rfl))) (mvT hZ (hw _ (List.mem_of_getElem? (i := 4) rfl))) (by decide) (backOf (W := 0) (rm1_4 l Z a0 hw [] a h0 n0 Z0 Sa) hZ (hw _ (List.mem_of_getElem? (i := 4) rfl)) (hw _ (List.mem_of_getElem? (i := 3) rfl)) (by decide) (by decide)) (g := (mkF m 9 #[.val (.int p1), .val (.int (4 : Int32)), .unset, .unset] [(.int (4 : Int32))])) rfl (by rw [hml]; rfl) (argsL := [(.int (4 : Int32))]) (rest := []) (lenOf pd__I_Lcom_example_cartulary_cartulary_codec_Operation_ rfl) rfl (by show 2 * 0 + _ ≤ _; exact Nat.le_of_eq rfl) (hb hby at_9) (fun _ _ => ⟨rfl, e0, (by decide : 0 + 0 ≤ _), (by decide : 0 + 0 ≤ _)⟩)
    dsimp only [Pt.U, Pt.locs, Pt.cells, Pt.slots] at X20 l20 y20 z20 st20 hQ20
    subst l20 y20 z20
    obtain ⟨rfl, N20q, hh20⟩ := hQ20
    have N20 := Fr.app N0 N20q
    refine own_go st20 ?_
    show own_G p.tables e below s _ _ _ (T20.setTop (mkF m 12 #[.val (.int p1), .val (.int (4 : Int32)), .unset, .unset] [(.ref a)]))
    refine own_go (fun t k => XS.astoreN X20.here hx rfl (hb hby at_12) rfl rfl (l' := #[.val (.int p1), .val (.int (4 : Int32)), .val (.ref a), .unset]) rfl k) ?_
    show own_G p.tables e below s _ _ _ (T20.setTop (mkF m 13 #[.val (.int p1), .val (.int (4 : Int32)), .val (.ref a), .unset] []))
    refine own_go (fun t k => XS.iloadN X20.here hx rfl (hb hby at_13) rfl k) ?_
    show own_G p.tables e below s _ _ _ (T20.setTop (mkF m 14 #[.val (.int p1), .val (.int (4 : Int32)), .val (.ref a), .unset] [(.int (4 : Int32))]))
    refine own_go (fun t k => XS.iconst X20.here hx rfl (hb hby at_14) k) ?_
    show own_G p.tables e below s _ _ _ (T20.setTop (mkF m 15 #[.val (.int p1), .val (.int (4 : Int32)), .val (.ref a), .unset] [(.int (1 : Int32)), (.int (4 : Int32))]))
    refine own_go (fun t k => XS.icmpNo X20.here hx rfl (hb hby at_15) rfl (by decide) k) ?_
    show own_G p.tables e below s _ _ _ (T20.setTop (mkF m 18 #[.val (.int p1), .val (.int (4 : Int32)), .val (.ref a), .unset] []))
    refine own_go (fun t k => XS.iloadN X20.here hx rfl (hb hby at_18) rfl k) ?_
    show own_G p.tables e below s _ _ _ (T20.setTop (mkF m 19 #[.val (.int p1), .val (.int (4 : Int32)), .val (.ref a), .unset] [(.int (4 : Int32))]))
    refine own_go (fun t k => XS.bipush X20.here hx rfl (hb hby at_19) k) ?_
    show own_G p.tables e below s _ _ _ (T20.setTop (mkF m 21 #[.val (.int p1), .val (.int (4 : Int32)), .val (.ref a), .unset] [(.int (8 : Int32)), (.int (4 : Int32))]))
    refine own_go (fun t k => XS.icmpNo X20.here hx rfl (hb hby at_21) rfl (by decide) k) ?_
    show own_G p.tables e below s _ _ _ (T20.setTop (mkF m 24 #[.val (.int p1), .val (.int (4 : Int32)), .val (.ref a), .unset] []))
    refine own_go (fun t k => XS.iconst X20.here hx rfl (hb hby at_24) k) ?_
    show own_G p.tables e below s _ _ _ (T20.setTop (mkF m 25 #[.val (.int p1), .val (.int (4 : Int32)), .val (.ref a), .unset] [(.int (1 : Int32))]))
    refine own_go (fun t k => XS.goto X20.here hx rfl (pc0 := 25) (pc' := 29) rfl (hb hby at_25) (by decide) (by decide) k) ?_
    show own_G p.tables e below s _ _ _ (T20.setTop (mkF m 29 #[.val (.int p1), .val (.int (4 : Int32)), .val (.ref a), .unset] [(.int (1 : Int32))]))
    refine own_go (fun t k => XS.istoreN X20.here hx rfl (hb hby at_29) rfl (l' := #[.val (.int p1), .val (.int (4 : Int32)), .val (.ref a), .val (.int (1 : Int32))]) rfl k) ?_
    show own_G p.tables e below s _ _ _ (T20.setTop (mkF m 30 #[.val (.int p1), .val (.int (4 : Int32)), .val (.ref a), .val (.int (1 : Int32))] []))
    refine own_go (fun t k => XS.aloadN X20.here hx rfl (hb hby at_30) rfl rfl k) ?_
    show own_G p.tables e below s _ _ _ (T20.setTop (mkF m 31 #[.val (.int p1), .val (.int (4 : Int32)), .val (.ref a), .val (.int (1 : Int32))] [(.ref a)]))
    obtain ⟨cq21, kq21, q21a, q21b, q21c⟩ := isOf hZ hh20 Ea
    obtain ⟨_, _, ⟨T21, L21, k21, n21⟩, -, X21, ⟨Lc21, hQ21, l21, y21, z21⟩, st21⟩ := X20.virtualBack hx (y := (⟨"com/example/cartulary/cartulary/codec/Operation", "hasResponse", "()Z"⟩ : MethodName)) (z := (⟨"com/example/cartulary/cartulary/codec/Operation", "hasResponse", "()Z"⟩ : MethodName)) hown (mvT hZ (hw _ (List.mem_of_getElem? (i := 8) rfl))) (mvT hZ (hw _ (List.mem_of_getElem? (i := 9) rfl))) (notFace_of_selects (args := #[]) (mvT hZ (hw _ (List.mem_of_getElem? (i := 11) rfl)))) (mvT hZ (hw _ (List.mem_of_getElem? (i := 11) rfl))) (mvT hZ (hw _ (List.mem_of_getElem? (i := 10) rfl))) (by decide) (backOf (W := 0) (rm2 l Z a0 hw [] a (105 : Int32) (1 : Int32) h0 n0 Z0 Fa (by decide)) hZ (hw _ (List.mem_of_getElem? (i := 12) rfl)) (hw _ (List.mem_of_getElem? (i := 6) rfl)) (by decide) (by decide)) q21a q21c (g := (mkF m 31 #[.val (.int p1), .val (.int (4 : Int32)), .val (.ref a), .val (.int (1 : Int32))] [(.ref a)])) rfl (by rw [hml]; rfl) (Steps.refl _) (argsL := []) (rest := []) (lenOf pd___Z rfl) rfl (by show 2 * 0 + _ ≤ _; exact Nat.le_of_eq rfl) (hb hby at_31) (fun _ _ => ⟨rfl, hh20, (by decide : 0 + 0 ≤ _), (by decide : 0 + 0 ≤ _)⟩)
    dsimp only [Pt.U, Pt.locs, Pt.cells, Pt.slots] at X21 l21 y21 z21 st21 hQ21
    subst l21 y21 z21
    obtain ⟨rfl, N21q, hh21⟩ := hQ21
    have N21 := Fr.app N20 N21q
    refine own_go (fun t k => st21.trans k) ?_
    show own_G p.tables e below s _ _ _ (T21.setTop (mkF m 34 #[.val (.int p1), .val (.int (4 : Int32)), .val (.ref a), .val (.int (1 : Int32))] [(.int (1 : Int32))]))
    refine own_go (fun t k => XS.iloadN X21.here hx rfl (hb hby at_34) rfl k) ?_
    show own_G p.tables e below s _ _ _ (T21.setTop (mkF m 35 #[.val (.int p1), .val (.int (4 : Int32)), .val (.ref a), .val (.int (1 : Int32))] [(.int (1 : Int32)), (.int (1 : Int32))]))
    refine own_go (fun t k => XS.icmpNo X21.here hx rfl (hb hby at_35) rfl (by decide) k) ?_
    show own_G p.tables e below s _ _ _ (T21.setTop (mkF m 38 #[.val (.int p1), .val (.int (4 : Int32)), .val (.ref a), .val (.int (1 : Int32))] []))
    refine own_go (fun t k => XS.iconst X21.here hx rfl (hb hby at_38) k) ?_
    show own_G p.tables e below s _ _ _ (T21.setTop (mkF m 39 #[.val (.int p1), .val (.int (4 : Int32)), .val (.ref a), .val (.int (1 : Int32))] [(.int (1 : Int32))]))
    refine own_go (fun t k => XS.goto X21.here hx rfl (pc0 := 39) (pc' := 43) rfl (hb hby at_39) (by decide) (by decide) k) ?_
    show own_G p.tables e below s _ _ _ (T21.setTop (mkF m 43 #[.val (.int p1), .val (.int (4 : Int32)), .val (.ref a), .val (.int (1 : Int32))] [(.int (1 : Int32))]))
    exact own_retN X21 hx hlk (t := .boolean) (z' := (1 : Int32)) Bd.returns (by simp) (hb hby at_43) (rfl) (by rw [hh21]; exact ⟨rfl, N21⟩) (by decide) (by decide)
  · rw [hk]
    show own_G p.tables e below s _ _ _ (s₁.setTop (mkF m 7 #[.val (.int p1), .unset, .unset, .unset] [(.int (5 : Int32))]))
    obtain ⟨a, Sa, Ea, Fa⟩ := K5
    refine own_go (fun t k => XS.istoreN X0.here hx rfl (hb hby at_7) rfl (l' := #[.val (.int p1), .val (.int (5 : Int32)), .unset, .unset]) rfl k) ?_
    show own_G p.tables e below s _ _ _ (s₁.setTop (mkF m 8 #[.val (.int p1), .val (.int (5 : Int32)), .unset, .unset] []))
    refine own_go (fun t k => XS.iloadN X0.here hx rfl (hb hby at_8) rfl k) ?_
    show own_G p.tables e below s _ _ _ (s₁.setTop (mkF m 9 #[.val (.int p1), .val (.int (5 : Int32)), .unset, .unset] [(.int (5 : Int32))]))
    obtain ⟨_, _, ⟨T22, L22, k22, n22⟩, -, X22, ⟨Lc22, hQ22, l22, y22, z22⟩, st22⟩ := Jvm.LawKit.callS X0 hx (y := (⟨"com/example/cartulary/cartulary/codec/OperationHasResponsePinLaw", "pick", "(I)Lcom/example/cartulary/cartulary/codec/Operation;"⟩ : MethodName)) hown (mvT hZ (hw _ (List.mem_of_getElem? (i := 1) rfl))) (mvT hZ (hw _ (List.mem_of_getElem? (i := 2) rfl))) (mvT hZ (hw _ (List.mem_of_getElem? (i := 3) rfl))) (mvT hZ (hw _ (List.mem_of_getElem? (i := 4) rfl))) (by decide) (backOf (W := 0) (rm1_5 l Z a0 hw [] a h0 n0 Z0 Sa) hZ (hw _ (List.mem_of_getElem? (i := 4) rfl)) (hw _ (List.mem_of_getElem? (i := 3) rfl)) (by decide) (by decide)) (g := (mkF m 9 #[.val (.int p1), .val (.int (5 : Int32)), .unset, .unset] [(.int (5 : Int32))])) rfl (by rw [hml]; rfl) (argsL := [(.int (5 : Int32))]) (rest := []) (lenOf pd__I_Lcom_example_cartulary_cartulary_codec_Operation_ rfl) rfl (by show 2 * 0 + _ ≤ _; exact Nat.le_of_eq rfl) (hb hby at_9) (fun _ _ => ⟨rfl, e0, (by decide : 0 + 0 ≤ _), (by decide : 0 + 0 ≤ _)⟩)
    dsimp only [Pt.U, Pt.locs, Pt.cells, Pt.slots] at X22 l22 y22 z22 st22 hQ22
    subst l22 y22 z22
    obtain ⟨rfl, N22q, hh22⟩ := hQ22
    have N22 := Fr.app N0 N22q
    refine own_go st22 ?_
    show own_G p.tables e below s _ _ _ (T22.setTop (mkF m 12 #[.val (.int p1), .val (.int (5 : Int32)), .unset, .unset] [(.ref a)]))
    refine own_go (fun t k => XS.astoreN X22.here hx rfl (hb hby at_12) rfl rfl (l' := #[.val (.int p1), .val (.int (5 : Int32)), .val (.ref a), .unset]) rfl k) ?_
    show own_G p.tables e below s _ _ _ (T22.setTop (mkF m 13 #[.val (.int p1), .val (.int (5 : Int32)), .val (.ref a), .unset] []))
    refine own_go (fun t k => XS.iloadN X22.here hx rfl (hb hby at_13) rfl k) ?_
    show own_G p.tables e below s _ _ _ (T22.setTop (mkF m 14 #[.val (.int p1), .val (.int (5 : Int32)), .val (.ref a), .unset] [(.int (5 : Int32))]))
    refine own_go (fun t k => XS.iconst X22.here hx rfl (hb hby at_14) k) ?_
    show own_G p.tables e below s _ _ _ (T22.setTop (mkF m 15 #[.val (.int p1), .val (.int (5 : Int32)), .val (.ref a), .unset] [(.int (1 : Int32)), (.int (5 : Int32))]))
    refine own_go (fun t k => XS.icmpNo X22.here hx rfl (hb hby at_15) rfl (by decide) k) ?_
    show own_G p.tables e below s _ _ _ (T22.setTop (mkF m 18 #[.val (.int p1), .val (.int (5 : Int32)), .val (.ref a), .unset] []))
    refine own_go (fun t k => XS.iloadN X22.here hx rfl (hb hby at_18) rfl k) ?_
    show own_G p.tables e below s _ _ _ (T22.setTop (mkF m 19 #[.val (.int p1), .val (.int (5 : Int32)), .val (.ref a), .unset] [(.int (5 : Int32))]))
    refine own_go (fun t k => XS.bipush X22.here hx rfl (hb hby at_19) k) ?_
    show own_G p.tables e below s _ _ _ (T22.setTop (mkF m 21 #[.val (.int p1), .val (.int (5 : Int32)), .val (.ref a), .unset] [(.int (8 : Int32)), (.int (5 : Int32))]))
    refine own_go (fun t k => XS.icmpNo X22.here hx rfl (hb hby at_21) rfl (by decide) k) ?_
    show own_G p.tables e below s _ _ _ (T22.setTop (mkF m 24 #[.val (.int p1), .val (.int (5 : Int32)), .val (.ref a), .unset] []))
    refine own_go (fun t k => XS.iconst X22.here hx rfl (hb hby at_24) k) ?_
    show own_G p.tables e below s _ _ _ (T22.setTop (mkF m 25 #[.val (.int p1), .val (.int (5 : Int32)), .val (.ref a), .unset] [(.int (1 : Int32))]))
    refine own_go (fun t k => XS.goto X22.here hx rfl (pc0 := 25) (pc' := 29) rfl (hb hby at_25) (by decide) (by decide) k) ?_
    show own_G p.tables e below s _ _ _ (T22.setTop (mkF m 29 #[.val (.int p1), .val (.int (5 : Int32)), .val (.ref a), .unset] [(.int (1 : Int32))]))
    refine own_go (fun t k => XS.istoreN X22.here hx rfl (hb hby at_29) rfl (l' := #[.val (.int p1), .val (.int (5 : Int32)), .val (.ref a), .val (.int (1 : Int32))]) rfl k) ?_
    show own_G p.tables e below s _ _ _ (T22.setTop (mkF m 30 #[.val (.int p1), .val (.int (5 : Int32)), .val (.ref a), .val (.int (1 : Int32))] []))
    refine own_go (fun t k => XS.aloadN X22.here hx rfl (hb hby at_30) rfl rfl k) ?_
    show own_G p.tables e below s _ _ _ (T22.setTop (mkF m 31 #[.val (.int p1), .val (.int (5 : Int32)), .val (.ref a), .val (.int (1 : Int32))] [(.ref a)]))
    obtain ⟨cq23, kq23, q23a, q23b, q23c⟩ := isOf hZ hh22 Ea
    obtain ⟨_, _, ⟨T23, L23, k23, n23⟩, -, X23, ⟨Lc23, hQ23, l23, y23, z23⟩, st23⟩ := X22.virtualBack hx (y := (⟨"com/example/cartulary/cartulary/codec/Operation", "hasResponse", "()Z"⟩ : MethodName)) (z := (⟨"com/example/cartulary/cartulary/codec/Operation", "hasResponse", "()Z"⟩ : MethodName)) hown (mvT hZ (hw _ (List.mem_of_getElem? (i := 8) rfl))) (mvT hZ (hw _ (List.mem_of_getElem? (i := 9) rfl))) (notFace_of_selects (args := #[]) (mvT hZ (hw _ (List.mem_of_getElem? (i := 11) rfl)))) (mvT hZ (hw _ (List.mem_of_getElem? (i := 11) rfl))) (mvT hZ (hw _ (List.mem_of_getElem? (i := 10) rfl))) (by decide) (backOf (W := 0) (rm2 l Z a0 hw [] a (107 : Int32) (1 : Int32) h0 n0 Z0 Fa (by decide)) hZ (hw _ (List.mem_of_getElem? (i := 12) rfl)) (hw _ (List.mem_of_getElem? (i := 6) rfl)) (by decide) (by decide)) q23a q23c (g := (mkF m 31 #[.val (.int p1), .val (.int (5 : Int32)), .val (.ref a), .val (.int (1 : Int32))] [(.ref a)])) rfl (by rw [hml]; rfl) (Steps.refl _) (argsL := []) (rest := []) (lenOf pd___Z rfl) rfl (by show 2 * 0 + _ ≤ _; exact Nat.le_of_eq rfl) (hb hby at_31) (fun _ _ => ⟨rfl, hh22, (by decide : 0 + 0 ≤ _), (by decide : 0 + 0 ≤ _)⟩)
    dsimp only [Pt.U, Pt.locs, Pt.cells, Pt.slots] at X23 l23 y23 z23 st23 hQ23
    subst l23 y23 z23
    obtain ⟨rfl, N23q, hh23⟩ := hQ23
    have N23 := Fr.app N22 N23q
    refine own_go (fun t k => st23.trans k) ?_
    show own_G p.tables e below s _ _ _ (T23.setTop (mkF m 34 #[.val (.int p1), .val (.int (5 : Int32)), .val (.ref a), .val (.int (1 : Int32))] [(.int (1 : Int32))]))
    refine own_go (fun t k => XS.iloadN X23.here hx rfl (hb hby at_34) rfl k) ?_
    show own_G p.tables e below s _ _ _ (T23.setTop (mkF m 35 #[.val (.int p1), .val (.int (5 : Int32)), .val (.ref a), .val (.int (1 : Int32))] [(.int (1 : Int32)), (.int (1 : Int32))]))
    refine own_go (fun t k => XS.icmpNo X23.here hx rfl (hb hby at_35) rfl (by decide) k) ?_
    show own_G p.tables e below s _ _ _ (T23.setTop (mkF m 38 #[.val (.int p1), .val (.int (5 : Int32)), .val (.ref a), .val (.int (1 : Int32))] []))
    refine own_go (fun t k => XS.iconst X23.here hx rfl (hb hby at_38) k) ?_
    show own_G p.tables e below s _ _ _ (T23.setTop (mkF m 39 #[.val (.int p1), .val (.int (5 : Int32)), .val (.ref a), .val (.int (1 : Int32))] [(.int (1 : Int32))]))
    refine own_go (fun t k => XS.goto X23.here hx rfl (pc0 := 39) (pc' := 43) rfl (hb hby at_39) (by decide) (by decide) k) ?_
    show own_G p.tables e below s _ _ _ (T23.setTop (mkF m 43 #[.val (.int p1), .val (.int (5 : Int32)), .val (.ref a), .val (.int (1 : Int32))] [(.int (1 : Int32))]))
    exact own_retN X23 hx hlk (t := .boolean) (z' := (1 : Int32)) Bd.returns (by simp) (hb hby at_43) (rfl) (by rw [hh23]; exact ⟨rfl, N23⟩) (by decide) (by decide)
  · rw [hk]
    show own_G p.tables e below s _ _ _ (s₁.setTop (mkF m 7 #[.val (.int p1), .unset, .unset, .unset] [(.int (6 : Int32))]))
    obtain ⟨a, Sa, Ea, Fa⟩ := K6
    refine own_go (fun t k => XS.istoreN X0.here hx rfl (hb hby at_7) rfl (l' := #[.val (.int p1), .val (.int (6 : Int32)), .unset, .unset]) rfl k) ?_
    show own_G p.tables e below s _ _ _ (s₁.setTop (mkF m 8 #[.val (.int p1), .val (.int (6 : Int32)), .unset, .unset] []))
    refine own_go (fun t k => XS.iloadN X0.here hx rfl (hb hby at_8) rfl k) ?_
    show own_G p.tables e below s _ _ _ (s₁.setTop (mkF m 9 #[.val (.int p1), .val (.int (6 : Int32)), .unset, .unset] [(.int (6 : Int32))]))
    obtain ⟨_, _, ⟨T24, L24, k24, n24⟩, -, X24, ⟨Lc24, hQ24, l24, y24, z24⟩, st24⟩ := Jvm.LawKit.callS X0 hx (y := (⟨"com/example/cartulary/cartulary/codec/OperationHasResponsePinLaw", "pick", "(I)Lcom/example/cartulary/cartulary/codec/Operation;"⟩ : MethodName)) hown (mvT hZ (hw _ (List.mem_of_getElem? (i := 1) rfl))) (mvT hZ (hw _ (List.mem_of_getElem? (i := 2) rfl))) (mvT hZ (hw _ (List.mem_of_getElem? (i := 3) rfl))) (mvT hZ (hw _ (List.mem_of_getElem? (i := 4) rfl))) (by decide) (backOf (W := 0) (rm1_6 l Z a0 hw [] a h0 n0 Z0 Sa) hZ (hw _ (List.mem_of_getElem? (i := 4) rfl)) (hw _ (List.mem_of_getElem? (i := 3) rfl)) (by decide) (by decide)) (g := (mkF m 9 #[.val (.int p1), .val (.int (6 : Int32)), .unset, .unset] [(.int (6 : Int32))])) rfl (by rw [hml]; rfl) (argsL := [(.int (6 : Int32))]) (rest := []) (lenOf pd__I_Lcom_example_cartulary_cartulary_codec_Operation_ rfl) rfl (by show 2 * 0 + _ ≤ _; exact Nat.le_of_eq rfl) (hb hby at_9) (fun _ _ => ⟨rfl, e0, (by decide : 0 + 0 ≤ _), (by decide : 0 + 0 ≤ _)⟩)
    dsimp only [Pt.U, Pt.locs, Pt.cells, Pt.slots] at X24 l24 y24 z24 st24 hQ24
    subst l24 y24 z24
    obtain ⟨rfl, N24q, hh24⟩ := hQ24
    have N24 := Fr.app N0 N24q
    refine own_go st24 ?_
    show own_G p.tables e below s _ _ _ (T24.setTop (mkF m 12 #[.val (.int p1), .val (.int (6 : Int32)), .unset, .unset] [(.ref a)]))
    refine own_go (fun t k => XS.astoreN X24.here hx rfl (hb hby at_12) rfl rfl (l' := #[.val (.int p1), .val (.int (6 : Int32)), .val (.ref a), .unset]) rfl k) ?_
    show own_G p.tables e below s _ _ _ (T24.setTop (mkF m 13 #[.val (.int p1), .val (.int (6 : Int32)), .val (.ref a), .unset] []))
    refine own_go (fun t k => XS.iloadN X24.here hx rfl (hb hby at_13) rfl k) ?_
    show own_G p.tables e below s _ _ _ (T24.setTop (mkF m 14 #[.val (.int p1), .val (.int (6 : Int32)), .val (.ref a), .unset] [(.int (6 : Int32))]))
    refine own_go (fun t k => XS.iconst X24.here hx rfl (hb hby at_14) k) ?_
    show own_G p.tables e below s _ _ _ (T24.setTop (mkF m 15 #[.val (.int p1), .val (.int (6 : Int32)), .val (.ref a), .unset] [(.int (1 : Int32)), (.int (6 : Int32))]))
    refine own_go (fun t k => XS.icmpNo X24.here hx rfl (hb hby at_15) rfl (by decide) k) ?_
    show own_G p.tables e below s _ _ _ (T24.setTop (mkF m 18 #[.val (.int p1), .val (.int (6 : Int32)), .val (.ref a), .unset] []))
    refine own_go (fun t k => XS.iloadN X24.here hx rfl (hb hby at_18) rfl k) ?_
    show own_G p.tables e below s _ _ _ (T24.setTop (mkF m 19 #[.val (.int p1), .val (.int (6 : Int32)), .val (.ref a), .unset] [(.int (6 : Int32))]))
    refine own_go (fun t k => XS.bipush X24.here hx rfl (hb hby at_19) k) ?_
    show own_G p.tables e below s _ _ _ (T24.setTop (mkF m 21 #[.val (.int p1), .val (.int (6 : Int32)), .val (.ref a), .unset] [(.int (8 : Int32)), (.int (6 : Int32))]))
    refine own_go (fun t k => XS.icmpNo X24.here hx rfl (hb hby at_21) rfl (by decide) k) ?_
    show own_G p.tables e below s _ _ _ (T24.setTop (mkF m 24 #[.val (.int p1), .val (.int (6 : Int32)), .val (.ref a), .unset] []))
    refine own_go (fun t k => XS.iconst X24.here hx rfl (hb hby at_24) k) ?_
    show own_G p.tables e below s _ _ _ (T24.setTop (mkF m 25 #[.val (.int p1), .val (.int (6 : Int32)), .val (.ref a), .unset] [(.int (1 : Int32))]))
    refine own_go (fun t k => XS.goto X24.here hx rfl (pc0 := 25) (pc' := 29) rfl (hb hby at_25) (by decide) (by decide) k) ?_
    show own_G p.tables e below s _ _ _ (T24.setTop (mkF m 29 #[.val (.int p1), .val (.int (6 : Int32)), .val (.ref a), .unset] [(.int (1 : Int32))]))
    refine own_go (fun t k => XS.istoreN X24.here hx rfl (hb hby at_29) rfl (l' := #[.val (.int p1), .val (.int (6 : Int32)), .val (.ref a), .val (.int (1 : Int32))]) rfl k) ?_
    show own_G p.tables e below s _ _ _ (T24.setTop (mkF m 30 #[.val (.int p1), .val (.int (6 : Int32)), .val (.ref a), .val (.int (1 : Int32))] []))
    refine own_go (fun t k => XS.aloadN X24.here hx rfl (hb hby at_30) rfl rfl k) ?_
    show own_G p.tables e below s _ _ _ (T24.setTop (mkF m 31 #[.val (.int p1), .val (.int (6 : Int32)), .val (.ref a), .val (.int (1 : Int32))] [(.ref a)]))
    obtain ⟨cq25, kq25, q25a, q25b, q25c⟩ := isOf hZ hh24 Ea
    obtain ⟨_, _, ⟨T25, L25, k25, n25⟩, -, X25, ⟨Lc25, hQ25, l25, y25, z25⟩, st25⟩ := X24.virtualBack hx (y := (⟨"com/example/cartulary/cartulary/codec/Operation", "hasResponse", "()Z"⟩ : MethodName)) (z := (⟨"com/example/cartulary/cartulary/codec/Operation", "hasResponse", "()Z"⟩ : MethodName)) hown (mvT hZ (hw _ (List.mem_of_getElem? (i := 8) rfl))) (mvT hZ (hw _ (List.mem_of_getElem? (i := 9) rfl))) (notFace_of_selects (args := #[]) (mvT hZ (hw _ (List.mem_of_getElem? (i := 11) rfl)))) (mvT hZ (hw _ (List.mem_of_getElem? (i := 11) rfl))) (mvT hZ (hw _ (List.mem_of_getElem? (i := 10) rfl))) (by decide) (backOf (W := 0) (rm2 l Z a0 hw [] a (109 : Int32) (1 : Int32) h0 n0 Z0 Fa (by decide)) hZ (hw _ (List.mem_of_getElem? (i := 12) rfl)) (hw _ (List.mem_of_getElem? (i := 6) rfl)) (by decide) (by decide)) q25a q25c (g := (mkF m 31 #[.val (.int p1), .val (.int (6 : Int32)), .val (.ref a), .val (.int (1 : Int32))] [(.ref a)])) rfl (by rw [hml]; rfl) (Steps.refl _) (argsL := []) (rest := []) (lenOf pd___Z rfl) rfl (by show 2 * 0 + _ ≤ _; exact Nat.le_of_eq rfl) (hb hby at_31) (fun _ _ => ⟨rfl, hh24, (by decide : 0 + 0 ≤ _), (by decide : 0 + 0 ≤ _)⟩)
    dsimp only [Pt.U, Pt.locs, Pt.cells, Pt.slots] at X25 l25 y25 z25 st25 hQ25
    subst l25 y25 z25
    obtain ⟨rfl, N25q, hh25⟩ := hQ25
    have N25 := Fr.app N24 N25q
    refine own_go (fun t k => st25.trans k) ?_
    show own_G p.tables e below s _ _ _ (T25.setTop (mkF m 34 #[.val (.int p1), .val (.int (6 : Int32)), .val (.ref a), .val (.int (1 : Int32))] [(.int (1 : Int32))]))
    refine own_go (fun t k => XS.iloadN X25.here hx rfl (hb hby at_34) rfl k) ?_
    show own_G p.tables e below s _ _ _ (T25.setTop (mkF m 35 #[.val (.int p1), .val (.int (6 : Int32)), .val (.ref a), .val (.int (1 : Int32))] [(.int (1 : Int32)), (.int (1 : Int32))]))
    refine own_go (fun t k => XS.icmpNo X25.here hx rfl (hb hby at_35) rfl (by decide) k) ?_
    show own_G p.tables e below s _ _ _ (T25.setTop (mkF m 38 #[.val (.int p1), .val (.int (6 : Int32)), .val (.ref a), .val (.int (1 : Int32))] []))
    refine own_go (fun t k => XS.iconst X25.here hx rfl (hb hby at_38) k) ?_
    show own_G p.tables e below s _ _ _ (T25.setTop (mkF m 39 #[.val (.int p1), .val (.int (6 : Int32)), .val (.ref a), .val (.int (1 : Int32))] [(.int (1 : Int32))]))
    refine own_go (fun t k => XS.goto X25.here hx rfl (pc0 := 39) (pc' := 43) rfl (hb hby at_39) (by decide) (by decide) k) ?_
    show own_G p.tables e below s _ _ _ (T25.setTop (mkF m 43 #[.val (.int p1), .val (.int (6 : Int32)), .val (.ref a), .val (.int (1 : Int32))] [(.int (1 : Int32))]))
    exact own_retN X25 hx hlk (t := .boolean) (z' := (1 : Int32)) Bd.returns (by simp) (hb hby at_43) (rfl) (by rw [hh25]; exact ⟨rfl, N25⟩) (by decide) (by decide)
  · rw [hk]
    show own_G p.tables e below s _ _ _ (s₁.setTop (mkF m 7 #[.val (.int p1), .unset, .unset, .unset] [(.int (7 : Int32))]))
    obtain ⟨a, Sa, Ea, Fa⟩ := K7
    refine own_go (fun t k => XS.istoreN X0.here hx rfl (hb hby at_7) rfl (l' := #[.val (.int p1), .val (.int (7 : Int32)), .unset, .unset]) rfl k) ?_
    show own_G p.tables e below s _ _ _ (s₁.setTop (mkF m 8 #[.val (.int p1), .val (.int (7 : Int32)), .unset, .unset] []))
    refine own_go (fun t k => XS.iloadN X0.here hx rfl (hb hby at_8) rfl k) ?_
    show own_G p.tables e below s _ _ _ (s₁.setTop (mkF m 9 #[.val (.int p1), .val (.int (7 : Int32)), .unset, .unset] [(.int (7 : Int32))]))
    obtain ⟨_, _, ⟨T26, L26, k26, n26⟩, -, X26, ⟨Lc26, hQ26, l26, y26, z26⟩, st26⟩ := Jvm.LawKit.callS X0 hx (y := (⟨"com/example/cartulary/cartulary/codec/OperationHasResponsePinLaw", "pick", "(I)Lcom/example/cartulary/cartulary/codec/Operation;"⟩ : MethodName)) hown (mvT hZ (hw _ (List.mem_of_getElem? (i := 1) rfl))) (mvT hZ (hw _ (List.mem_of_getElem? (i := 2) rfl))) (mvT hZ (hw _ (List.mem_of_getElem? (i := 3) rfl))) (mvT hZ (hw _ (List.mem_of_getElem? (i := 4) rfl))) (by decide) (backOf (W := 0) (rm1_7 l Z a0 hw [] a h0 n0 Z0 Sa) hZ (hw _ (List.mem_of_getElem? (i := 4) rfl)) (hw _ (List.mem_of_getElem? (i := 3) rfl)) (by decide) (by decide)) (g := (mkF m 9 #[.val (.int p1), .val (.int (7 : Int32)), .unset, .unset] [(.int (7 : Int32))])) rfl (by rw [hml]; rfl) (argsL := [(.int (7 : Int32))]) (rest := []) (lenOf pd__I_Lcom_example_cartulary_cartulary_codec_Operation_ rfl) rfl (by show 2 * 0 + _ ≤ _; exact Nat.le_of_eq rfl) (hb hby at_9) (fun _ _ => ⟨rfl, e0, (by decide : 0 + 0 ≤ _), (by decide : 0 + 0 ≤ _)⟩)
    dsimp only [Pt.U, Pt.locs, Pt.cells, Pt.slots] at X26 l26 y26 z26 st26 hQ26
    subst l26 y26 z26
    obtain ⟨rfl, N26q, hh26⟩ := hQ26
    have N26 := Fr.app N0 N26q
    refine own_go st26 ?_
    show own_G p.tables e below s _ _ _ (T26.setTop (mkF m 12 #[.val (.int p1), .val (.int (7 : Int32)), .unset, .unset] [(.ref a)]))
    refine own_go (fun t k => XS.astoreN X26.here hx rfl (hb hby at_12) rfl rfl (l' := #[.val (.int p1), .val (.int (7 : Int32)), .val (.ref a), .unset]) rfl k) ?_
    show own_G p.tables e below s _ _ _ (T26.setTop (mkF m 13 #[.val (.int p1), .val (.int (7 : Int32)), .val (.ref a), .unset] []))
    refine own_go (fun t k => XS.iloadN X26.here hx rfl (hb hby at_13) rfl k) ?_
    show own_G p.tables e below s _ _ _ (T26.setTop (mkF m 14 #[.val (.int p1), .val (.int (7 : Int32)), .val (.ref a), .unset] [(.int (7 : Int32))]))
    refine own_go (fun t k => XS.iconst X26.here hx rfl (hb hby at_14) k) ?_
    show own_G p.tables e below s _ _ _ (T26.setTop (mkF m 15 #[.val (.int p1), .val (.int (7 : Int32)), .val (.ref a), .unset] [(.int (1 : Int32)), (.int (7 : Int32))]))
    refine own_go (fun t k => XS.icmpNo X26.here hx rfl (hb hby at_15) rfl (by decide) k) ?_
    show own_G p.tables e below s _ _ _ (T26.setTop (mkF m 18 #[.val (.int p1), .val (.int (7 : Int32)), .val (.ref a), .unset] []))
    refine own_go (fun t k => XS.iloadN X26.here hx rfl (hb hby at_18) rfl k) ?_
    show own_G p.tables e below s _ _ _ (T26.setTop (mkF m 19 #[.val (.int p1), .val (.int (7 : Int32)), .val (.ref a), .unset] [(.int (7 : Int32))]))
    refine own_go (fun t k => XS.bipush X26.here hx rfl (hb hby at_19) k) ?_
    show own_G p.tables e below s _ _ _ (T26.setTop (mkF m 21 #[.val (.int p1), .val (.int (7 : Int32)), .val (.ref a), .unset] [(.int (8 : Int32)), (.int (7 : Int32))]))
    refine own_go (fun t k => XS.icmpNo X26.here hx rfl (hb hby at_21) rfl (by decide) k) ?_
    show own_G p.tables e below s _ _ _ (T26.setTop (mkF m 24 #[.val (.int p1), .val (.int (7 : Int32)), .val (.ref a), .unset] []))
    refine own_go (fun t k => XS.iconst X26.here hx rfl (hb hby at_24) k) ?_
    show own_G p.tables e below s _ _ _ (T26.setTop (mkF m 25 #[.val (.int p1), .val (.int (7 : Int32)), .val (.ref a), .unset] [(.int (1 : Int32))]))
    refine own_go (fun t k => XS.goto X26.here hx rfl (pc0 := 25) (pc' := 29) rfl (hb hby at_25) (by decide) (by decide) k) ?_
    show own_G p.tables e below s _ _ _ (T26.setTop (mkF m 29 #[.val (.int p1), .val (.int (7 : Int32)), .val (.ref a), .unset] [(.int (1 : Int32))]))
    refine own_go (fun t k => XS.istoreN X26.here hx rfl (hb hby at_29) rfl (l' := #[.val (.int p1), .val (.int (7 : Int32)), .val (.ref a), .val (.int (1 : Int32))]) rfl k) ?_
    show own_G p.tables e below s _ _ _ (T26.setTop (mkF m 30 #[.val (.int p1), .val (.int (7 : Int32)), .val (.ref a), .val (.int (1 : Int32))] []))
    refine own_go (fun t k => XS.aloadN X26.here hx rfl (hb hby at_30) rfl rfl k) ?_
    show own_G p.tables e below s _ _ _ (T26.setTop (mkF m 31 #[.val (.int p1), .val (.int (7 : Int32)), .val (.ref a), .val (.int (1 : Int32))] [(.ref a)]))
    obtain ⟨cq27, kq27, q27a, q27b, q27c⟩ := isOf hZ hh26 Ea
    obtain ⟨_, _, ⟨T27, L27, k27, n27⟩, -, X27, ⟨Lc27, hQ27, l27, y27, z27⟩, st27⟩ := X26.virtualBack hx (y := (⟨"com/example/cartulary/cartulary/codec/Operation", "hasResponse", "()Z"⟩ : MethodName)) (z := (⟨"com/example/cartulary/cartulary/codec/Operation", "hasResponse", "()Z"⟩ : MethodName)) hown (mvT hZ (hw _ (List.mem_of_getElem? (i := 8) rfl))) (mvT hZ (hw _ (List.mem_of_getElem? (i := 9) rfl))) (notFace_of_selects (args := #[]) (mvT hZ (hw _ (List.mem_of_getElem? (i := 11) rfl)))) (mvT hZ (hw _ (List.mem_of_getElem? (i := 11) rfl))) (mvT hZ (hw _ (List.mem_of_getElem? (i := 10) rfl))) (by decide) (backOf (W := 0) (rm2 l Z a0 hw [] a (111 : Int32) (1 : Int32) h0 n0 Z0 Fa (by decide)) hZ (hw _ (List.mem_of_getElem? (i := 12) rfl)) (hw _ (List.mem_of_getElem? (i := 6) rfl)) (by decide) (by decide)) q27a q27c (g := (mkF m 31 #[.val (.int p1), .val (.int (7 : Int32)), .val (.ref a), .val (.int (1 : Int32))] [(.ref a)])) rfl (by rw [hml]; rfl) (Steps.refl _) (argsL := []) (rest := []) (lenOf pd___Z rfl) rfl (by show 2 * 0 + _ ≤ _; exact Nat.le_of_eq rfl) (hb hby at_31) (fun _ _ => ⟨rfl, hh26, (by decide : 0 + 0 ≤ _), (by decide : 0 + 0 ≤ _)⟩)
    dsimp only [Pt.U, Pt.locs, Pt.cells, Pt.slots] at X27 l27 y27 z27 st27 hQ27
    subst l27 y27 z27
    obtain ⟨rfl, N27q, hh27⟩ := hQ27
    have N27 := Fr.app N26 N27q
    refine own_go (fun t k => st27.trans k) ?_
    show own_G p.tables e below s _ _ _ (T27.setTop (mkF m 34 #[.val (.int p1), .val (.int (7 : Int32)), .val (.ref a), .val (.int (1 : Int32))] [(.int (1 : Int32))]))
    refine own_go (fun t k => XS.iloadN X27.here hx rfl (hb hby at_34) rfl k) ?_
    show own_G p.tables e below s _ _ _ (T27.setTop (mkF m 35 #[.val (.int p1), .val (.int (7 : Int32)), .val (.ref a), .val (.int (1 : Int32))] [(.int (1 : Int32)), (.int (1 : Int32))]))
    refine own_go (fun t k => XS.icmpNo X27.here hx rfl (hb hby at_35) rfl (by decide) k) ?_
    show own_G p.tables e below s _ _ _ (T27.setTop (mkF m 38 #[.val (.int p1), .val (.int (7 : Int32)), .val (.ref a), .val (.int (1 : Int32))] []))
    refine own_go (fun t k => XS.iconst X27.here hx rfl (hb hby at_38) k) ?_
    show own_G p.tables e below s _ _ _ (T27.setTop (mkF m 39 #[.val (.int p1), .val (.int (7 : Int32)), .val (.ref a), .val (.int (1 : Int32))] [(.int (1 : Int32))]))
    refine own_go (fun t k => XS.goto X27.here hx rfl (pc0 := 39) (pc' := 43) rfl (hb hby at_39) (by decide) (by decide) k) ?_
    show own_G p.tables e below s _ _ _ (T27.setTop (mkF m 43 #[.val (.int p1), .val (.int (7 : Int32)), .val (.ref a), .val (.int (1 : Int32))] [(.int (1 : Int32))]))
    exact own_retN X27 hx hlk (t := .boolean) (z' := (1 : Int32)) Bd.returns (by simp) (hb hby at_43) (rfl) (by rw [hh27]; exact ⟨rfl, N27⟩) (by decide) (by decide)
  · rw [hk]
    show own_G p.tables e below s _ _ _ (s₁.setTop (mkF m 7 #[.val (.int p1), .unset, .unset, .unset] [(.int (8 : Int32))]))
    obtain ⟨a, Sa, Ea, Fa⟩ := K8
    refine own_go (fun t k => XS.istoreN X0.here hx rfl (hb hby at_7) rfl (l' := #[.val (.int p1), .val (.int (8 : Int32)), .unset, .unset]) rfl k) ?_
    show own_G p.tables e below s _ _ _ (s₁.setTop (mkF m 8 #[.val (.int p1), .val (.int (8 : Int32)), .unset, .unset] []))
    refine own_go (fun t k => XS.iloadN X0.here hx rfl (hb hby at_8) rfl k) ?_
    show own_G p.tables e below s _ _ _ (s₁.setTop (mkF m 9 #[.val (.int p1), .val (.int (8 : Int32)), .unset, .unset] [(.int (8 : Int32))]))
    obtain ⟨_, _, ⟨T28, L28, k28, n28⟩, -, X28, ⟨Lc28, hQ28, l28, y28, z28⟩, st28⟩ := Jvm.LawKit.callS X0 hx (y := (⟨"com/example/cartulary/cartulary/codec/OperationHasResponsePinLaw", "pick", "(I)Lcom/example/cartulary/cartulary/codec/Operation;"⟩ : MethodName)) hown (mvT hZ (hw _ (List.mem_of_getElem? (i := 1) rfl))) (mvT hZ (hw _ (List.mem_of_getElem? (i := 2) rfl))) (mvT hZ (hw _ (List.mem_of_getElem? (i := 3) rfl))) (mvT hZ (hw _ (List.mem_of_getElem? (i := 4) rfl))) (by decide) (backOf (W := 0) (rm1_8 l Z a0 hw [] a h0 n0 Z0 Sa) hZ (hw _ (List.mem_of_getElem? (i := 4) rfl)) (hw _ (List.mem_of_getElem? (i := 3) rfl)) (by decide) (by decide)) (g := (mkF m 9 #[.val (.int p1), .val (.int (8 : Int32)), .unset, .unset] [(.int (8 : Int32))])) rfl (by rw [hml]; rfl) (argsL := [(.int (8 : Int32))]) (rest := []) (lenOf pd__I_Lcom_example_cartulary_cartulary_codec_Operation_ rfl) rfl (by show 2 * 0 + _ ≤ _; exact Nat.le_of_eq rfl) (hb hby at_9) (fun _ _ => ⟨rfl, e0, (by decide : 0 + 0 ≤ _), (by decide : 0 + 0 ≤ _)⟩)
    dsimp only [Pt.U, Pt.locs, Pt.cells, Pt.slots] at X28 l28 y28 z28 st28 hQ28
    subst l28 y28 z28
    obtain ⟨rfl, N28q, hh28⟩ := hQ28
    have N28 := Fr.app N0 N28q
    refine own_go st28 ?_
    show own_G p.tables e below s _ _ _ (T28.setTop (mkF m 12 #[.val (.int p1), .val (.int (8 : Int32)), .unset, .unset] [(.ref a)]))
    refine own_go (fun t k => XS.astoreN X28.here hx rfl (hb hby at_12) rfl rfl (l' := #[.val (.int p1), .val (.int (8 : Int32)), .val (.ref a), .unset]) rfl k) ?_
    show own_G p.tables e below s _ _ _ (T28.setTop (mkF m 13 #[.val (.int p1), .val (.int (8 : Int32)), .val (.ref a), .unset] []))
    refine own_go (fun t k => XS.iloadN X28.here hx rfl (hb hby at_13) rfl k) ?_
    show own_G p.tables e below s _ _ _ (T28.setTop (mkF m 14 #[.val (.int p1), .val (.int (8 : Int32)), .val (.ref a), .unset] [(.int (8 : Int32))]))
    refine own_go (fun t k => XS.iconst X28.here hx rfl (hb hby at_14) k) ?_
    show own_G p.tables e below s _ _ _ (T28.setTop (mkF m 15 #[.val (.int p1), .val (.int (8 : Int32)), .val (.ref a), .unset] [(.int (1 : Int32)), (.int (8 : Int32))]))
    refine own_go (fun t k => XS.icmpNo X28.here hx rfl (hb hby at_15) rfl (by decide) k) ?_
    show own_G p.tables e below s _ _ _ (T28.setTop (mkF m 18 #[.val (.int p1), .val (.int (8 : Int32)), .val (.ref a), .unset] []))
    refine own_go (fun t k => XS.iloadN X28.here hx rfl (hb hby at_18) rfl k) ?_
    show own_G p.tables e below s _ _ _ (T28.setTop (mkF m 19 #[.val (.int p1), .val (.int (8 : Int32)), .val (.ref a), .unset] [(.int (8 : Int32))]))
    refine own_go (fun t k => XS.bipush X28.here hx rfl (hb hby at_19) k) ?_
    show own_G p.tables e below s _ _ _ (T28.setTop (mkF m 21 #[.val (.int p1), .val (.int (8 : Int32)), .val (.ref a), .unset] [(.int (8 : Int32)), (.int (8 : Int32))]))
    refine own_go (fun t k => XS.icmpYes X28.here hx rfl (pc0 := 21) (pc' := 28) rfl (hb hby at_21) rfl (by decide) (by decide) (by decide) k) ?_
    show own_G p.tables e below s _ _ _ (T28.setTop (mkF m 28 #[.val (.int p1), .val (.int (8 : Int32)), .val (.ref a), .unset] []))
    refine own_go (fun t k => XS.iconst X28.here hx rfl (hb hby at_28) k) ?_
    show own_G p.tables e below s _ _ _ (T28.setTop (mkF m 29 #[.val (.int p1), .val (.int (8 : Int32)), .val (.ref a), .unset] [(.int (0 : Int32))]))
    refine own_go (fun t k => XS.istoreN X28.here hx rfl (hb hby at_29) rfl (l' := #[.val (.int p1), .val (.int (8 : Int32)), .val (.ref a), .val (.int (0 : Int32))]) rfl k) ?_
    show own_G p.tables e below s _ _ _ (T28.setTop (mkF m 30 #[.val (.int p1), .val (.int (8 : Int32)), .val (.ref a), .val (.int (0 : Int32))] []))
    refine own_go (fun t k => XS.aloadN X28.here hx rfl (hb hby at_30) rfl rfl k) ?_
    show own_G p.tables e below s _ _ _ (T28.setTop (mkF m 31 #[.val (.int p1), .val (.int (8 : Int32)), .val (.ref a), .val (.int (0 : Int32))] [(.ref a)]))
    obtain ⟨cq29, kq29, q29a, q29b, q29c⟩ := isOf hZ hh28 Ea
    obtain ⟨_, _, ⟨T29, L29, k29, n29⟩, -, X29, ⟨Lc29, hQ29, l29, y29, z29⟩, st29⟩ := X28.virtualBack hx (y := (⟨"com/example/cartulary/cartulary/codec/Operation", "hasResponse", "()Z"⟩ : MethodName)) (z := (⟨"com/example/cartulary/cartulary/codec/Operation", "hasResponse", "()Z"⟩ : MethodName)) hown (mvT hZ (hw _ (List.mem_of_getElem? (i := 8) rfl))) (mvT hZ (hw _ (List.mem_of_getElem? (i := 9) rfl))) (notFace_of_selects (args := #[]) (mvT hZ (hw _ (List.mem_of_getElem? (i := 11) rfl)))) (mvT hZ (hw _ (List.mem_of_getElem? (i := 11) rfl))) (mvT hZ (hw _ (List.mem_of_getElem? (i := 10) rfl))) (by decide) (backOf (W := 0) (rm2 l Z a0 hw [] a (-1 : Int32) (0 : Int32) h0 n0 Z0 Fa (by decide)) hZ (hw _ (List.mem_of_getElem? (i := 12) rfl)) (hw _ (List.mem_of_getElem? (i := 6) rfl)) (by decide) (by decide)) q29a q29c (g := (mkF m 31 #[.val (.int p1), .val (.int (8 : Int32)), .val (.ref a), .val (.int (0 : Int32))] [(.ref a)])) rfl (by rw [hml]; rfl) (Steps.refl _) (argsL := []) (rest := []) (lenOf pd___Z rfl) rfl (by show 2 * 0 + _ ≤ _; exact Nat.le_of_eq rfl) (hb hby at_31) (fun _ _ => ⟨rfl, hh28, (by decide : 0 + 0 ≤ _), (by decide : 0 + 0 ≤ _)⟩)
    dsimp only [Pt.U, Pt.locs, Pt.cells, Pt.slots] at X29 l29 y29 z29 st29 hQ29
    subst l29 y29 z29
    obtain ⟨rfl, N29q, hh29⟩ := hQ29
    have N29 := Fr.app N28 N29q
    refine own_go (fun t k => st29.trans k) ?_
    show own_G p.tables e below s _ _ _ (T29.setTop (mkF m 34 #[.val (.int p1), .val (.int (8 : Int32)), .val (.ref a), .val (.int (0 : Int32))] [(.int (0 : Int32))]))
    refine own_go (fun t k => XS.iloadN X29.here hx rfl (hb hby at_34) rfl k) ?_
    show own_G p.tables e below s _ _ _ (T29.setTop (mkF m 35 #[.val (.int p1), .val (.int (8 : Int32)), .val (.ref a), .val (.int (0 : Int32))] [(.int (0 : Int32)), (.int (0 : Int32))]))
    refine own_go (fun t k => XS.icmpNo X29.here hx rfl (hb hby at_35) rfl (by decide) k) ?_
    show own_G p.tables e below s _ _ _ (T29.setTop (mkF m 38 #[.val (.int p1), .val (.int (8 : Int32)), .val (.ref a), .val (.int (0 : Int32))] []))
    refine own_go (fun t k => XS.iconst X29.here hx rfl (hb hby at_38) k) ?_
    show own_G p.tables e below s _ _ _ (T29.setTop (mkF m 39 #[.val (.int p1), .val (.int (8 : Int32)), .val (.ref a), .val (.int (0 : Int32))] [(.int (1 : Int32))]))
    refine own_go (fun t k => XS.goto X29.here hx rfl (pc0 := 39) (pc' := 43) rfl (hb hby at_39) (by decide) (by decide) k) ?_
    show own_G p.tables e below s _ _ _ (T29.setTop (mkF m 43 #[.val (.int p1), .val (.int (8 : Int32)), .val (.ref a), .val (.int (0 : Int32))] [(.int (1 : Int32))]))
    exact own_retN X29 hx hlk (t := .boolean) (z' := (1 : Int32)) Bd.returns (by simp) (hb hby at_43) (rfl) (by rw [hh29]; exact ⟨rfl, N29⟩) (by decide) (by decide)
  · rw [hk]
    show own_G p.tables e below s _ _ _ (s₁.setTop (mkF m 7 #[.val (.int p1), .unset, .unset, .unset] [(.int (9 : Int32))]))
    obtain ⟨a, Sa, Ea, Fa⟩ := K9
    refine own_go (fun t k => XS.istoreN X0.here hx rfl (hb hby at_7) rfl (l' := #[.val (.int p1), .val (.int (9 : Int32)), .unset, .unset]) rfl k) ?_
    show own_G p.tables e below s _ _ _ (s₁.setTop (mkF m 8 #[.val (.int p1), .val (.int (9 : Int32)), .unset, .unset] []))
    refine own_go (fun t k => XS.iloadN X0.here hx rfl (hb hby at_8) rfl k) ?_
    show own_G p.tables e below s _ _ _ (s₁.setTop (mkF m 9 #[.val (.int p1), .val (.int (9 : Int32)), .unset, .unset] [(.int (9 : Int32))]))
    obtain ⟨_, _, ⟨T30, L30, k30, n30⟩, -, X30, ⟨Lc30, hQ30, l30, y30, z30⟩, st30⟩ := Jvm.LawKit.callS X0 hx (y := (⟨"com/example/cartulary/cartulary/codec/OperationHasResponsePinLaw", "pick", "(I)Lcom/example/cartulary/cartulary/codec/Operation;"⟩ : MethodName)) hown (mvT hZ (hw _ (List.mem_of_getElem? (i := 1) rfl))) (mvT hZ (hw _ (List.mem_of_getElem? (i := 2) rfl))) (mvT hZ (hw _ (List.mem_of_getElem? (i := 3) rfl))) (mvT hZ (hw _ (List.mem_of_getElem? (i := 4) rfl))) (by decide) (backOf (W := 0) (rm1_9 l Z a0 hw [] a h0 n0 Z0 Sa) hZ (hw _ (List.mem_of_getElem? (i := 4) rfl)) (hw _ (List.mem_of_getElem? (i := 3) rfl)) (by decide) (by decide)) (g := (mkF m 9 #[.val (.int p1), .val (.int (9 : Int32)), .unset, .unset] [(.int (9 : Int32))])) rfl (by rw [hml]; rfl) (argsL := [(.int (9 : Int32))]) (rest := []) (lenOf pd__I_Lcom_example_cartulary_cartulary_codec_Operation_ rfl) rfl (by show 2 * 0 + _ ≤ _; exact Nat.le_of_eq rfl) (hb hby at_9) (fun _ _ => ⟨rfl, e0, (by decide : 0 + 0 ≤ _), (by decide : 0 + 0 ≤ _)⟩)
    dsimp only [Pt.U, Pt.locs, Pt.cells, Pt.slots] at X30 l30 y30 z30 st30 hQ30
    subst l30 y30 z30
    obtain ⟨rfl, N30q, hh30⟩ := hQ30
    have N30 := Fr.app N0 N30q
    refine own_go st30 ?_
    show own_G p.tables e below s _ _ _ (T30.setTop (mkF m 12 #[.val (.int p1), .val (.int (9 : Int32)), .unset, .unset] [(.ref a)]))
    refine own_go (fun t k => XS.astoreN X30.here hx rfl (hb hby at_12) rfl rfl (l' := #[.val (.int p1), .val (.int (9 : Int32)), .val (.ref a), .unset]) rfl k) ?_
    show own_G p.tables e below s _ _ _ (T30.setTop (mkF m 13 #[.val (.int p1), .val (.int (9 : Int32)), .val (.ref a), .unset] []))
    refine own_go (fun t k => XS.iloadN X30.here hx rfl (hb hby at_13) rfl k) ?_
    show own_G p.tables e below s _ _ _ (T30.setTop (mkF m 14 #[.val (.int p1), .val (.int (9 : Int32)), .val (.ref a), .unset] [(.int (9 : Int32))]))
    refine own_go (fun t k => XS.iconst X30.here hx rfl (hb hby at_14) k) ?_
    show own_G p.tables e below s _ _ _ (T30.setTop (mkF m 15 #[.val (.int p1), .val (.int (9 : Int32)), .val (.ref a), .unset] [(.int (1 : Int32)), (.int (9 : Int32))]))
    refine own_go (fun t k => XS.icmpNo X30.here hx rfl (hb hby at_15) rfl (by decide) k) ?_
    show own_G p.tables e below s _ _ _ (T30.setTop (mkF m 18 #[.val (.int p1), .val (.int (9 : Int32)), .val (.ref a), .unset] []))
    refine own_go (fun t k => XS.iloadN X30.here hx rfl (hb hby at_18) rfl k) ?_
    show own_G p.tables e below s _ _ _ (T30.setTop (mkF m 19 #[.val (.int p1), .val (.int (9 : Int32)), .val (.ref a), .unset] [(.int (9 : Int32))]))
    refine own_go (fun t k => XS.bipush X30.here hx rfl (hb hby at_19) k) ?_
    show own_G p.tables e below s _ _ _ (T30.setTop (mkF m 21 #[.val (.int p1), .val (.int (9 : Int32)), .val (.ref a), .unset] [(.int (8 : Int32)), (.int (9 : Int32))]))
    refine own_go (fun t k => XS.icmpNo X30.here hx rfl (hb hby at_21) rfl (by decide) k) ?_
    show own_G p.tables e below s _ _ _ (T30.setTop (mkF m 24 #[.val (.int p1), .val (.int (9 : Int32)), .val (.ref a), .unset] []))
    refine own_go (fun t k => XS.iconst X30.here hx rfl (hb hby at_24) k) ?_
    show own_G p.tables e below s _ _ _ (T30.setTop (mkF m 25 #[.val (.int p1), .val (.int (9 : Int32)), .val (.ref a), .unset] [(.int (1 : Int32))]))
    refine own_go (fun t k => XS.goto X30.here hx rfl (pc0 := 25) (pc' := 29) rfl (hb hby at_25) (by decide) (by decide) k) ?_
    show own_G p.tables e below s _ _ _ (T30.setTop (mkF m 29 #[.val (.int p1), .val (.int (9 : Int32)), .val (.ref a), .unset] [(.int (1 : Int32))]))
    refine own_go (fun t k => XS.istoreN X30.here hx rfl (hb hby at_29) rfl (l' := #[.val (.int p1), .val (.int (9 : Int32)), .val (.ref a), .val (.int (1 : Int32))]) rfl k) ?_
    show own_G p.tables e below s _ _ _ (T30.setTop (mkF m 30 #[.val (.int p1), .val (.int (9 : Int32)), .val (.ref a), .val (.int (1 : Int32))] []))
    refine own_go (fun t k => XS.aloadN X30.here hx rfl (hb hby at_30) rfl rfl k) ?_
    show own_G p.tables e below s _ _ _ (T30.setTop (mkF m 31 #[.val (.int p1), .val (.int (9 : Int32)), .val (.ref a), .val (.int (1 : Int32))] [(.ref a)]))
    obtain ⟨cq31, kq31, q31a, q31b, q31c⟩ := isOf hZ hh30 Ea
    obtain ⟨_, _, ⟨T31, L31, k31, n31⟩, -, X31, ⟨Lc31, hQ31, l31, y31, z31⟩, st31⟩ := X30.virtualBack hx (y := (⟨"com/example/cartulary/cartulary/codec/Operation", "hasResponse", "()Z"⟩ : MethodName)) (z := (⟨"com/example/cartulary/cartulary/codec/Operation", "hasResponse", "()Z"⟩ : MethodName)) hown (mvT hZ (hw _ (List.mem_of_getElem? (i := 8) rfl))) (mvT hZ (hw _ (List.mem_of_getElem? (i := 9) rfl))) (notFace_of_selects (args := #[]) (mvT hZ (hw _ (List.mem_of_getElem? (i := 11) rfl)))) (mvT hZ (hw _ (List.mem_of_getElem? (i := 11) rfl))) (mvT hZ (hw _ (List.mem_of_getElem? (i := 10) rfl))) (by decide) (backOf (W := 0) (rm2 l Z a0 hw [] a (120 : Int32) (1 : Int32) h0 n0 Z0 Fa (by decide)) hZ (hw _ (List.mem_of_getElem? (i := 12) rfl)) (hw _ (List.mem_of_getElem? (i := 6) rfl)) (by decide) (by decide)) q31a q31c (g := (mkF m 31 #[.val (.int p1), .val (.int (9 : Int32)), .val (.ref a), .val (.int (1 : Int32))] [(.ref a)])) rfl (by rw [hml]; rfl) (Steps.refl _) (argsL := []) (rest := []) (lenOf pd___Z rfl) rfl (by show 2 * 0 + _ ≤ _; exact Nat.le_of_eq rfl) (hb hby at_31) (fun _ _ => ⟨rfl, hh30, (by decide : 0 + 0 ≤ _), (by decide : 0 + 0 ≤ _)⟩)
    dsimp only [Pt.U, Pt.locs, Pt.cells, Pt.slots] at X31 l31 y31 z31 st31 hQ31
    subst l31 y31 z31
    obtain ⟨rfl, N31q, hh31⟩ := hQ31
    have N31 := Fr.app N30 N31q
    refine own_go (fun t k => st31.trans k) ?_
    show own_G p.tables e below s _ _ _ (T31.setTop (mkF m 34 #[.val (.int p1), .val (.int (9 : Int32)), .val (.ref a), .val (.int (1 : Int32))] [(.int (1 : Int32))]))
    refine own_go (fun t k => XS.iloadN X31.here hx rfl (hb hby at_34) rfl k) ?_
    show own_G p.tables e below s _ _ _ (T31.setTop (mkF m 35 #[.val (.int p1), .val (.int (9 : Int32)), .val (.ref a), .val (.int (1 : Int32))] [(.int (1 : Int32)), (.int (1 : Int32))]))
    refine own_go (fun t k => XS.icmpNo X31.here hx rfl (hb hby at_35) rfl (by decide) k) ?_
    show own_G p.tables e below s _ _ _ (T31.setTop (mkF m 38 #[.val (.int p1), .val (.int (9 : Int32)), .val (.ref a), .val (.int (1 : Int32))] []))
    refine own_go (fun t k => XS.iconst X31.here hx rfl (hb hby at_38) k) ?_
    show own_G p.tables e below s _ _ _ (T31.setTop (mkF m 39 #[.val (.int p1), .val (.int (9 : Int32)), .val (.ref a), .val (.int (1 : Int32))] [(.int (1 : Int32))]))
    refine own_go (fun t k => XS.goto X31.here hx rfl (pc0 := 39) (pc' := 43) rfl (hb hby at_39) (by decide) (by decide) k) ?_
    show own_G p.tables e below s _ _ _ (T31.setTop (mkF m 43 #[.val (.int p1), .val (.int (9 : Int32)), .val (.ref a), .val (.int (1 : Int32))] [(.int (1 : Int32))]))
    exact own_retN X31 hx hlk (t := .boolean) (z' := (1 : Int32)) Bd.returns (by simp) (hb hby at_43) (rfl) (by rw [hh31]; exact ⟨rfl, N31⟩) (by decide) (by decide)
set_option maxRecDepth 65536 in
set_option maxHeartbeats 40000000 in
theorem comes_1 {Post : Tables → Env → Array Value → State → Outcome → State → Prop} (hpost : ∀ tb e args s v u, (limb_1_1.after args s (.returned v) u = true ∧ limb_1_2.after args s (.returned v) u = true ∧ True) → FrameEnd s (.returned v) u (Jvm.fieldLocs frame_1_writes args s ++ Jvm.arrayLocs frame_1_arrays args s ++ Jvm.staticLocs frame_1_statics s) 0 0 → Post tb e args s (.returned v) u) :
    ArmFor flags0 classFile x code maxLocals ret World_1 tables_1 room_1 Calls_1 rest_1 Pre_1 Post := by
  intro l hfl _ _ p e ha hc hk s m args below hf hA hF happ hP
  obtain ⟨hcalls, hrest, hpre⟩ := hP
  obtain ⟨-, -, -, hnamed, -, -, -, hat⟩ := (Spec.applies_iff hf).mp happ
  obtain ⟨hg, hn⟩ := and_e (Cond.before_iff.mp (show (Jvm.Cond.and given_1 narrow_1).before args s = true from hpre))
  obtain ⟨gc, g0'⟩ := and_e hg
  have ga0 := g0'
  obtain ⟨w0, rfl⟩ : ∃ w0 : Value, args = #[w0] := by
    have hs : args.size = 1 := by simpa [Cond.value, given_1] using gc
    obtain ⟨L⟩ := args
    match L, hs with
    | [w0], _ => exact ⟨w0, rfl⟩
  have hw := fun d (hd : d ∈ tables_1) => atoms_spec (ws := Jvm.Cond.code x code maxLocals ret :: tables_1) hat d (List.mem_cons_of_mem _ hd)
  have hfit : Fit s := fun {y c} hc i hi => by
    obtain ⟨ha, rfl⟩ := Array.getElem?_eq_some_iff.mp hc
    have q := List.all_eq_true.mp ((Array.all_eq_true_iff_forall_mem.mp hF) _ (Array.getElem_mem ha)) i (List.mem_range.mpr hi)
    simpa [Array.getElem?_eq_getElem hi] using q
  obtain ⟨i0, ei0⟩ := is_v ga0
  obtain rfl : w0 = (.int i0) := Option.some.inj ei0
  obtain ⟨x0, hn0⟩ := and_e hn
  obtain ⟨f0, hm0⟩ := and_e hn0
  obtain ⟨x1, hn1⟩ := and_e hm0
  obtain ⟨f1, hm1⟩ := and_e hn1
  obtain ⟨x2, hn2⟩ := and_e hm1
  obtain ⟨f2, hm2⟩ := and_e hn2
  obtain ⟨x3, hn3⟩ := and_e hm2
  obtain ⟨f3, hm3⟩ := and_e hn3
  obtain ⟨x4, hn4⟩ := and_e hm3
  obtain ⟨f4, hm4⟩ := and_e hn4
  obtain ⟨x5, hn5⟩ := and_e hm4
  obtain ⟨f5, hm5⟩ := and_e hn5
  obtain ⟨x6, hn6⟩ := and_e hm5
  obtain ⟨f6, hm6⟩ := and_e hn6
  obtain ⟨x7, hn7⟩ := and_e hm6
  obtain ⟨f7, hm7⟩ := and_e hn7
  obtain ⟨x8, hn8⟩ := and_e hm7
  obtain ⟨f8, hm8⟩ := and_e hn8
  obtain ⟨x9, hn9⟩ := and_e hm8
  have f9 := hn9
  obtain ⟨n, o, h1, h2, h3, _, L, rfl, ⟨rfl, N⟩, hq⟩ := rm0 l s _ hw tables_1 i0 s.heap s.heap.size (Nat.le_refl _) (own_K_of x0 f0 (hw _ (List.mem_of_getElem? (i := 6) rfl)) (hw _ (List.mem_of_getElem? (i := 7) rfl))) (own_K_of x2 f2 (hw _ (List.mem_of_getElem? (i := 6) rfl)) (hw _ (List.mem_of_getElem? (i := 18) rfl))) (own_K_of x5 f5 (hw _ (List.mem_of_getElem? (i := 6) rfl)) (hw _ (List.mem_of_getElem? (i := 24) rfl))) (own_K_of x1 f1 (hw _ (List.mem_of_getElem? (i := 6) rfl)) (hw _ (List.mem_of_getElem? (i := 16) rfl))) (own_K_of x3 f3 (hw _ (List.mem_of_getElem? (i := 6) rfl)) (hw _ (List.mem_of_getElem? (i := 20) rfl))) (own_K_of x8 f8 (hw _ (List.mem_of_getElem? (i := 6) rfl)) (hw _ (List.mem_of_getElem? (i := 30) rfl))) (own_K_of x9 f9 (hw _ (List.mem_of_getElem? (i := 6) rfl)) (hw _ (List.mem_of_getElem? (i := 32) rfl))) (own_K_of x4 f4 (hw _ (List.mem_of_getElem? (i := 6) rfl)) (hw _ (List.mem_of_getElem? (i := 22) rfl))) (own_K_of x6 f6 (hw _ (List.mem_of_getElem? (i := 6) rfl)) (hw _ (List.mem_of_getElem? (i := 26) rfl))) (own_K_of x7 f7 (hw _ (List.mem_of_getElem? (i := 6) rfl)) (hw _ (List.mem_of_getElem? (i := 28) rfl))) p e ha hc hk s m _ below hf ((Spec.applies_iff_loose hf).mp happ).1 ⟨rfl, State.Warmed39.refl s, rfl⟩ trivial
  refine ⟨n, _, h1, h2, h3, hpost _ _ _ _ _ _ ⟨Cond.after_iff.mpr rfl, Cond.after_iff.mpr (eq_i res_at (Term.int_eval (1)) rfl), trivial⟩ ⟨hq.1, hq.2.1, (hq.2.2.sift fun y hy => Or.inr (N y hy)).mono (by decide) (by decide)⟩⟩
theorem main_1_1 : Claimed_1_1 := comes_1 fun _ _ _ _ _ _ h hF => ⟨h.1, hF⟩
theorem main_1_2 : Claimed_1_2 := comes_1 fun _ _ _ _ _ _ h hF => ⟨h.2.1, hF⟩
end Jvm.Pilot.@@N@@
namespace Jvm.Pilot.@@N@@
open Jvm Jvm.ClassFile Sem Op Lib Jvm.Free Jvm.Stand Jvm.Pilot.@@N@@.Jvm.D
/-! MADE BY PROGRAM (witnessworld.py) out of the Statement's table words and the real class files: 12 classes; the members and pool entries that the words name. The judged class is class 1, her method 2. -/
namespace start1
open Jvm.ClassFile
def u (s : String) : CpInfo := .utf8 (stringToUtf16 s)
/-- a pool by its gaps: so many unusable entries, then the entry; so many at the end -/
def gap : Nat → List CpInfo → List CpInfo
  | 0, r => r
  | n + 1, r => .unusable :: gap n r
def poolList (es : List (Nat × CpInfo)) (last : Nat) : List CpInfo := es.foldr (fun e r => gap e.1 (e.2 :: r)) (gap last [])
def pool (es : List (Nat × CpInfo)) (last : Nat) : Array CpInfo := ⟨poolList es last⟩
def fileOf (pool : Array CpInfo) (this : Nat) (attrs : Array Attribute := #[]) (ms : Array MethodInfo := #[]) (fl : Nat := 33) (sup : Nat := 0) (ifs : Array Nat := #[]) (fds : Array FieldInfo := #[]) : ClassFile where
  minorVersion := 0
  majorVersion := 65
  constantPool := pool
  accessFlags := fl
  thisClass := this
  superClass := sup
  interfaces := ifs
  fields := fds
  methods := ms
  attributes := attrs
def plain (name : String) (sup : Option ClassId) : Class where
  name := name
  kind := .ordinary
  loader := none
  accessFlags := 33
  super := sup
  interfaces := #[]
  cf := none
  fields := #[]
  methods := #[]
  instanceTypes := #[]
  staticTypes := #[]
  resolved := #[]
  callSites := []
  init := .initialized
  statics := none
  mirror := none

def pool0 : Array CpInfo := pool [(5, u "<init>"), (0, u "()V"), (1, .class_ 10), (1, u "java/lang/Object")] 113

def k0m0 : Method := { name := "<init>", desc := "()V", sig := { parameters := [], returnType := none }, accessFlags := 1, code := none }
/-- java/lang/Object -/
def k0 : Class := { plain "java/lang/Object" none with
  accessFlags := 33
  interfaces := #[]
  cf := some (fileOf pool0 8 #[] #[{ accessFlags := 1, nameIndex := 5, descriptorIndex := 6, attributes := #[] }] 33 0 #[] #[])
  fields := #[]
  methods := #[k0m0]
  instanceTypes := #[]
  staticTypes := #[]
  resolved := Array.replicate 124 none
  statics := none }

def pool1 : Array CpInfo := pool [(2, .class_ 4), (1, u "java/lang/Object"), (0, u "<init>"), (0, u "()V"), (0, .fieldref 8 9), (0, .class_ 10), (0, .nameAndType 11 12), (0, u "com/example/cartulary/cartulary/codec/Operation"), (0, u "BIND"), (0, u "Lcom/example/cartulary/cartulary/codec/Operation;"), (0, .fieldref 8 14), (0, .nameAndType 15 12), (0, u "UNBIND"), (0, .fieldref 8 17), (0, .nameAndType 18 12), (0, u "SEARCH"), (0, .fieldref 8 20), (0, .nameAndType 21 12), (0, u "MODIFY"), (0, .fieldref 8 23), (0, .nameAndType 24 12), (0, u "ADD"), (0, .fieldref 8 26), (0, .nameAndType 27 12), (0, u "DELETE"), (0, .fieldref 8 29), (0, .nameAndType 30 12), (0, u "MODIFY_DN"), (0, .fieldref 8 32), (0, .nameAndType 33 12), (0, u "COMPARE"), (0, .fieldref 8 35), (0, .nameAndType 36 12), (0, u "ABANDON"), (0, .fieldref 8 38), (0, .nameAndType 39 12), (0, u "EXTENDED"), (0, .integer 2147483647), (0, .methodref 42 43), (0, .class_ 44), (0, .nameAndType 45 46), (0, u "com/example/cartulary/cartulary/codec/OperationHasResponsePinLaw"), (0, u "pick"), (0, u "(I)Lcom/example/cartulary/cartulary/codec/Operation;"), (0, .methodref 8 48), (0, .nameAndType 49 50), (0, u "hasResponse"), (0, u "()Z"), (3, u "law"), (0, u "(I)Z")] 2

def k1m0 : Method := { name := "<init>", desc := "()V", sig := { parameters := [], returnType := none }, accessFlags := 1, code := none }
def k1c1 : Code := { maxStack := 2, maxLocals := 1, code := method_2_code, exceptionTable := #[], attributes := #[] }
def k1m1 : Method := { name := "pick", desc := "(I)Lcom/example/cartulary/cartulary/codec/Operation;", sig := { parameters := [.int], returnType := some (.object "com/example/cartulary/cartulary/codec/Operation") }, accessFlags := 10, code := some k1c1 }
def k1c2 : Code := { maxStack := 2, maxLocals := 4, code := code, exceptionTable := #[], attributes := #[] }
def k1m2 : Method := { name := "law", desc := "(I)Z", sig := { parameters := [.int], returnType := some .boolean }, accessFlags := 9, code := some k1c2 }
/-- com/example/cartulary/cartulary/codec/OperationHasResponsePinLaw -/
def k1 : Class := { plain "com/example/cartulary/cartulary/codec/OperationHasResponsePinLaw" (some 0) with
  accessFlags := 49
  interfaces := #[]
  cf := some (fileOf pool1 42 #[] #[{ accessFlags := 1, nameIndex := 5, descriptorIndex := 6, attributes := #[] }, { accessFlags := 10, nameIndex := 45, descriptorIndex := 46, attributes := #[] }, { accessFlags := 9, nameIndex := 54, descriptorIndex := 55, attributes := #[] }] 49 2 #[] #[])
  fields := #[]
  methods := #[k1m0, k1m1, k1m2]
  instanceTypes := #[]
  staticTypes := #[]
  resolved := Array.replicate 58 none
  statics := none }

def pool2 : Array CpInfo := pool [(1, .class_ 2), (0, u "java/lang/constant/Constable"), (0, .class_ 4), (0, u "java/lang/Object")] 6

/-- java/lang/constant/Constable -/
def k2 : Class := { plain "java/lang/constant/Constable" (some 0) with
  accessFlags := 1537
  interfaces := #[]
  cf := some (fileOf pool2 1 #[] #[] 1537 3 #[] #[])
  fields := #[]
  methods := #[]
  instanceTypes := #[]
  staticTypes := #[]
  resolved := Array.replicate 11 none
  statics := none }

def pool3 : Array CpInfo := pool [(1, .class_ 2), (0, u "java/lang/Comparable"), (0, .class_ 4), (0, u "java/lang/Object")] 7

/-- java/lang/Comparable -/
def k3 : Class := { plain "java/lang/Comparable" (some 0) with
  accessFlags := 1537
  interfaces := #[]
  cf := some (fileOf pool3 1 #[] #[] 1537 3 #[] #[])
  fields := #[]
  methods := #[]
  instanceTypes := #[]
  staticTypes := #[]
  resolved := Array.replicate 12 none
  statics := none }

def pool4 : Array CpInfo := pool [(1, .class_ 2), (0, u "java/io/Serializable"), (0, .class_ 4), (0, u "java/lang/Object")] 2

/-- java/io/Serializable -/
def k4 : Class := { plain "java/io/Serializable" (some 0) with
  accessFlags := 1537
  interfaces := #[]
  cf := some (fileOf pool4 1 #[] #[] 1537 3 #[] #[])
  fields := #[]
  methods := #[]
  instanceTypes := #[]
  staticTypes := #[]
  resolved := Array.replicate 7 none
  statics := none }

def pool5 : Array CpInfo := pool [(2, .class_ 4), (1, u "java/lang/Enum"), (0, u "name"), (0, u "Ljava/lang/String;"), (2, u "ordinal"), (0, u "I"), (1, .class_ 14), (1, u "java/lang/Object"), (4, u "hash"), (86, .class_ 108), (1, u "java/lang/Enum$EnumDesc"), (2, .class_ 112), (0, u "java/lang/constant/Constable"), (0, .class_ 114), (0, u "java/lang/Comparable"), (0, .class_ 116), (0, u "java/io/Serializable")] 87

/-- java/lang/Enum -/
def k5 : Class := { plain "java/lang/Enum" (some 0) with
  accessFlags := 1057
  interfaces := #[2, 3, 4]
  cf := some (fileOf pool5 2 #[.nestMembers #[106]] #[] 1057 12 #[111, 113, 115] #[{ accessFlags := 18, nameIndex := 5, descriptorIndex := 6, attributes := #[] }, { accessFlags := 18, nameIndex := 9, descriptorIndex := 10, attributes := #[] }, { accessFlags := 2, nameIndex := 19, descriptorIndex := 10, attributes := #[] }])
  fields := #[{ name := "name", type := (.object "java/lang/String"), accessFlags := 18, slot := 0, constantValue := 0 }, { name := "ordinal", type := .int, accessFlags := 18, slot := 1, constantValue := 0 }, { name := "hash", type := .int, accessFlags := 2, slot := 2, constantValue := 0 }]
  methods := #[]
  instanceTypes := #[(.object "java/lang/String"), .int, .int]
  staticTypes := #[]
  resolved := Array.replicate 204 none
  statics := none }

def pool6 : Array CpInfo := pool [(1, .class_ 2), (0, u "com/example/cartulary/cartulary/codec/Operation"), (2, u "BIND"), (0, u "Lcom/example/cartulary/cartulary/codec/Operation;"), (2, u "UNBIND"), (2, u "SEARCH"), (2, u "MODIFY"), (2, u "ADD"), (2, u "DELETE"), (2, u "MODIFY_DN"), (2, u "COMPARE"), (2, u "ABANDON"), (2, u "EXTENDED"), (2, u "$VALUES"), (0, u "[Lcom/example/cartulary/cartulary/codec/Operation;"), (6, .class_ 46), (1, u "java/lang/Enum"), (8, u "title"), (0, u "Ljava/lang/String;"), (2, u "requestTag"), (0, u "I"), (0, .fieldref 1 62), (0, .nameAndType 63 60), (0, u "responseTag"), (6, u "hasResponse"), (0, u "()Z"), (45, u "NO_RESPONSE")] 33

def k6c0 : Code := { maxStack := 2, maxLocals := 1, code := prog_12_method_6_code, exceptionTable := #[], attributes := #[] }
def k6m0 : Method := { name := "hasResponse", desc := "()Z", sig := { parameters := [], returnType := some .boolean }, accessFlags := 1, code := some k6c0 }
/-- com/example/cartulary/cartulary/codec/Operation -/
def k6 : Class := { plain "com/example/cartulary/cartulary/codec/Operation" (some 5) with
  accessFlags := 16433
  interfaces := #[]
  cf := some (fileOf pool6 1 #[] #[{ accessFlags := 1, nameIndex := 70, descriptorIndex := 71, attributes := #[] }] 16433 44 #[] #[{ accessFlags := 16409, nameIndex := 5, descriptorIndex := 6, attributes := #[] }, { accessFlags := 16409, nameIndex := 9, descriptorIndex := 6, attributes := #[] }, { accessFlags := 16409, nameIndex := 12, descriptorIndex := 6, attributes := #[] }, { accessFlags := 16409, nameIndex := 15, descriptorIndex := 6, attributes := #[] }, { accessFlags := 16409, nameIndex := 18, descriptorIndex := 6, attributes := #[] }, { accessFlags := 16409, nameIndex := 21, descriptorIndex := 6, attributes := #[] }, { accessFlags := 16409, nameIndex := 24, descriptorIndex := 6, attributes := #[] }, { accessFlags := 16409, nameIndex := 27, descriptorIndex := 6, attributes := #[] }, { accessFlags := 16409, nameIndex := 30, descriptorIndex := 6, attributes := #[] }, { accessFlags := 16409, nameIndex := 33, descriptorIndex := 6, attributes := #[] }, { accessFlags := 26, nameIndex := 117, descriptorIndex := 60, attributes := #[] }, { accessFlags := 18, nameIndex := 55, descriptorIndex := 56, attributes := #[] }, { accessFlags := 18, nameIndex := 59, descriptorIndex := 60, attributes := #[] }, { accessFlags := 18, nameIndex := 63, descriptorIndex := 60, attributes := #[] }, { accessFlags := 4122, nameIndex := 36, descriptorIndex := 37, attributes := #[] }])
  fields := #[{ name := "BIND", type := (.object "com/example/cartulary/cartulary/codec/Operation"), accessFlags := 16409, slot := 0, constantValue := 0 }, { name := "UNBIND", type := (.object "com/example/cartulary/cartulary/codec/Operation"), accessFlags := 16409, slot := 1, constantValue := 0 }, { name := "SEARCH", type := (.object "com/example/cartulary/cartulary/codec/Operation"), accessFlags := 16409, slot := 2, constantValue := 0 }, { name := "MODIFY", type := (.object "com/example/cartulary/cartulary/codec/Operation"), accessFlags := 16409, slot := 3, constantValue := 0 }, { name := "ADD", type := (.object "com/example/cartulary/cartulary/codec/Operation"), accessFlags := 16409, slot := 4, constantValue := 0 }, { name := "DELETE", type := (.object "com/example/cartulary/cartulary/codec/Operation"), accessFlags := 16409, slot := 5, constantValue := 0 }, { name := "MODIFY_DN", type := (.object "com/example/cartulary/cartulary/codec/Operation"), accessFlags := 16409, slot := 6, constantValue := 0 }, { name := "COMPARE", type := (.object "com/example/cartulary/cartulary/codec/Operation"), accessFlags := 16409, slot := 7, constantValue := 0 }, { name := "ABANDON", type := (.object "com/example/cartulary/cartulary/codec/Operation"), accessFlags := 16409, slot := 8, constantValue := 0 }, { name := "EXTENDED", type := (.object "com/example/cartulary/cartulary/codec/Operation"), accessFlags := 16409, slot := 9, constantValue := 0 }, { name := "NO_RESPONSE", type := .int, accessFlags := 26, slot := 10, constantValue := 0 }, { name := "title", type := (.object "java/lang/String"), accessFlags := 18, slot := 3, constantValue := 0 }, { name := "requestTag", type := .int, accessFlags := 18, slot := 4, constantValue := 0 }, { name := "responseTag", type := .int, accessFlags := 18, slot := 5, constantValue := 0 }, { name := "$VALUES", type := (.array (.object "com/example/cartulary/cartulary/codec/Operation")), accessFlags := 4122, slot := 11, constantValue := 0 }]
  methods := #[k6m0]
  instanceTypes := #[(.object "java/lang/String"), .int, .int, (.object "java/lang/String"), .int, .int]
  staticTypes := #[(.object "com/example/cartulary/cartulary/codec/Operation"), (.object "com/example/cartulary/cartulary/codec/Operation"), (.object "com/example/cartulary/cartulary/codec/Operation"), (.object "com/example/cartulary/cartulary/codec/Operation"), (.object "com/example/cartulary/cartulary/codec/Operation"), (.object "com/example/cartulary/cartulary/codec/Operation"), (.object "com/example/cartulary/cartulary/codec/Operation"), (.object "com/example/cartulary/cartulary/codec/Operation"), (.object "com/example/cartulary/cartulary/codec/Operation"), (.object "com/example/cartulary/cartulary/codec/Operation"), .int, (.array (.object "com/example/cartulary/cartulary/codec/Operation"))]
  resolved := Array.replicate 151 none
  statics := some 0 }

def pool7 : Array CpInfo := pool [(1, u "java/lang/Cloneable"), (0, .class_ 1), (0, u "java/lang/Object"), (0, .class_ 3)] 3

/-- java/lang/Cloneable -/
def k7 : Class := { plain "java/lang/Cloneable" (some 0) with
  accessFlags := 1537
  interfaces := #[]
  cf := some (fileOf pool7 2 #[] #[] 1537 4 #[] #[])
  fields := #[]
  methods := #[]
  instanceTypes := #[]
  staticTypes := #[]
  resolved := Array.replicate 8 none
  statics := none }

/-- the primitive byte -/
def k8 : Class := { plain "byte" none with kind := .primitive 'B', accessFlags := 0x411 }
/-- [B -/
def k9 : Class := { plain "[B" (some 0) with kind := .array 8 .byte, interfaces := #[7, 4], accessFlags := 1041 }

/-- the primitive int -/
def k10 : Class := { plain "int" none with kind := .primitive 'I', accessFlags := 0x411 }
/-- [I -/
def k11 : Class := { plain "[I" (some 0) with kind := .array 10 .int, interfaces := #[7, 4], accessFlags := 1041 }

def heap : Heap := #[{ cls := 6, slots := #[.ref 1, .ref 2, .ref 3, .ref 4, .ref 5, .ref 6, .ref 7, .ref 8, .ref 9, .ref 10, .int 0, .null], vm := .statics 6 },
  { cls := 6, slots := #[.null, .int 0, .int 0, .null, .int 0, .int 97], vm := .none },
  { cls := 6, slots := #[.null, .int 1, .int 0, .null, .int 0, .int (-1)], vm := .none },
  { cls := 6, slots := #[.null, .int 2, .int 0, .null, .int 0, .int 101], vm := .none },
  { cls := 6, slots := #[.null, .int 3, .int 0, .null, .int 0, .int 103], vm := .none },
  { cls := 6, slots := #[.null, .int 4, .int 0, .null, .int 0, .int 105], vm := .none },
  { cls := 6, slots := #[.null, .int 5, .int 0, .null, .int 0, .int 107], vm := .none },
  { cls := 6, slots := #[.null, .int 6, .int 0, .null, .int 0, .int 109], vm := .none },
  { cls := 6, slots := #[.null, .int 7, .int 0, .null, .int 0, .int 111], vm := .none },
  { cls := 6, slots := #[.null, .int 8, .int 0, .null, .int 0, .int (-1)], vm := .none },
  { cls := 6, slots := #[.null, .int 9, .int 0, .null, .int 0, .int 120], vm := .none }]
def classes : Array Class := #[k0, k1, k2, k3, k4, k5, k6, k7, k8, k9, k10, k11]
def interned : List (Array UInt16 × Addr) := []
def slotsUsed : Nat := 72
def theMethod : MethodId := ⟨1, 2⟩
def args0 : Array Value := #[.int 5]
def aboutOver (below : List Frame) : State where
  vm := { classes := classes, interned := interned.toArray }
  heap := heap
  slotsUsed := slotsUsed
  threads := #[{ frames := .invoking theMethod args0 :: below }]
def below0 : List Frame := [.native { method := ⟨0, 0⟩, args := #[] }]
def about1 : State := aboutOver below0
def p0 : Program := .bare "" "" ""
def e0 : Env := launch0.env 0 0 0
theorem w_frames : about1.frames = Frame.invoking theMethod args0 :: below0 := rfl
set_option maxRecDepth 65536 in
theorem w_args : argsFit about1.vm theMethod args0 = true := by decide +kernel
set_option maxRecDepth 65536 in
theorem w_heap : heapFits about1 = true := by decide +kernel
set_option maxRecDepth 65536 in
theorem w_runnable : about1.curStatus? = some .runnable := by decide +kernel
set_option maxRecDepth 65536 in
theorem w_alone : about1.alone = true := by decide +kernel
set_option maxRecDepth 65536 in
theorem w_named : about1.methodNamed? x = some theMethod := by decide +kernel
set_option maxRecDepth 65536 in
theorem w_hears : about1.hears theMethod below0 = true := by decide +kernel
set_option maxRecDepth 65536 in
theorem w_ripe : about1.ripe theMethod args0 below0 = true := by decide +kernel
theorem w_running : about1.status = .running := rfl
set_option maxRecDepth 65536 in
theorem w_room : about1.hasRoom e0.platform room_1 = true :=
  launch0.hasRoom_least _ room_1 (by decide +kernel) (by decide +kernel) (by decide +kernel) (by decide +kernel) (by decide +kernel) (by decide +kernel)
theorem allAtoms_all (ts : List Jvm.Cond) (a : Array Jvm.Value) (st : Jvm.State) : (allAtoms ts).before a st = ts.all (fun c => c.before a st) := by
  induction ts with
  | nil => rfl
  | cons c t ih =>
    show (Jvm.Cond.and c (allAtoms t)).before a st = _
    rw [Jvm.Cond.before_and, ih, List.all_cons]
def words1 : List Jvm.Cond := Jvm.Cond.code x code maxLocals ret :: tables_1
/-- a 'code' word, met by the world's own term for the bytes: nothing is compared byte by byte -/
theorem code_word {y : MethodName} {bytes : ByteArray} {mx : Nat} {rt : Option FieldType} {a : Array Value} {s : State} {m : MethodId} {meth : Method} {c : Code} (h1 : s.methodNamed? y = some m) (h2 : s.vm.method? m = some meth) (h3 : meth.code = some c) (h4 : c.code = bytes)
    (h5 : (c.maxLocals == mx && c.exceptionTable.isEmpty && decide (c.maxStack ≤ mostOperands) && decide (meth.sig.returnType = rt) && !meth.locks && decide (parseMethodDescriptor y.desc = some meth.sig)) = true) : (Jvm.Cond.code y bytes mx rt).before a s = true := by
  simp only [Bool.and_eq_true, beq_iff_eq, Bool.not_eq_true', decide_eq_true_eq] at h5
  obtain ⟨⟨⟨⟨⟨g1, g2⟩, g3⟩, g4⟩, g5⟩, g6⟩ := h5
  simp [Cond.before, Cond.holds, Cond.value, h1, h2, h3, h4, g1, g2, g3, g4, g5, g6]
def isCode : Jvm.Cond → Bool
  | .code _ _ _ _ => true
  | _ => false
theorem all_split {L : List Jvm.Cond} {P : Jvm.Cond → Bool} (h1 : L.all (fun c => isCode c || P c) = true) (h2 : ∀ c ∈ L.filter isCode, P c = true) : L.all P = true := by
  refine List.all_eq_true.mpr fun c hc => ?_
  have h := List.all_eq_true.mp h1 c hc
  rcases Bool.eq_false_or_eq_true (isCode c) with hi | hi
  · exact h2 c (List.mem_filter.mpr ⟨hc, hi⟩)
  · simpa [hi] using h
set_option maxRecDepth 65536 in
theorem w_c0 : (Jvm.Cond.code x code maxLocals ret).before args0 about1 = true := code_word (m := ⟨1, 2⟩) (meth := k1m2) (c := k1c2) (by decide +kernel) rfl rfl rfl (by decide +kernel)
set_option maxRecDepth 65536 in
theorem w_c1 : (Jvm.Cond.code ({ cls := "com/example/cartulary/cartulary/codec/OperationHasResponsePinLaw", name := "pick", desc := "(I)Lcom/example/cartulary/cartulary/codec/Operation;" } : Jvm.MethodName) method_2_code (1 : Nat) (Option.some (Jvm.ClassFile.FieldType.object "com/example/cartulary/cartulary/codec/Operation"))).before args0 about1 = true := code_word (m := ⟨1, 1⟩) (meth := k1m1) (c := k1c1) (by decide +kernel) rfl rfl rfl (by decide +kernel)
set_option maxRecDepth 65536 in
theorem w_c2 : (Jvm.Cond.code ({ cls := "com/example/cartulary/cartulary/codec/Operation", name := "hasResponse", desc := "()Z" } : Jvm.MethodName) prog_12_method_6_code (1 : Nat) (Option.some Jvm.ClassFile.FieldType.boolean)).before args0 about1 = true := code_word (m := ⟨6, 0⟩) (meth := k6m0) (c := k6c0) (by decide +kernel) rfl rfl rfl (by decide +kernel)
def codes1 : List Jvm.Cond := [Jvm.Cond.code x code maxLocals ret, Jvm.Cond.code ({ cls := "com/example/cartulary/cartulary/codec/OperationHasResponsePinLaw", name := "pick", desc := "(I)Lcom/example/cartulary/cartulary/codec/Operation;" } : Jvm.MethodName) method_2_code (1 : Nat) (Option.some (Jvm.ClassFile.FieldType.object "com/example/cartulary/cartulary/codec/Operation")), Jvm.Cond.code ({ cls := "com/example/cartulary/cartulary/codec/Operation", name := "hasResponse", desc := "()Z" } : Jvm.MethodName) prog_12_method_6_code (1 : Nat) (Option.some Jvm.ClassFile.FieldType.boolean)]
set_option maxRecDepth 65536 in
theorem codes_eq : words1.filter isCode = codes1 := rfl
theorem w_codes : ∀ c ∈ words1.filter isCode, c.before args0 about1 = true := by
  rw [codes_eq]
  intro c hc
  simp only [codes1, List.mem_cons, List.not_mem_nil, or_false] at hc
  rcases hc with rfl | rfl | rfl
  · exact w_c0
  · exact w_c1
  · exact w_c2
set_option maxRecDepth 65536 in
theorem w_t1 : (words1.take 24).all (fun c => isCode c || c.before args0 about1) = true := by decide +kernel
set_option maxRecDepth 65536 in
theorem w_t2 : (words1.drop 24).all (fun c => isCode c || c.before args0 about1) = true := by decide +kernel
theorem w_tables : (allAtoms (Jvm.Cond.code x code maxLocals ret :: tables_1)).before args0 about1 = true := by
  rw [allAtoms_all]
  show words1.all (fun c => c.before args0 about1) = true
  refine all_split ?_ w_codes
  rw [← List.take_append_drop 24 words1, List.all_append, w_t1, w_t2]
  rfl
set_option maxRecDepth 65536 in
theorem w_case : (Jvm.Cond.and given_1 narrow_1).before args0 about1 = true := by decide +kernel
theorem w_applies : (headSpec (Jvm.Cond.code x code maxLocals ret :: tables_1) room_1).applies x e0.platform about1 = true :=
  (Spec.applies_iff w_frames).mpr ⟨w_running, w_runnable, w_alone, w_named, w_hears, w_ripe, w_room, w_tables⟩
theorem atStart : AtStart classFile x code maxLocals ret World_1 tables_1 room_1 Calls_1 rest_1 Pre_1 launch0 p0 e0 about1 theMethod args0 below0 :=
  ⟨lists_1, trivial, launch0.admits_env _ _ _, launch0.least_env, fairChoices_fair.cas, fairChoices_fair.clock, w_frames, w_args, w_heap, w_applies, trivial, trivial, w_case⟩
end start1
theorem witness_1 : WitnessClaimed_1 := ⟨start1.p0, start1.e0, start1.about1, start1.theMethod, start1.args0, start1.below0, start1.atStart⟩
end Jvm.Pilot.@@N@@
