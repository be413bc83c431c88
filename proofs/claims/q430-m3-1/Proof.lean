import JvmDerived
import JvmDerived.Pilot.@@N@@Statement
import JvmDerived.Pilot.@@N@@Code
set_option linter.unusedVariables false
set_option linter.unusedSimpArgs false
namespace Jvm.RoadKit
open Sem ClassFile Op Lib Jvm.Stand Jvm.Free Jvm.LawKit
section OwnKit
variable {p : Program} {l : Launch} {e : Env} {R : Room} {s : State} {m : MethodId} {args : Array Value} {below : List Frame} {meth : Method} {c : Code} {T : State} {locs : List Loc} {cells slots : Nat}
/-- a run that stands in S comes to an end of the invocation, of which Q is said -/
def own_G (tb : Tables) (e : Env) (below : List Frame) (s : State) (Q : Option Value → Heap → List Loc → Prop) (k n : Nat) (S : State) : Prop :=
  ∃ s₂ o, Steps tb e below S s₂ ∧ s₂.status = .running ∧ Ended s₂ below o ∧ ∃ v L, o = .returned v ∧ Q v s₂.heap L ∧ FrameEnd s o s₂ L k n
variable {tb : Tables} {Q : Option Value → Heap → List Loc → Prop} {k n : Nat}
theorem own_go {A B : State} (st : ∀ t, Steps tb e below A t → Steps tb e below B t) (h : own_G tb e below s Q k n A) : own_G tb e below s Q k n B := by
  obtain ⟨s₂, o, h1, h2⟩ := h
  exact ⟨s₂, o, st _ h1, h2⟩
theorem own_ret (X : Stand p l e R s m args below meth c T locs cells slots) {v : Option Value} (hv : meth.sig.returnType = none → v = none) (hlk : meth.locks = false) (hQ : Q v T.heap locs) (hk : cells ≤ k) (hn : slots ≤ n) {S : State}
    (st : ∀ fs, (∀ (f : JFrame) (acts : List Action), f.method = m → f.locked = none → f.entered = [] → (doReturn e (T.setTop f) acts v).1 = T.setFrames fs) → Steps p.tables e below S (T.setFrames fs)) : own_G p.tables e below s Q k n S := by
  obtain ⟨fs, hr, hrun, hended, hW, hsame⟩ := X.leave hv hlk
  exact ⟨_, _, st fs hr, hrun, hended, _, _, rfl, hQ, ⟨_, rfl⟩, hW, hsame.mono hk hn⟩
variable {pc : Nat} {Ls : Array Slot} {rest : List Value}
theorem own_retN (X : Stand p l e R s m args below meth c T locs cells slots) (hx : p.tables.exec = Jvm.exec) (hlk : meth.locks = false) {t : FieldType} {z z' : Int32} (hret : meth.sig.returnType = some t) (ht : t = .boolean ∨ t = .byte ∨ t = .char ∨ t = .short) (hd : decode c.code pc = .ok (.ireturn, 1)) (hz : nar t z = z') (hQ : Q (some (.int z')) T.heap locs) (hk : cells ≤ k) (hn : slots ≤ n) :
    own_G p.tables e below s Q k n (T.setTop (mkF m pc Ls (.int z :: rest))) := by
  subst hz
  exact own_ret X (fun h => by rw [hret] at h; cases h) hlk hQ hk hn fun fs hr => retN X hx hret ht hd hr
theorem own_retI (X : Stand p l e R s m args below meth c T locs cells slots) (hx : p.tables.exec = Jvm.exec) (hlk : meth.locks = false) {z : Int32} (hret : meth.sig.returnType = some .int) (hd : decode c.code pc = .ok (.ireturn, 1)) (hQ : Q (some (.int z)) T.heap locs) (hk : cells ≤ k) (hn : slots ≤ n) :
    own_G p.tables e below s Q k n (T.setTop (mkF m pc Ls (.int z :: rest))) :=
  own_ret X (fun h => by rw [hret] at h; cases h) hlk hQ hk hn fun fs hr => retOut X hx hret rfl (Or.inl ⟨rfl, Or.inl rfl, _, rfl⟩) hd hr
theorem own_retJ (X : Stand p l e R s m args below meth c T locs cells slots) (hx : p.tables.exec = Jvm.exec) (hlk : meth.locks = false) {z : Int64} (hret : meth.sig.returnType = some .long) (hd : decode c.code pc = .ok (.lreturn, 1)) (hQ : Q (some (.long z)) T.heap locs) (hk : cells ≤ k) (hn : slots ≤ n) :
    own_G p.tables e below s Q k n (T.setTop (mkF m pc Ls (.long z :: rest))) :=
  own_ret X (fun h => by rw [hret] at h; cases h) hlk hQ hk hn fun fs hr => retOut X hx hret rfl (Or.inr (Or.inl ⟨rfl, rfl, _, rfl⟩)) hd hr
theorem own_retA (X : Stand p l e R s m args below meth c T locs cells slots) (hx : p.tables.exec = Jvm.exec) (hlk : meth.locks = false) {t : FieldType} {w : Value} (hret : meth.sig.returnType = some t) (ht : t.isReference = true) (hv : w.isRef = true) (hd : decode c.code pc = .ok (.areturn, 1)) (hQ : Q (some w) T.heap locs) (hk : cells ≤ k) (hn : slots ≤ n) :
    own_G p.tables e below s Q k n (T.setTop (mkF m pc Ls (w :: rest))) :=
  own_ret X (fun h => by rw [hret] at h; cases h) hlk hQ hk hn fun fs hr => retOut X hx hret (by rcases ref_cases hv with rfl | ⟨_, rfl⟩ <;> cases t <;> first | rfl | cases ht) (Or.inr (Or.inr (Or.inr (Or.inr ⟨rfl, ht, hv⟩)))) hd hr
theorem own_retV (X : Stand p l e R s m args below meth c T locs cells slots) (hx : p.tables.exec = Jvm.exec) (hlk : meth.locks = false) (hret : meth.sig.returnType = none) (hd : decode c.code pc = .ok (.return_, 1)) (hQ : Q none T.heap locs) (hk : cells ≤ k) (hn : slots ≤ n) :
    own_G p.tables e below s Q k n (T.setTop (mkF m pc Ls [])) :=
  own_ret X (fun _ => rfl) hlk hQ hk hn fun fs hr => X.returnOut hx hret hd hr
end OwnKit
end Jvm.RoadKit
namespace Jvm.Pilot.@@N@@
open Jvm Jvm.ClassFile Sem Op Lib Jvm.Free Jvm.Stand Jvm.LawKit Jvm.RoadKit Bundle Jvm.Pilot.@@N@@.Jvm.D
/-- a constant of the enum: what its static holds, and its ordinal -/
def own_K (Z : State) (h : Heap) (f : String) (a : Addr) (t : Int32) : Prop := Sta Z h "com/example/kaava/kaava/model/Facet" f "Lcom/example/kaava/kaava/model/Facet;" (.ref a) ∧ Exa Z h a "com/example/kaava/kaava/model/Facet" ∧ Fld Z h a "java/lang/Enum" "ordinal" "I" (.int t)
theorem own_eqI {args : Array Value} {first s : State} {o : Option Outcome} {idx : List Nat} {t : Term} {k : Int32} (h : (Jvm.Cond.eq t (.int k)).value args first o s idx = some true) : t.eval args first o idx s = some (.int k) := by
  simp only [Jvm.Cond.value, Term.eval] at h
  cases ht : t.eval args first o idx s with
  | none => simp [ht] at h
  | some x => cases x <;> simp [ht] at h ⊢; exact h
theorem own_K_of {s : State} {args : Array Value} {f : String} {t : Int32} (h1 : (Jvm.Cond.exactly (.static "com/example/kaava/kaava/model/Facet" f "Lcom/example/kaava/kaava/model/Facet;") "com/example/kaava/kaava/model/Facet").value args s none s [] = some true) (h2 : (Jvm.Cond.eq (.field (.static "com/example/kaava/kaava/model/Facet" f "Lcom/example/kaava/kaava/model/Facet;") "java/lang/Enum" "ordinal" "I") (.int t)).value args s none s [] = some true)
    (hi : (Jvm.Cond.initialized "com/example/kaava/kaava/model/Facet").before args s = true) (hl : (Jvm.Cond.laysStatic "com/example/kaava/kaava/model/Facet" f "Lcom/example/kaava/kaava/model/Facet;").before args s = true) : ∃ a, own_K s s.heap f a t := by
  obtain ⟨a, ea⟩ := exa_v h1
  refine ⟨a, Sta.start ea (Or.inr ⟨hi, hl⟩), Exa.start ea h1, Fld.start ?_⟩
  rw [← fld_at ea]
  exact own_eqI h2
theorem own_ne {Z : State} {h : Heap} {f g : String} {a b : Addr} {t u : Int32} (A : own_K Z h f a t) (B : own_K Z h g b u) (hne : t ≠ u) : ¬ ((.ref a : Value) = .ref b) := fun e => by
  obtain rfl : a = b := Value.ref.inj e
  obtain ⟨c1, _, _, _, f1, h1, h2, -, -, -, -, h7⟩ := A.2.2
  obtain ⟨c2, _, _, _, f2, g1, g2, -, -, -, -, g7⟩ := B.2.2
  cases h1.symm.trans g1
  cases h2.symm.trans g2
  cases h7.symm.trans g7
  exact hne rfl
theorem own_pick (x : Int32) : ((x &&& (2147483647 : Int32)) % (13 : Int32) = 0) ∨ ((x &&& (2147483647 : Int32)) % (13 : Int32) = 1) ∨ ((x &&& (2147483647 : Int32)) % (13 : Int32) = 2) ∨ ((x &&& (2147483647 : Int32)) % (13 : Int32) = 3) ∨ ((x &&& (2147483647 : Int32)) % (13 : Int32) = 4) ∨ ((x &&& (2147483647 : Int32)) % (13 : Int32) = 5) ∨ ((x &&& (2147483647 : Int32)) % (13 : Int32) = 6) ∨ ((x &&& (2147483647 : Int32)) % (13 : Int32) = 7) ∨ ((x &&& (2147483647 : Int32)) % (13 : Int32) = 8) ∨ ((x &&& (2147483647 : Int32)) % (13 : Int32) = 9) ∨ ((x &&& (2147483647 : Int32)) % (13 : Int32) = 10) ∨ ((x &&& (2147483647 : Int32)) % (13 : Int32) = 11) ∨ ((x &&& (2147483647 : Int32)) % (13 : Int32) = 12) := by
  have h : ¬ ((x &&& (2147483647 : Int32)) < 0) := fun h => absurd ((Jvm.Free.XT.and_neg32 _ _).mp h).2 (by decide)
  rw [Int32.lt_iff_toInt_lt] at h
  have z : (0 : Int32).toInt = 0 := rfl
  have t : (13 : Int32).toInt = 13 := rfl
  have e : ((x &&& (2147483647 : Int32)) % (13 : Int32)).toInt = (x &&& (2147483647 : Int32)).toInt % 13 := by
    rw [Int32.toInt_mod, t, Int.tmod_eq_emod_of_nonneg (by omega)]
  generalize (x &&& (2147483647 : Int32)) % (13 : Int32) = r at *
  have hr : 0 ≤ r.toInt ∧ r.toInt < 13 := by omega
  have g : ∀ k : Int32, r.toInt = k.toInt → r = k := fun k q => Int32.toInt_inj.mp q
  have hc : r.toInt = 0 ∨ r.toInt = 1 ∨ r.toInt = 2 ∨ r.toInt = 3 ∨ r.toInt = 4 ∨ r.toInt = 5 ∨ r.toInt = 6 ∨ r.toInt = 7 ∨ r.toInt = 8 ∨ r.toInt = 9 ∨ r.toInt = 10 ∨ r.toInt = 11 ∨ r.toInt = 12 := by omega
  rcases hc with q | q | q | q | q | q | q | q | q | q | q | q | q
  · exact Or.inl (g 0 q)
  · exact Or.inr (Or.inl (g 1 q))
  · exact Or.inr (Or.inr (Or.inl (g 2 q)))
  · exact Or.inr (Or.inr (Or.inr (Or.inl (g 3 q))))
  · exact Or.inr (Or.inr (Or.inr (Or.inr (Or.inl (g 4 q)))))
  · exact Or.inr (Or.inr (Or.inr (Or.inr (Or.inr (Or.inl (g 5 q))))))
  · exact Or.inr (Or.inr (Or.inr (Or.inr (Or.inr (Or.inr (Or.inl (g 6 q)))))))
  · exact Or.inr (Or.inr (Or.inr (Or.inr (Or.inr (Or.inr (Or.inr (Or.inl (g 7 q))))))))
  · exact Or.inr (Or.inr (Or.inr (Or.inr (Or.inr (Or.inr (Or.inr (Or.inr (Or.inl (g 8 q)))))))))
  · exact Or.inr (Or.inr (Or.inr (Or.inr (Or.inr (Or.inr (Or.inr (Or.inr (Or.inr (Or.inl (g 9 q))))))))))
  · exact Or.inr (Or.inr (Or.inr (Or.inr (Or.inr (Or.inr (Or.inr (Or.inr (Or.inr (Or.inr (Or.inl (g 10 q)))))))))))
  · exact Or.inr (Or.inr (Or.inr (Or.inr (Or.inr (Or.inr (Or.inr (Or.inr (Or.inr (Or.inr (Or.inr (Or.inl (g 11 q))))))))))))
  · exact Or.inr (Or.inr (Or.inr (Or.inr (Or.inr (Or.inr (Or.inr (Or.inr (Or.inr (Or.inr (Or.inr (Or.inr (g 12 q))))))))))))
theorem d1_0_0 : decode method_2_code 0 = .ok (.iload_n 0, 1) := by decide +kernel
theorem d1_0_1 : decode method_2_code 1 = .ok (.ifCond .ne 7, 3) := by decide +kernel
theorem d1_0_4 : decode method_2_code 4 = .ok (.getstatic 7, 3) := by decide +kernel
theorem d1_0_7 : decode method_2_code 7 = .ok (.areturn, 1) := by decide +kernel
theorem pn_com_example_kaava_kaava_model_FacetIsBoundPinLaw : plainName "com/example/kaava/kaava/model/FacetIsBoundPinLaw" = true := by first | (simp [plainName, overriddenIn]; done) | decide +kernel
theorem ef_1_0 (m : MethodId) (x0 : Int32) : entryFrame m #[(.int x0)] 1 = mkF m 0 #[.val (.int x0)] [] := by first | (simp [entryFrame, mkF, argsToLocals, Value.category]; done) | rfl
def Q1_0 (Z : State) (a1 : Addr) (h0 : Heap) (n0 : Nat) (v : Option Value) (h : Heap) (L : List Loc) : Prop := v = some (.ref a1) ∧ Fr n0 L ∧ h = h0
set_option maxRecDepth 65536 in
set_option maxHeartbeats 40000000 in
theorem rm1_0 (l : Launch) (Z : State) (a0 : Array Value) (hw : ∀ d ∈ tables_1, d.before a0 Z = true) (ws : List Jvm.Cond) (a1 : Addr) (h0 : Heap) (n0 : Nat) (Z0 : n0 ≤ h0.size) (S1 : Sta Z h0 "com/example/kaava/kaava/model/Facet" "LENGTH" "Lcom/example/kaava/kaava/model/Facet;" (.ref a1)) :
    MetFree l (⟨"com/example/kaava/kaava/model/FacetIsBoundPinLaw", "facetAt", "(I)Lcom/example/kaava/kaava/model/Facet;"⟩ : MethodName) (head1 (Jvm.Cond.code (⟨"com/example/kaava/kaava/model/FacetIsBoundPinLaw", "facetAt", "(I)Lcom/example/kaava/kaava/model/Facet;"⟩ : MethodName) method_2_code 1 (some (.object "com/example/kaava/kaava/model/Facet")) :: ws) ({ frames := 0, cells := 0, slots := 0, locals := 0 } : Room)) (fun a U => a = #[(.int (0 : Int32))] ∧ Z.Warmed39 U.vm ∧ U.heap = h0) (fun _ _ _ _ _ => True) (fun _ U o U' => ∃ v L, o = .returned v ∧ Q1_0 Z a1 h0 n0 v U'.heap L ∧ FrameEnd U o U' L ({ frames := 0, cells := 0, slots := 0, locals := 0 } : Room).cells ({ frames := 0, cells := 0, slots := 0, locals := 0 } : Room).slots) := by
  refine MetFree.of_bodySF (plainFor_of_name pn_com_example_kaava_kaava_model_FacetIsBoundPinLaw) hisR ?_
  intro p e s m args below meth c s₁ Bd hml0 hP hK
  obtain ⟨rfl, hZ, hh⟩ := hP
  have hx := Bd.exec
  have hby := Bd.bytes
  have hlk : meth.locks = false := BodyLoose.notSynchronized Bd
  have hml : c.maxLocals = 1 := hml0
  have hown : s.vm.findClass "com/example/kaava/kaava/model/FacetIsBoundPinLaw" = some m.cls := findClass_of_methodNamed Bd.named
  have hnm := (name_of_methodNamed Bd.named Bd.method).1
  have X0 : Stand p l e ({ frames := 0, cells := 0, slots := 0, locals := 0 } : Room) s m #[(.int (0 : Int32))] below meth c s₁ [] 0 0 := Stand.of_body Bd
  have e0 : s₁.heap = h0 := by rw [← hh, Bd.state]; rfl
  have N0 := Fr.nil n0
  show own_G p.tables e below s (Q1_0 Z a1 h0 n0) ({ frames := 0, cells := 0, slots := 0, locals := 0 } : Room).cells ({ frames := 0, cells := 0, slots := 0, locals := 0 } : Room).slots (s₁.setTop (entryFrame m #[(.int (0 : Int32))] 1))
  refine own_go (fun t k => castTop (ef_1_0 m (0 : Int32)) k) ?_
  show own_G p.tables e below s _ _ _ (s₁.setTop (mkF m 0 #[.val (.int (0 : Int32))] []))
  refine own_go (fun t k => XS.iloadN X0.here hx rfl (hb hby d1_0_0) rfl k) ?_
  show own_G p.tables e below s _ _ _ (s₁.setTop (mkF m 1 #[.val (.int (0 : Int32))] [(.int (0 : Int32))]))
  refine own_go (fun t k => XS.ifNo X0.here hx rfl (hb hby d1_0_1) rfl (by decide) k) ?_
  show own_G p.tables e below s _ _ _ (s₁.setTop (mkF m 4 #[.val (.int (0 : Int32))] []))
  obtain ⟨T1, X1, e1, st1⟩ := getS X0 hx hZ hown (host := "") (hw _ (List.mem_of_getElem? (i := 5) rfl)) Via.refl e0 S1 (g := (mkF m 4 #[.val (.int (0 : Int32))] [])) rfl (hb hby d1_0_4)
  refine own_go st1 ?_
  show own_G p.tables e below s _ _ _ (T1.setTop (mkF m 7 #[.val (.int (0 : Int32))] [(.ref a1)]))
  exact own_retA X1 hx hlk Bd.returns rfl rfl (hb hby d1_0_7) (by rw [e1]; exact ⟨rfl, N0, rfl⟩) (by decide) (by decide)
theorem d1_1_0 : decode method_2_code 0 = .ok (.iload_n 0, 1) := by decide +kernel
theorem d1_1_1 : decode method_2_code 1 = .ok (.ifCond .ne 7, 3) := by decide +kernel
theorem d1_1_8 : decode method_2_code 8 = .ok (.iload_n 0, 1) := by decide +kernel
theorem d1_1_9 : decode method_2_code 9 = .ok (.iconst 1, 1) := by decide +kernel
theorem d1_1_10 : decode method_2_code 10 = .ok (.if_icmp .ne 7, 3) := by decide +kernel
theorem d1_1_13 : decode method_2_code 13 = .ok (.getstatic 13, 3) := by decide +kernel
theorem d1_1_16 : decode method_2_code 16 = .ok (.areturn, 1) := by decide +kernel
theorem ef_1_1 (m : MethodId) (x0 : Int32) : entryFrame m #[(.int x0)] 1 = mkF m 0 #[.val (.int x0)] [] := by first | (simp [entryFrame, mkF, argsToLocals, Value.category]; done) | rfl
def Q1_1 (Z : State) (a1 : Addr) (h0 : Heap) (n0 : Nat) (v : Option Value) (h : Heap) (L : List Loc) : Prop := v = some (.ref a1) ∧ Fr n0 L ∧ h = h0
set_option maxRecDepth 65536 in
set_option maxHeartbeats 40000000 in
theorem rm1_1 (l : Launch) (Z : State) (a0 : Array Value) (hw : ∀ d ∈ tables_1, d.before a0 Z = true) (ws : List Jvm.Cond) (a1 : Addr) (h0 : Heap) (n0 : Nat) (Z0 : n0 ≤ h0.size) (S1 : Sta Z h0 "com/example/kaava/kaava/model/Facet" "MIN_LENGTH" "Lcom/example/kaava/kaava/model/Facet;" (.ref a1)) :
    MetFree l (⟨"com/example/kaava/kaava/model/FacetIsBoundPinLaw", "facetAt", "(I)Lcom/example/kaava/kaava/model/Facet;"⟩ : MethodName) (head1 (Jvm.Cond.code (⟨"com/example/kaava/kaava/model/FacetIsBoundPinLaw", "facetAt", "(I)Lcom/example/kaava/kaava/model/Facet;"⟩ : MethodName) method_2_code 1 (some (.object "com/example/kaava/kaava/model/Facet")) :: ws) ({ frames := 0, cells := 0, slots := 0, locals := 0 } : Room)) (fun a U => a = #[(.int (1 : Int32))] ∧ Z.Warmed39 U.vm ∧ U.heap = h0) (fun _ _ _ _ _ => True) (fun _ U o U' => ∃ v L, o = .returned v ∧ Q1_1 Z a1 h0 n0 v U'.heap L ∧ FrameEnd U o U' L ({ frames := 0, cells := 0, slots := 0, locals := 0 } : Room).cells ({ frames := 0, cells := 0, slots := 0, locals := 0 } : Room).slots) := by
  refine MetFree.of_bodySF (plainFor_of_name pn_com_example_kaava_kaava_model_FacetIsBoundPinLaw) hisR ?_
  intro p e s m args below meth c s₁ Bd hml0 hP hK
  obtain ⟨rfl, hZ, hh⟩ := hP
  have hx := Bd.exec
  have hby := Bd.bytes
  have hlk : meth.locks = false := BodyLoose.notSynchronized Bd
  have hml : c.maxLocals = 1 := hml0
  have hown : s.vm.findClass "com/example/kaava/kaava/model/FacetIsBoundPinLaw" = some m.cls := findClass_of_methodNamed Bd.named
  have hnm := (name_of_methodNamed Bd.named Bd.method).1
  have X0 : Stand p l e ({ frames := 0, cells := 0, slots := 0, locals := 0 } : Room) s m #[(.int (1 : Int32))] below meth c s₁ [] 0 0 := Stand.of_body Bd
  have e0 : s₁.heap = h0 := by rw [← hh, Bd.state]; rfl
  have N0 := Fr.nil n0
  show own_G p.tables e below s (Q1_1 Z a1 h0 n0) ({ frames := 0, cells := 0, slots := 0, locals := 0 } : Room).cells ({ frames := 0, cells := 0, slots := 0, locals := 0 } : Room).slots (s₁.setTop (entryFrame m #[(.int (1 : Int32))] 1))
  refine own_go (fun t k => castTop (ef_1_1 m (1 : Int32)) k) ?_
  show own_G p.tables e below s _ _ _ (s₁.setTop (mkF m 0 #[.val (.int (1 : Int32))] []))
  refine own_go (fun t k => XS.iloadN X0.here hx rfl (hb hby d1_1_0) rfl k) ?_
  show own_G p.tables e below s _ _ _ (s₁.setTop (mkF m 1 #[.val (.int (1 : Int32))] [(.int (1 : Int32))]))
  refine own_go (fun t k => XS.ifYes X0.here hx rfl (pc0 := 1) (pc' := 8) rfl (hb hby d1_1_1) rfl (by decide) (by decide) (by decide) k) ?_
  show own_G p.tables e below s _ _ _ (s₁.setTop (mkF m 8 #[.val (.int (1 : Int32))] []))
  refine own_go (fun t k => XS.iloadN X0.here hx rfl (hb hby d1_1_8) rfl k) ?_
  show own_G p.tables e below s _ _ _ (s₁.setTop (mkF m 9 #[.val (.int (1 : Int32))] [(.int (1 : Int32))]))
  refine own_go (fun t k => XS.iconst X0.here hx rfl (hb hby d1_1_9) k) ?_
  show own_G p.tables e below s _ _ _ (s₁.setTop (mkF m 10 #[.val (.int (1 : Int32))] [(.int (1 : Int32)), (.int (1 : Int32))]))
  refine own_go (fun t k => XS.icmpNo X0.here hx rfl (hb hby d1_1_10) rfl (by decide) k) ?_
  show own_G p.tables e below s _ _ _ (s₁.setTop (mkF m 13 #[.val (.int (1 : Int32))] []))
  obtain ⟨T2, X2, e2, st2⟩ := getS X0 hx hZ hown (host := "") (hw _ (List.mem_of_getElem? (i := 32) rfl)) Via.refl e0 S1 (g := (mkF m 13 #[.val (.int (1 : Int32))] [])) rfl (hb hby d1_1_13)
  refine own_go st2 ?_
  show own_G p.tables e below s _ _ _ (T2.setTop (mkF m 16 #[.val (.int (1 : Int32))] [(.ref a1)]))
  exact own_retA X2 hx hlk Bd.returns rfl rfl (hb hby d1_1_16) (by rw [e2]; exact ⟨rfl, N0, rfl⟩) (by decide) (by decide)
theorem d1_2_0 : decode method_2_code 0 = .ok (.iload_n 0, 1) := by decide +kernel
theorem d1_2_1 : decode method_2_code 1 = .ok (.ifCond .ne 7, 3) := by decide +kernel
theorem d1_2_8 : decode method_2_code 8 = .ok (.iload_n 0, 1) := by decide +kernel
theorem d1_2_9 : decode method_2_code 9 = .ok (.iconst 1, 1) := by decide +kernel
theorem d1_2_10 : decode method_2_code 10 = .ok (.if_icmp .ne 7, 3) := by decide +kernel
theorem d1_2_17 : decode method_2_code 17 = .ok (.iload_n 0, 1) := by decide +kernel
theorem d1_2_18 : decode method_2_code 18 = .ok (.iconst 2, 1) := by decide +kernel
theorem d1_2_19 : decode method_2_code 19 = .ok (.if_icmp .ne 7, 3) := by decide +kernel
theorem d1_2_22 : decode method_2_code 22 = .ok (.getstatic 16, 3) := by decide +kernel
theorem d1_2_25 : decode method_2_code 25 = .ok (.areturn, 1) := by decide +kernel
theorem ef_1_2 (m : MethodId) (x0 : Int32) : entryFrame m #[(.int x0)] 1 = mkF m 0 #[.val (.int x0)] [] := by first | (simp [entryFrame, mkF, argsToLocals, Value.category]; done) | rfl
def Q1_2 (Z : State) (a1 : Addr) (h0 : Heap) (n0 : Nat) (v : Option Value) (h : Heap) (L : List Loc) : Prop := v = some (.ref a1) ∧ Fr n0 L ∧ h = h0
set_option maxRecDepth 65536 in
set_option maxHeartbeats 40000000 in
theorem rm1_2 (l : Launch) (Z : State) (a0 : Array Value) (hw : ∀ d ∈ tables_1, d.before a0 Z = true) (ws : List Jvm.Cond) (a1 : Addr) (h0 : Heap) (n0 : Nat) (Z0 : n0 ≤ h0.size) (S1 : Sta Z h0 "com/example/kaava/kaava/model/Facet" "MAX_LENGTH" "Lcom/example/kaava/kaava/model/Facet;" (.ref a1)) :
    MetFree l (⟨"com/example/kaava/kaava/model/FacetIsBoundPinLaw", "facetAt", "(I)Lcom/example/kaava/kaava/model/Facet;"⟩ : MethodName) (head1 (Jvm.Cond.code (⟨"com/example/kaava/kaava/model/FacetIsBoundPinLaw", "facetAt", "(I)Lcom/example/kaava/kaava/model/Facet;"⟩ : MethodName) method_2_code 1 (some (.object "com/example/kaava/kaava/model/Facet")) :: ws) ({ frames := 0, cells := 0, slots := 0, locals := 0 } : Room)) (fun a U => a = #[(.int (2 : Int32))] ∧ Z.Warmed39 U.vm ∧ U.heap = h0) (fun _ _ _ _ _ => True) (fun _ U o U' => ∃ v L, o = .returned v ∧ Q1_2 Z a1 h0 n0 v U'.heap L ∧ FrameEnd U o U' L ({ frames := 0, cells := 0, slots := 0, locals := 0 } : Room).cells ({ frames := 0, cells := 0, slots := 0, locals := 0 } : Room).slots) := by
  refine MetFree.of_bodySF (plainFor_of_name pn_com_example_kaava_kaava_model_FacetIsBoundPinLaw) hisR ?_
  intro p e s m args below meth c s₁ Bd hml0 hP hK
  obtain ⟨rfl, hZ, hh⟩ := hP
  have hx := Bd.exec
  have hby := Bd.bytes
  have hlk : meth.locks = false := BodyLoose.notSynchronized Bd
  have hml : c.maxLocals = 1 := hml0
  have hown : s.vm.findClass "com/example/kaava/kaava/model/FacetIsBoundPinLaw" = some m.cls := findClass_of_methodNamed Bd.named
  have hnm := (name_of_methodNamed Bd.named Bd.method).1
  have X0 : Stand p l e ({ frames := 0, cells := 0, slots := 0, locals := 0 } : Room) s m #[(.int (2 : Int32))] below meth c s₁ [] 0 0 := Stand.of_body Bd
  have e0 : s₁.heap = h0 := by rw [← hh, Bd.state]; rfl
  have N0 := Fr.nil n0
  show own_G p.tables e below s (Q1_2 Z a1 h0 n0) ({ frames := 0, cells := 0, slots := 0, locals := 0 } : Room).cells ({ frames := 0, cells := 0, slots := 0, locals := 0 } : Room).slots (s₁.setTop (entryFrame m #[(.int (2 : Int32))] 1))
  refine own_go (fun t k => castTop (ef_1_2 m (2 : Int32)) k) ?_
  show own_G p.tables e below s _ _ _ (s₁.setTop (mkF m 0 #[.val (.int (2 : Int32))] []))
  refine own_go (fun t k => XS.iloadN X0.here hx rfl (hb hby d1_2_0) rfl k) ?_
  show own_G p.tables e below s _ _ _ (s₁.setTop (mkF m 1 #[.val (.int (2 : Int32))] [(.int (2 : Int32))]))
  refine own_go (fun t k => XS.ifYes X0.here hx rfl (pc0 := 1) (pc' := 8) rfl (hb hby d1_2_1) rfl (by decide) (by decide) (by decide) k) ?_
  show own_G p.tables e below s _ _ _ (s₁.setTop (mkF m 8 #[.val (.int (2 : Int32))] []))
  refine own_go (fun t k => XS.iloadN X0.here hx rfl (hb hby d1_2_8) rfl k) ?_
  show own_G p.tables e below s _ _ _ (s₁.setTop (mkF m 9 #[.val (.int (2 : Int32))] [(.int (2 : Int32))]))
  refine own_go (fun t k => XS.iconst X0.here hx rfl (hb hby d1_2_9) k) ?_
  show own_G p.tables e below s _ _ _ (s₁.setTop (mkF m 10 #[.val (.int (2 : Int32))] [(.int (1 : Int32)), (.int (2 : Int32))]))
  refine own_go (fun t k => XS.icmpYes X0.here hx rfl (pc0 := 10) (pc' := 17) rfl (hb hby d1_2_10) rfl (by decide) (by decide) (by decide) k) ?_
  show own_G p.tables e below s _ _ _ (s₁.setTop (mkF m 17 #[.val (.int (2 : Int32))] []))
  refine own_go (fun t k => XS.iloadN X0.here hx rfl (hb hby d1_2_17) rfl k) ?_
  show own_G p.tables e below s _ _ _ (s₁.setTop (mkF m 18 #[.val (.int (2 : Int32))] [(.int (2 : Int32))]))
  refine own_go (fun t k => XS.iconst X0.here hx rfl (hb hby d1_2_18) k) ?_
  show own_G p.tables e below s _ _ _ (s₁.setTop (mkF m 19 #[.val (.int (2 : Int32))] [(.int (2 : Int32)), (.int (2 : Int32))]))
  refine own_go (fun t k => XS.icmpNo X0.here hx rfl (hb hby d1_2_19) rfl (by decide) k) ?_
  show own_G p.tables e below s _ _ _ (s₁.setTop (mkF m 22 #[.val (.int (2 : Int32))] []))
  obtain ⟨T3, X3, e3, st3⟩ := getS X0 hx hZ hown (host := "") (hw _ (List.mem_of_getElem? (i := 28) rfl)) Via.refl e0 S1 (g := (mkF m 22 #[.val (.int (2 : Int32))] [])) rfl (hb hby d1_2_22)
  refine own_go st3 ?_
  show own_G p.tables e below s _ _ _ (T3.setTop (mkF m 25 #[.val (.int (2 : Int32))] [(.ref a1)]))
  exact own_retA X3 hx hlk Bd.returns rfl rfl (hb hby d1_2_25) (by rw [e3]; exact ⟨rfl, N0, rfl⟩) (by decide) (by decide)
theorem d1_3_0 : decode method_2_code 0 = .ok (.iload_n 0, 1) := by decide +kernel
theorem d1_3_1 : decode method_2_code 1 = .ok (.ifCond .ne 7, 3) := by decide +kernel
theorem d1_3_8 : decode method_2_code 8 = .ok (.iload_n 0, 1) := by decide +kernel
theorem d1_3_9 : decode method_2_code 9 = .ok (.iconst 1, 1) := by decide +kernel
theorem d1_3_10 : decode method_2_code 10 = .ok (.if_icmp .ne 7, 3) := by decide +kernel
theorem d1_3_17 : decode method_2_code 17 = .ok (.iload_n 0, 1) := by decide +kernel
theorem d1_3_18 : decode method_2_code 18 = .ok (.iconst 2, 1) := by decide +kernel
theorem d1_3_19 : decode method_2_code 19 = .ok (.if_icmp .ne 7, 3) := by decide +kernel
theorem d1_3_26 : decode method_2_code 26 = .ok (.iload_n 0, 1) := by decide +kernel
theorem d1_3_27 : decode method_2_code 27 = .ok (.iconst 3, 1) := by decide +kernel
theorem d1_3_28 : decode method_2_code 28 = .ok (.if_icmp .ne 7, 3) := by decide +kernel
theorem d1_3_31 : decode method_2_code 31 = .ok (.getstatic 19, 3) := by decide +kernel
theorem d1_3_34 : decode method_2_code 34 = .ok (.areturn, 1) := by decide +kernel
theorem ef_1_3 (m : MethodId) (x0 : Int32) : entryFrame m #[(.int x0)] 1 = mkF m 0 #[.val (.int x0)] [] := by first | (simp [entryFrame, mkF, argsToLocals, Value.category]; done) | rfl
def Q1_3 (Z : State) (a1 : Addr) (h0 : Heap) (n0 : Nat) (v : Option Value) (h : Heap) (L : List Loc) : Prop := v = some (.ref a1) ∧ Fr n0 L ∧ h = h0
set_option maxRecDepth 65536 in
set_option maxHeartbeats 40000000 in
theorem rm1_3 (l : Launch) (Z : State) (a0 : Array Value) (hw : ∀ d ∈ tables_1, d.before a0 Z = true) (ws : List Jvm.Cond) (a1 : Addr) (h0 : Heap) (n0 : Nat) (Z0 : n0 ≤ h0.size) (S1 : Sta Z h0 "com/example/kaava/kaava/model/Facet" "PATTERN" "Lcom/example/kaava/kaava/model/Facet;" (.ref a1)) :
    MetFree l (⟨"com/example/kaava/kaava/model/FacetIsBoundPinLaw", "facetAt", "(I)Lcom/example/kaava/kaava/model/Facet;"⟩ : MethodName) (head1 (Jvm.Cond.code (⟨"com/example/kaava/kaava/model/FacetIsBoundPinLaw", "facetAt", "(I)Lcom/example/kaava/kaava/model/Facet;"⟩ : MethodName) method_2_code 1 (some (.object "com/example/kaava/kaava/model/Facet")) :: ws) ({ frames := 0, cells := 0, slots := 0, locals := 0 } : Room)) (fun a U => a = #[(.int (3 : Int32))] ∧ Z.Warmed39 U.vm ∧ U.heap = h0) (fun _ _ _ _ _ => True) (fun _ U o U' => ∃ v L, o = .returned v ∧ Q1_3 Z a1 h0 n0 v U'.heap L ∧ FrameEnd U o U' L ({ frames := 0, cells := 0, slots := 0, locals := 0 } : Room).cells ({ frames := 0, cells := 0, slots := 0, locals := 0 } : Room).slots) := by
  refine MetFree.of_bodySF (plainFor_of_name pn_com_example_kaava_kaava_model_FacetIsBoundPinLaw) hisR ?_
  intro p e s m args below meth c s₁ Bd hml0 hP hK
  obtain ⟨rfl, hZ, hh⟩ := hP
  have hx := Bd.exec
  have hby := Bd.bytes
  have hlk : meth.locks = false := BodyLoose.notSynchronized Bd
  have hml : c.maxLocals = 1 := hml0
  have hown : s.vm.findClass "com/example/kaava/kaava/model/FacetIsBoundPinLaw" = some m.cls := findClass_of_methodNamed Bd.named
  have hnm := (name_of_methodNamed Bd.named Bd.method).1
  have X0 : Stand p l e ({ frames := 0, cells := 0, slots := 0, locals := 0 } : Room) s m #[(.int (3 : Int32))] below meth c s₁ [] 0 0 := Stand.of_body Bd
  have e0 : s₁.heap = h0 := by rw [← hh, Bd.state]; rfl
  have N0 := Fr.nil n0
  show own_G p.tables e below s (Q1_3 Z a1 h0 n0) ({ frames := 0, cells := 0, slots := 0, locals := 0 } : Room).cells ({ frames := 0, cells := 0, slots := 0, locals := 0 } : Room).slots (s₁.setTop (entryFrame m #[(.int (3 : Int32))] 1))
  refine own_go (fun t k => castTop (ef_1_3 m (3 : Int32)) k) ?_
  show own_G p.tables e below s _ _ _ (s₁.setTop (mkF m 0 #[.val (.int (3 : Int32))] []))
  refine own_go (fun t k => XS.iloadN X0.here hx rfl (hb hby d1_3_0) rfl k) ?_
  show own_G p.tables e below s _ _ _ (s₁.setTop (mkF m 1 #[.val (.int (3 : Int32))] [(.int (3 : Int32))]))
  refine own_go (fun t k => XS.ifYes X0.here hx rfl (pc0 := 1) (pc' := 8) rfl (hb hby d1_3_1) rfl (by decide) (by decide) (by decide) k) ?_
  show own_G p.tables e below s _ _ _ (s₁.setTop (mkF m 8 #[.val (.int (3 : Int32))] []))
  refine own_go (fun t k => XS.iloadN X0.here hx rfl (hb hby d1_3_8) rfl k) ?_
  show own_G p.tables e below s _ _ _ (s₁.setTop (mkF m 9 #[.val (.int (3 : Int32))] [(.int (3 : Int32))]))
  refine own_go (fun t k => XS.iconst X0.here hx rfl (hb hby d1_3_9) k) ?_
  show own_G p.tables e below s _ _ _ (s₁.setTop (mkF m 10 #[.val (.int (3 : Int32))] [(.int (1 : Int32)), (.int (3 : Int32))]))
  refine own_go (fun t k => XS.icmpYes X0.here hx rfl (pc0 := 10) (pc' := 17) rfl (hb hby d1_3_10) rfl (by decide) (by decide) (by decide) k) ?_
  show own_G p.tables e below s _ _ _ (s₁.setTop (mkF m 17 #[.val (.int (3 : Int32))] []))
  refine own_go (fun t k => XS.iloadN X0.here hx rfl (hb hby d1_3_17) rfl k) ?_
  show own_G p.tables e below s _ _ _ (s₁.setTop (mkF m 18 #[.val (.int (3 : Int32))] [(.int (3 : Int32))]))
  refine own_go (fun t k => XS.iconst X0.here hx rfl (hb hby d1_3_18) k) ?_
  show own_G p.tables e below s _ _ _ (s₁.setTop (mkF m 19 #[.val (.int (3 : Int32))] [(.int (2 : Int32)), (.int (3 : Int32))]))
  refine own_go (fun t k => XS.icmpYes X0.here hx rfl (pc0 := 19) (pc' := 26) rfl (hb hby d1_3_19) rfl (by decide) (by decide) (by decide) k) ?_
  show own_G p.tables e below s _ _ _ (s₁.setTop (mkF m 26 #[.val (.int (3 : Int32))] []))
  refine own_go (fun t k => XS.iloadN X0.here hx rfl (hb hby d1_3_26) rfl k) ?_
  show own_G p.tables e below s _ _ _ (s₁.setTop (mkF m 27 #[.val (.int (3 : Int32))] [(.int (3 : Int32))]))
  refine own_go (fun t k => XS.iconst X0.here hx rfl (hb hby d1_3_27) k) ?_
  show own_G p.tables e below s _ _ _ (s₁.setTop (mkF m 28 #[.val (.int (3 : Int32))] [(.int (3 : Int32)), (.int (3 : Int32))]))
  refine own_go (fun t k => XS.icmpNo X0.here hx rfl (hb hby d1_3_28) rfl (by decide) k) ?_
  show own_G p.tables e below s _ _ _ (s₁.setTop (mkF m 31 #[.val (.int (3 : Int32))] []))
  obtain ⟨T4, X4, e4, st4⟩ := getS X0 hx hZ hown (host := "") (hw _ (List.mem_of_getElem? (i := 21) rfl)) Via.refl e0 S1 (g := (mkF m 31 #[.val (.int (3 : Int32))] [])) rfl (hb hby d1_3_31)
  refine own_go st4 ?_
  show own_G p.tables e below s _ _ _ (T4.setTop (mkF m 34 #[.val (.int (3 : Int32))] [(.ref a1)]))
  exact own_retA X4 hx hlk Bd.returns rfl rfl (hb hby d1_3_34) (by rw [e4]; exact ⟨rfl, N0, rfl⟩) (by decide) (by decide)
theorem d1_4_0 : decode method_2_code 0 = .ok (.iload_n 0, 1) := by decide +kernel
theorem d1_4_1 : decode method_2_code 1 = .ok (.ifCond .ne 7, 3) := by decide +kernel
theorem d1_4_8 : decode method_2_code 8 = .ok (.iload_n 0, 1) := by decide +kernel
theorem d1_4_9 : decode method_2_code 9 = .ok (.iconst 1, 1) := by decide +kernel
theorem d1_4_10 : decode method_2_code 10 = .ok (.if_icmp .ne 7, 3) := by decide +kernel
theorem d1_4_17 : decode method_2_code 17 = .ok (.iload_n 0, 1) := by decide +kernel
theorem d1_4_18 : decode method_2_code 18 = .ok (.iconst 2, 1) := by decide +kernel
theorem d1_4_19 : decode method_2_code 19 = .ok (.if_icmp .ne 7, 3) := by decide +kernel
theorem d1_4_26 : decode method_2_code 26 = .ok (.iload_n 0, 1) := by decide +kernel
theorem d1_4_27 : decode method_2_code 27 = .ok (.iconst 3, 1) := by decide +kernel
theorem d1_4_28 : decode method_2_code 28 = .ok (.if_icmp .ne 7, 3) := by decide +kernel
theorem d1_4_35 : decode method_2_code 35 = .ok (.iload_n 0, 1) := by decide +kernel
theorem d1_4_36 : decode method_2_code 36 = .ok (.iconst 4, 1) := by decide +kernel
theorem d1_4_37 : decode method_2_code 37 = .ok (.if_icmp .ne 7, 3) := by decide +kernel
theorem d1_4_40 : decode method_2_code 40 = .ok (.getstatic 22, 3) := by decide +kernel
theorem d1_4_43 : decode method_2_code 43 = .ok (.areturn, 1) := by decide +kernel
theorem ef_1_4 (m : MethodId) (x0 : Int32) : entryFrame m #[(.int x0)] 1 = mkF m 0 #[.val (.int x0)] [] := by first | (simp [entryFrame, mkF, argsToLocals, Value.category]; done) | rfl
def Q1_4 (Z : State) (a1 : Addr) (h0 : Heap) (n0 : Nat) (v : Option Value) (h : Heap) (L : List Loc) : Prop := v = some (.ref a1) ∧ Fr n0 L ∧ h = h0
set_option maxRecDepth 65536 in
set_option maxHeartbeats 40000000 in
theorem rm1_4 (l : Launch) (Z : State) (a0 : Array Value) (hw : ∀ d ∈ tables_1, d.before a0 Z = true) (ws : List Jvm.Cond) (a1 : Addr) (h0 : Heap) (n0 : Nat) (Z0 : n0 ≤ h0.size) (S1 : Sta Z h0 "com/example/kaava/kaava/model/Facet" "ENUMERATION" "Lcom/example/kaava/kaava/model/Facet;" (.ref a1)) :
    MetFree l (⟨"com/example/kaava/kaava/model/FacetIsBoundPinLaw", "facetAt", "(I)Lcom/example/kaava/kaava/model/Facet;"⟩ : MethodName) (head1 (Jvm.Cond.code (⟨"com/example/kaava/kaava/model/FacetIsBoundPinLaw", "facetAt", "(I)Lcom/example/kaava/kaava/model/Facet;"⟩ : MethodName) method_2_code 1 (some (.object "com/example/kaava/kaava/model/Facet")) :: ws) ({ frames := 0, cells := 0, slots := 0, locals := 0 } : Room)) (fun a U => a = #[(.int (4 : Int32))] ∧ Z.Warmed39 U.vm ∧ U.heap = h0) (fun _ _ _ _ _ => True) (fun _ U o U' => ∃ v L, o = .returned v ∧ Q1_4 Z a1 h0 n0 v U'.heap L ∧ FrameEnd U o U' L ({ frames := 0, cells := 0, slots := 0, locals := 0 } : Room).cells ({ frames := 0, cells := 0, slots := 0, locals := 0 } : Room).slots) := by
  refine MetFree.of_bodySF (plainFor_of_name pn_com_example_kaava_kaava_model_FacetIsBoundPinLaw) hisR ?_
  intro p e s m args below meth c s₁ Bd hml0 hP hK
  obtain ⟨rfl, hZ, hh⟩ := hP
  have hx := Bd.exec
  have hby := Bd.bytes
  have hlk : meth.locks = false := BodyLoose.notSynchronized Bd
  have hml : c.maxLocals = 1 := hml0
  have hown : s.vm.findClass "com/example/kaava/kaava/model/FacetIsBoundPinLaw" = some m.cls := findClass_of_methodNamed Bd.named
  have hnm := (name_of_methodNamed Bd.named Bd.method).1
  have X0 : Stand p l e ({ frames := 0, cells := 0, slots := 0, locals := 0 } : Room) s m #[(.int (4 : Int32))] below meth c s₁ [] 0 0 := Stand.of_body Bd
  have e0 : s₁.heap = h0 := by rw [← hh, Bd.state]; rfl
  have N0 := Fr.nil n0
  show own_G p.tables e below s (Q1_4 Z a1 h0 n0) ({ frames := 0, cells := 0, slots := 0, locals := 0 } : Room).cells ({ frames := 0, cells := 0, slots := 0, locals := 0 } : Room).slots (s₁.setTop (entryFrame m #[(.int (4 : Int32))] 1))
  refine own_go (fun t k => castTop (ef_1_4 m (4 : Int32)) k) ?_
  show own_G p.tables e below s _ _ _ (s₁.setTop (mkF m 0 #[.val (.int (4 : Int32))] []))
  refine own_go (fun t k => XS.iloadN X0.here hx rfl (hb hby d1_4_0) rfl k) ?_
  show own_G p.tables e below s _ _ _ (s₁.setTop (mkF m 1 #[.val (.int (4 : Int32))] [(.int (4 : Int32))]))
  refine own_go (fun t k => XS.ifYes X0.here hx rfl (pc0 := 1) (pc' := 8) rfl (hb hby d1_4_1) rfl (by decide) (by decide) (by decide) k) ?_
  show own_G p.tables e below s _ _ _ (s₁.setTop (mkF m 8 #[.val (.int (4 : Int32))] []))
  refine own_go (fun t k => XS.iloadN X0.here hx rfl (hb hby d1_4_8) rfl k) ?_
  show own_G p.tables e below s _ _ _ (s₁.setTop (mkF m 9 #[.val (.int (4 : Int32))] [(.int (4 : Int32))]))
  refine own_go (fun t k => XS.iconst X0.here hx rfl (hb hby d1_4_9) k) ?_
  show own_G p.tables e below s _ _ _ (s₁.setTop (mkF m 10 #[.val (.int (4 : Int32))] [(.int (1 : Int32)), (.int (4 : Int32))]))
  refine own_go (fun t k => XS.icmpYes X0.here hx rfl (pc0 := 10) (pc' := 17) rfl (hb hby d1_4_10) rfl (by decide) (by decide) (by decide) k) ?_
  show own_G p.tables e below s _ _ _ (s₁.setTop (mkF m 17 #[.val (.int (4 : Int32))] []))
  refine own_go (fun t k => XS.iloadN X0.here hx rfl (hb hby d1_4_17) rfl k) ?_
  show own_G p.tables e below s _ _ _ (s₁.setTop (mkF m 18 #[.val (.int (4 : Int32))] [(.int (4 : Int32))]))
  refine own_go (fun t k => XS.iconst X0.here hx rfl (hb hby d1_4_18) k) ?_
  show own_G p.tables e below s _ _ _ (s₁.setTop (mkF m 19 #[.val (.int (4 : Int32))] [(.int (2 : Int32)), (.int (4 : Int32))]))
  refine own_go (fun t k => XS.icmpYes X0.here hx rfl (pc0 := 19) (pc' := 26) rfl (hb hby d1_4_19) rfl (by decide) (by decide) (by decide) k) ?_
  show own_G p.tables e below s _ _ _ (s₁.setTop (mkF m 26 #[.val (.int (4 : Int32))] []))
  refine own_go (fun t k => XS.iloadN X0.here hx rfl (hb hby d1_4_26) rfl k) ?_
  show own_G p.tables e below s _ _ _ (s₁.setTop (mkF m 27 #[.val (.int (4 : Int32))] [(.int (4 : Int32))]))
  refine own_go (fun t k => XS.iconst X0.here hx rfl (hb hby d1_4_27) k) ?_
  show own_G p.tables e below s _ _ _ (s₁.setTop (mkF m 28 #[.val (.int (4 : Int32))] [(.int (3 : Int32)), (.int (4 : Int32))]))
  refine own_go (fun t k => XS.icmpYes X0.here hx rfl (pc0 := 28) (pc' := 35) rfl (hb hby d1_4_28) rfl (by decide) (by decide) (by decide) k) ?_
  show own_G p.tables e below s _ _ _ (s₁.setTop (mkF m 35 #[.val (.int (4 : Int32))] []))
  refine own_go (fun t k => XS.iloadN X0.here hx rfl (hb hby d1_4_35) rfl k) ?_
  show own_G p.tables e below s _ _ _ (s₁.setTop (mkF m 36 #[.val (.int (4 : Int32))] [(.int (4 : Int32))]))
  refine own_go (fun t k => XS.iconst X0.here hx rfl (hb hby d1_4_36) k) ?_
  show own_G p.tables e below s _ _ _ (s₁.setTop (mkF m 37 #[.val (.int (4 : Int32))] [(.int (4 : Int32)), (.int (4 : Int32))]))
  refine own_go (fun t k => XS.icmpNo X0.here hx rfl (hb hby d1_4_37) rfl (by decide) k) ?_
  show own_G p.tables e below s _ _ _ (s₁.setTop (mkF m 40 #[.val (.int (4 : Int32))] []))
  obtain ⟨T5, X5, e5, st5⟩ := getS X0 hx hZ hown (host := "") (hw _ (List.mem_of_getElem? (i := 39) rfl)) Via.refl e0 S1 (g := (mkF m 40 #[.val (.int (4 : Int32))] [])) rfl (hb hby d1_4_40)
  refine own_go st5 ?_
  show own_G p.tables e below s _ _ _ (T5.setTop (mkF m 43 #[.val (.int (4 : Int32))] [(.ref a1)]))
  exact own_retA X5 hx hlk Bd.returns rfl rfl (hb hby d1_4_43) (by rw [e5]; exact ⟨rfl, N0, rfl⟩) (by decide) (by decide)
theorem d1_5_0 : decode method_2_code 0 = .ok (.iload_n 0, 1) := by decide +kernel
theorem d1_5_1 : decode method_2_code 1 = .ok (.ifCond .ne 7, 3) := by decide +kernel
theorem d1_5_8 : decode method_2_code 8 = .ok (.iload_n 0, 1) := by decide +kernel
theorem d1_5_9 : decode method_2_code 9 = .ok (.iconst 1, 1) := by decide +kernel
theorem d1_5_10 : decode method_2_code 10 = .ok (.if_icmp .ne 7, 3) := by decide +kernel
theorem d1_5_17 : decode method_2_code 17 = .ok (.iload_n 0, 1) := by decide +kernel
theorem d1_5_18 : decode method_2_code 18 = .ok (.iconst 2, 1) := by decide +kernel
theorem d1_5_19 : decode method_2_code 19 = .ok (.if_icmp .ne 7, 3) := by decide +kernel
theorem d1_5_26 : decode method_2_code 26 = .ok (.iload_n 0, 1) := by decide +kernel
theorem d1_5_27 : decode method_2_code 27 = .ok (.iconst 3, 1) := by decide +kernel
theorem d1_5_28 : decode method_2_code 28 = .ok (.if_icmp .ne 7, 3) := by decide +kernel
theorem d1_5_35 : decode method_2_code 35 = .ok (.iload_n 0, 1) := by decide +kernel
theorem d1_5_36 : decode method_2_code 36 = .ok (.iconst 4, 1) := by decide +kernel
theorem d1_5_37 : decode method_2_code 37 = .ok (.if_icmp .ne 7, 3) := by decide +kernel
theorem d1_5_44 : decode method_2_code 44 = .ok (.iload_n 0, 1) := by decide +kernel
theorem d1_5_45 : decode method_2_code 45 = .ok (.iconst 5, 1) := by decide +kernel
theorem d1_5_46 : decode method_2_code 46 = .ok (.if_icmp .ne 7, 3) := by decide +kernel
theorem d1_5_49 : decode method_2_code 49 = .ok (.getstatic 25, 3) := by decide +kernel
theorem d1_5_52 : decode method_2_code 52 = .ok (.areturn, 1) := by decide +kernel
theorem ef_1_5 (m : MethodId) (x0 : Int32) : entryFrame m #[(.int x0)] 1 = mkF m 0 #[.val (.int x0)] [] := by first | (simp [entryFrame, mkF, argsToLocals, Value.category]; done) | rfl
def Q1_5 (Z : State) (a1 : Addr) (h0 : Heap) (n0 : Nat) (v : Option Value) (h : Heap) (L : List Loc) : Prop := v = some (.ref a1) ∧ Fr n0 L ∧ h = h0
set_option maxRecDepth 65536 in
set_option maxHeartbeats 40000000 in
theorem rm1_5 (l : Launch) (Z : State) (a0 : Array Value) (hw : ∀ d ∈ tables_1, d.before a0 Z = true) (ws : List Jvm.Cond) (a1 : Addr) (h0 : Heap) (n0 : Nat) (Z0 : n0 ≤ h0.size) (S1 : Sta Z h0 "com/example/kaava/kaava/model/Facet" "WHITE_SPACE" "Lcom/example/kaava/kaava/model/Facet;" (.ref a1)) :
    MetFree l (⟨"com/example/kaava/kaava/model/FacetIsBoundPinLaw", "facetAt", "(I)Lcom/example/kaava/kaava/model/Facet;"⟩ : MethodName) (head1 (Jvm.Cond.code (⟨"com/example/kaava/kaava/model/FacetIsBoundPinLaw", "facetAt", "(I)Lcom/example/kaava/kaava/model/Facet;"⟩ : MethodName) method_2_code 1 (some (.object "com/example/kaava/kaava/model/Facet")) :: ws) ({ frames := 0, cells := 0, slots := 0, locals := 0 } : Room)) (fun a U => a = #[(.int (5 : Int32))] ∧ Z.Warmed39 U.vm ∧ U.heap = h0) (fun _ _ _ _ _ => True) (fun _ U o U' => ∃ v L, o = .returned v ∧ Q1_5 Z a1 h0 n0 v U'.heap L ∧ FrameEnd U o U' L ({ frames := 0, cells := 0, slots := 0, locals := 0 } : Room).cells ({ frames := 0, cells := 0, slots := 0, locals := 0 } : Room).slots) := by
  refine MetFree.of_bodySF (plainFor_of_name pn_com_example_kaava_kaava_model_FacetIsBoundPinLaw) hisR ?_
  intro p e s m args below meth c s₁ Bd hml0 hP hK
  obtain ⟨rfl, hZ, hh⟩ := hP
  have hx := Bd.exec
  have hby := Bd.bytes
  have hlk : meth.locks = false := BodyLoose.notSynchronized Bd
  have hml : c.maxLocals = 1 := hml0
  have hown : s.vm.findClass "com/example/kaava/kaava/model/FacetIsBoundPinLaw" = some m.cls := findClass_of_methodNamed Bd.named
  have hnm := (name_of_methodNamed Bd.named Bd.method).1
  have X0 : Stand p l e ({ frames := 0, cells := 0, slots := 0, locals := 0 } : Room) s m #[(.int (5 : Int32))] below meth c s₁ [] 0 0 := Stand.of_body Bd
  have e0 : s₁.heap = h0 := by rw [← hh, Bd.state]; rfl
  have N0 := Fr.nil n0
  show own_G p.tables e below s (Q1_5 Z a1 h0 n0) ({ frames := 0, cells := 0, slots := 0, locals := 0 } : Room).cells ({ frames := 0, cells := 0, slots := 0, locals := 0 } : Room).slots (s₁.setTop (entryFrame m #[(.int (5 : Int32))] 1))
  refine own_go (fun t k => castTop (ef_1_5 m (5 : Int32)) k) ?_
  show own_G p.tables e below s _ _ _ (s₁.setTop (mkF m 0 #[.val (.int (5 : Int32))] []))
  refine own_go (fun t k => XS.iloadN X0.here hx rfl (hb hby d1_5_0) rfl k) ?_
  show own_G p.tables e below s _ _ _ (s₁.setTop (mkF m 1 #[.val (.int (5 : Int32))] [(.int (5 : Int32))]))
  refine own_go (fun t k => XS.ifYes X0.here hx rfl (pc0 := 1) (pc' := 8) rfl (hb hby d1_5_1) rfl (by decide) (by decide) (by decide) k) ?_
  show own_G p.tables e below s _ _ _ (s₁.setTop (mkF m 8 #[.val (.int (5 : Int32))] []))
  refine own_go (fun t k => XS.iloadN X0.here hx rfl (hb hby d1_5_8) rfl k) ?_
  show own_G p.tables e below s _ _ _ (s₁.setTop (mkF m 9 #[.val (.int (5 : Int32))] [(.int (5 : Int32))]))
  refine own_go (fun t k => XS.iconst X0.here hx rfl (hb hby d1_5_9) k) ?_
  show own_G p.tables e below s _ _ _ (s₁.setTop (mkF m 10 #[.val (.int (5 : Int32))] [(.int (1 : Int32)), (.int (5 : Int32))]))
  refine own_go (fun t k => XS.icmpYes X0.here hx rfl (pc0 := 10) (pc' := 17) rfl (hb hby d1_5_10) rfl (by decide) (by decide) (by decide) k) ?_
  show own_G p.tables e below s _ _ _ (s₁.setTop (mkF m 17 #[.val (.int (5 : Int32))] []))
  refine own_go (fun t k => XS.iloadN X0.here hx rfl (hb hby d1_5_17) rfl k) ?_
  show own_G p.tables e below s _ _ _ (s₁.setTop (mkF m 18 #[.val (.int (5 : Int32))] [(.int (5 : Int32))]))
  refine own_go (fun t k => XS.iconst X0.here hx rfl (hb hby d1_5_18) k) ?_
  show own_G p.tables e below s _ _ _ (s₁.setTop (mkF m 19 #[.val (.int (5 : Int32))] [(.int (2 : Int32)), (.int (5 : Int32))]))
  refine own_go (fun t k => XS.icmpYes X0.here hx rfl (pc0 := 19) (pc' := 26) rfl (hb hby d1_5_19) rfl (by decide) (by decide) (by decide) k) ?_
  show own_G p.tables e below s _ _ _ (s₁.setTop (mkF m 26 #[.val (.int (5 : Int32))] []))
  refine own_go (fun t k => XS.iloadN X0.here hx rfl (hb hby d1_5_26) rfl k) ?_
  show own_G p.tables e below s _ _ _ (s₁.setTop (mkF m 27 #[.val (.int (5 : Int32))] [(.int (5 : Int32))]))
  refine own_go (fun t k => XS.iconst X0.here hx rfl (hb hby d1_5_27) k) ?_
  show own_G p.tables e below s _ _ _ (s₁.setTop (mkF m 28 #[.val (.int (5 : Int32))] [(.int (3 : Int32)), (.int (5 : Int32))]))
  refine own_go (fun t k => XS.icmpYes X0.here hx rfl (pc0 := 28) (pc' := 35) rfl (hb hby d1_5_28) rfl (by decide) (by decide) (by decide) k) ?_
  show own_G p.tables e below s _ _ _ (s₁.setTop (mkF m 35 #[.val (.int (5 : Int32))] []))
  refine own_go (fun t k => XS.iloadN X0.here hx rfl (hb hby d1_5_35) rfl k) ?_
  show own_G p.tables e below s _ _ _ (s₁.setTop (mkF m 36 #[.val (.int (5 : Int32))] [(.int (5 : Int32))]))
  refine own_go (fun t k => XS.iconst X0.here hx rfl (hb hby d1_5_36) k) ?_
  show own_G p.tables e below s _ _ _ (s₁.setTop (mkF m 37 #[.val (.int (5 : Int32))] [(.int (4 : Int32)), (.int (5 : Int32))]))
  refine own_go (fun t k => XS.icmpYes X0.here hx rfl (pc0 := 37) (pc' := 44) rfl (hb hby d1_5_37) rfl (by decide) (by decide) (by decide) k) ?_
  show own_G p.tables e below s _ _ _ (s₁.setTop (mkF m 44 #[.val (.int (5 : Int32))] []))
  refine own_go (fun t k => XS.iloadN X0.here hx rfl (hb hby d1_5_44) rfl k) ?_
  show own_G p.tables e below s _ _ _ (s₁.setTop (mkF m 45 #[.val (.int (5 : Int32))] [(.int (5 : Int32))]))
  refine own_go (fun t k => XS.iconst X0.here hx rfl (hb hby d1_5_45) k) ?_
  show own_G p.tables e below s _ _ _ (s₁.setTop (mkF m 46 #[.val (.int (5 : Int32))] [(.int (5 : Int32)), (.int (5 : Int32))]))
  refine own_go (fun t k => XS.icmpNo X0.here hx rfl (hb hby d1_5_46) rfl (by decide) k) ?_
  show own_G p.tables e below s _ _ _ (s₁.setTop (mkF m 49 #[.val (.int (5 : Int32))] []))
  obtain ⟨T6, X6, e6, st6⟩ := getS X0 hx hZ hown (host := "") (hw _ (List.mem_of_getElem? (i := 24) rfl)) Via.refl e0 S1 (g := (mkF m 49 #[.val (.int (5 : Int32))] [])) rfl (hb hby d1_5_49)
  refine own_go st6 ?_
  show own_G p.tables e below s _ _ _ (T6.setTop (mkF m 52 #[.val (.int (5 : Int32))] [(.ref a1)]))
  exact own_retA X6 hx hlk Bd.returns rfl rfl (hb hby d1_5_52) (by rw [e6]; exact ⟨rfl, N0, rfl⟩) (by decide) (by decide)
theorem d1_6_0 : decode method_2_code 0 = .ok (.iload_n 0, 1) := by decide +kernel
theorem d1_6_1 : decode method_2_code 1 = .ok (.ifCond .ne 7, 3) := by decide +kernel
theorem d1_6_8 : decode method_2_code 8 = .ok (.iload_n 0, 1) := by decide +kernel
theorem d1_6_9 : decode method_2_code 9 = .ok (.iconst 1, 1) := by decide +kernel
theorem d1_6_10 : decode method_2_code 10 = .ok (.if_icmp .ne 7, 3) := by decide +kernel
theorem d1_6_17 : decode method_2_code 17 = .ok (.iload_n 0, 1) := by decide +kernel
theorem d1_6_18 : decode method_2_code 18 = .ok (.iconst 2, 1) := by decide +kernel
theorem d1_6_19 : decode method_2_code 19 = .ok (.if_icmp .ne 7, 3) := by decide +kernel
theorem d1_6_26 : decode method_2_code 26 = .ok (.iload_n 0, 1) := by decide +kernel
theorem d1_6_27 : decode method_2_code 27 = .ok (.iconst 3, 1) := by decide +kernel
theorem d1_6_28 : decode method_2_code 28 = .ok (.if_icmp .ne 7, 3) := by decide +kernel
theorem d1_6_35 : decode method_2_code 35 = .ok (.iload_n 0, 1) := by decide +kernel
theorem d1_6_36 : decode method_2_code 36 = .ok (.iconst 4, 1) := by decide +kernel
theorem d1_6_37 : decode method_2_code 37 = .ok (.if_icmp .ne 7, 3) := by decide +kernel
theorem d1_6_44 : decode method_2_code 44 = .ok (.iload_n 0, 1) := by decide +kernel
theorem d1_6_45 : decode method_2_code 45 = .ok (.iconst 5, 1) := by decide +kernel
theorem d1_6_46 : decode method_2_code 46 = .ok (.if_icmp .ne 7, 3) := by decide +kernel
theorem d1_6_53 : decode method_2_code 53 = .ok (.iload_n 0, 1) := by decide +kernel
theorem d1_6_54 : decode method_2_code 54 = .ok (.bipush 6, 2) := by decide +kernel
theorem d1_6_56 : decode method_2_code 56 = .ok (.if_icmp .ne 7, 3) := by decide +kernel
theorem d1_6_59 : decode method_2_code 59 = .ok (.getstatic 28, 3) := by decide +kernel
theorem d1_6_62 : decode method_2_code 62 = .ok (.areturn, 1) := by decide +kernel
theorem ef_1_6 (m : MethodId) (x0 : Int32) : entryFrame m #[(.int x0)] 1 = mkF m 0 #[.val (.int x0)] [] := by first | (simp [entryFrame, mkF, argsToLocals, Value.category]; done) | rfl
def Q1_6 (Z : State) (a1 : Addr) (h0 : Heap) (n0 : Nat) (v : Option Value) (h : Heap) (L : List Loc) : Prop := v = some (.ref a1) ∧ Fr n0 L ∧ h = h0
set_option maxRecDepth 65536 in
set_option maxHeartbeats 40000000 in
theorem rm1_6 (l : Launch) (Z : State) (a0 : Array Value) (hw : ∀ d ∈ tables_1, d.before a0 Z = true) (ws : List Jvm.Cond) (a1 : Addr) (h0 : Heap) (n0 : Nat) (Z0 : n0 ≤ h0.size) (S1 : Sta Z h0 "com/example/kaava/kaava/model/Facet" "MAX_INCLUSIVE" "Lcom/example/kaava/kaava/model/Facet;" (.ref a1)) :
    MetFree l (⟨"com/example/kaava/kaava/model/FacetIsBoundPinLaw", "facetAt", "(I)Lcom/example/kaava/kaava/model/Facet;"⟩ : MethodName) (head1 (Jvm.Cond.code (⟨"com/example/kaava/kaava/model/FacetIsBoundPinLaw", "facetAt", "(I)Lcom/example/kaava/kaava/model/Facet;"⟩ : MethodName) method_2_code 1 (some (.object "com/example/kaava/kaava/model/Facet")) :: ws) ({ frames := 0, cells := 0, slots := 0, locals := 0 } : Room)) (fun a U => a = #[(.int (6 : Int32))] ∧ Z.Warmed39 U.vm ∧ U.heap = h0) (fun _ _ _ _ _ => True) (fun _ U o U' => ∃ v L, o = .returned v ∧ Q1_6 Z a1 h0 n0 v U'.heap L ∧ FrameEnd U o U' L ({ frames := 0, cells := 0, slots := 0, locals := 0 } : Room).cells ({ frames := 0, cells := 0, slots := 0, locals := 0 } : Room).slots) := by
  refine MetFree.of_bodySF (plainFor_of_name pn_com_example_kaava_kaava_model_FacetIsBoundPinLaw) hisR ?_
  intro p e s m args below meth c s₁ Bd hml0 hP hK
  obtain ⟨rfl, hZ, hh⟩ := hP
  have hx := Bd.exec
  have hby := Bd.bytes
  have hlk : meth.locks = false := BodyLoose.notSynchronized Bd
  have hml : c.maxLocals = 1 := hml0
  have hown : s.vm.findClass "com/example/kaava/kaava/model/FacetIsBoundPinLaw" = some m.cls := findClass_of_methodNamed Bd.named
  have hnm := (name_of_methodNamed Bd.named Bd.method).1
  have X0 : Stand p l e ({ frames := 0, cells := 0, slots := 0, locals := 0 } : Room) s m #[(.int (6 : Int32))] below meth c s₁ [] 0 0 := Stand.of_body Bd
  have e0 : s₁.heap = h0 := by rw [← hh, Bd.state]; rfl
  have N0 := Fr.nil n0
  show own_G p.tables e below s (Q1_6 Z a1 h0 n0) ({ frames := 0, cells := 0, slots := 0, locals := 0 } : Room).cells ({ frames := 0, cells := 0, slots := 0, locals := 0 } : Room).slots (s₁.setTop (entryFrame m #[(.int (6 : Int32))] 1))
  refine own_go (fun t k => castTop (ef_1_6 m (6 : Int32)) k) ?_
  show own_G p.tables e below s _ _ _ (s₁.setTop (mkF m 0 #[.val (.int (6 : Int32))] []))
  refine own_go (fun t k => XS.iloadN X0.here hx rfl (hb hby d1_6_0) rfl k) ?_
  show own_G p.tables e below s _ _ _ (s₁.setTop (mkF m 1 #[.val (.int (6 : Int32))] [(.int (6 : Int32))]))
  refine own_go (fun t k => XS.ifYes X0.here hx rfl (pc0 := 1) (pc' := 8) rfl (hb hby d1_6_1) rfl (by decide) (by decide) (by decide) k) ?_
  show own_G p.tables e below s _ _ _ (s₁.setTop (mkF m 8 #[.val (.int (6 : Int32))] []))
  refine own_go (fun t k => XS.iloadN X0.here hx rfl (hb hby d1_6_8) rfl k) ?_
  show own_G p.tables e below s _ _ _ (s₁.setTop (mkF m 9 #[.val (.int (6 : Int32))] [(.int (6 : Int32))]))
  refine own_go (fun t k => XS.iconst X0.here hx rfl (hb hby d1_6_9) k) ?_
  show own_G p.tables e below s _ _ _ (s₁.setTop (mkF m 10 #[.val (.int (6 : Int32))] [(.int (1 : Int32)), (.int (6 : Int32))]))
  refine own_go (fun t k => XS.icmpYes X0.here hx rfl (pc0 := 10) (pc' := 17) rfl (hb hby d1_6_10) rfl (by decide) (by decide) (by decide) k) ?_
  show own_G p.tables e below s _ _ _ (s₁.setTop (mkF m 17 #[.val (.int (6 : Int32))] []))
  refine own_go (fun t k => XS.iloadN X0.here hx rfl (hb hby d1_6_17) rfl k) ?_
  show own_G p.tables e below s _ _ _ (s₁.setTop (mkF m 18 #[.val (.int (6 : Int32))] [(.int (6 : Int32))]))
  refine own_go (fun t k => XS.iconst X0.here hx rfl (hb hby d1_6_18) k) ?_
  show own_G p.tables e below s _ _ _ (s₁.setTop (mkF m 19 #[.val (.int (6 : Int32))] [(.int (2 : Int32)), (.int (6 : Int32))]))
  refine own_go (fun t k => XS.icmpYes X0.here hx rfl (pc0 := 19) (pc' := 26) rfl (hb hby d1_6_19) rfl (by decide) (by decide) (by decide) k) ?_
  show own_G p.tables e below s _ _ _ (s₁.setTop (mkF m 26 #[.val (.int (6 : Int32))] []))
  refine own_go (fun t k => XS.iloadN X0.here hx rfl (hb hby d1_6_26) rfl k) ?_
  show own_G p.tables e below s _ _ _ (s₁.setTop (mkF m 27 #[.val (.int (6 : Int32))] [(.int (6 : Int32))]))
  refine own_go (fun t k => XS.iconst X0.here hx rfl (hb hby d1_6_27) k) ?_
  show own_G p.tables e below s _ _ _ (s₁.setTop (mkF m 28 #[.val (.int (6 : Int32))] [(.int (3 : Int32)), (.int (6 : Int32))]))
  refine own_go (fun t k => XS.icmpYes X0.here hx rfl (pc0 := 28) (pc' := 35) rfl (hb hby d1_6_28) rfl (by decide) (by decide) (by decide) k) ?_
  show own_G p.tables e below s _ _ _ (s₁.setTop (mkF m 35 #[.val (.int (6 : Int32))] []))
  refine own_go (fun t k => XS.iloadN X0.here hx rfl (hb hby d1_6_35) rfl k) ?_
  show own_G p.tables e below s _ _ _ (s₁.setTop (mkF m 36 #[.val (.int (6 : Int32))] [(.int (6 : Int32))]))
  refine own_go (fun t k => XS.iconst X0.here hx rfl (hb hby d1_6_36) k) ?_
  show own_G p.tables e below s _ _ _ (s₁.setTop (mkF m 37 #[.val (.int (6 : Int32))] [(.int (4 : Int32)), (.int (6 : Int32))]))
  refine own_go (fun t k => XS.icmpYes X0.here hx rfl (pc0 := 37) (pc' := 44) rfl (hb hby d1_6_37) rfl (by decide) (by decide) (by decide) k) ?_
  show own_G p.tables e below s _ _ _ (s₁.setTop (mkF m 44 #[.val (.int (6 : Int32))] []))
  refine own_go (fun t k => XS.iloadN X0.here hx rfl (hb hby d1_6_44) rfl k) ?_
  show own_G p.tables e below s _ _ _ (s₁.setTop (mkF m 45 #[.val (.int (6 : Int32))] [(.int (6 : Int32))]))
  refine own_go (fun t k => XS.iconst X0.here hx rfl (hb hby d1_6_45) k) ?_
  show own_G p.tables e below s _ _ _ (s₁.setTop (mkF m 46 #[.val (.int (6 : Int32))] [(.int (5 : Int32)), (.int (6 : Int32))]))
  refine own_go (fun t k => XS.icmpYes X0.here hx rfl (pc0 := 46) (pc' := 53) rfl (hb hby d1_6_46) rfl (by decide) (by decide) (by decide) k) ?_
  show own_G p.tables e below s _ _ _ (s₁.setTop (mkF m 53 #[.val (.int (6 : Int32))] []))
  refine own_go (fun t k => XS.iloadN X0.here hx rfl (hb hby d1_6_53) rfl k) ?_
  show own_G p.tables e below s _ _ _ (s₁.setTop (mkF m 54 #[.val (.int (6 : Int32))] [(.int (6 : Int32))]))
  refine own_go (fun t k => XS.bipush X0.here hx rfl (hb hby d1_6_54) k) ?_
  show own_G p.tables e below s _ _ _ (s₁.setTop (mkF m 56 #[.val (.int (6 : Int32))] [(.int (6 : Int32)), (.int (6 : Int32))]))
  refine own_go (fun t k => XS.icmpNo X0.here hx rfl (hb hby d1_6_56) rfl (by decide) k) ?_
  show own_G p.tables e below s _ _ _ (s₁.setTop (mkF m 59 #[.val (.int (6 : Int32))] []))
  obtain ⟨T7, X7, e7, st7⟩ := getS X0 hx hZ hown (host := "") (hw _ (List.mem_of_getElem? (i := 23) rfl)) Via.refl e0 S1 (g := (mkF m 59 #[.val (.int (6 : Int32))] [])) rfl (hb hby d1_6_59)
  refine own_go st7 ?_
  show own_G p.tables e below s _ _ _ (T7.setTop (mkF m 62 #[.val (.int (6 : Int32))] [(.ref a1)]))
  exact own_retA X7 hx hlk Bd.returns rfl rfl (hb hby d1_6_62) (by rw [e7]; exact ⟨rfl, N0, rfl⟩) (by decide) (by decide)
theorem d1_7_0 : decode method_2_code 0 = .ok (.iload_n 0, 1) := by decide +kernel
theorem d1_7_1 : decode method_2_code 1 = .ok (.ifCond .ne 7, 3) := by decide +kernel
theorem d1_7_8 : decode method_2_code 8 = .ok (.iload_n 0, 1) := by decide +kernel
theorem d1_7_9 : decode method_2_code 9 = .ok (.iconst 1, 1) := by decide +kernel
theorem d1_7_10 : decode method_2_code 10 = .ok (.if_icmp .ne 7, 3) := by decide +kernel
theorem d1_7_17 : decode method_2_code 17 = .ok (.iload_n 0, 1) := by decide +kernel
theorem d1_7_18 : decode method_2_code 18 = .ok (.iconst 2, 1) := by decide +kernel
theorem d1_7_19 : decode method_2_code 19 = .ok (.if_icmp .ne 7, 3) := by decide +kernel
theorem d1_7_26 : decode method_2_code 26 = .ok (.iload_n 0, 1) := by decide +kernel
theorem d1_7_27 : decode method_2_code 27 = .ok (.iconst 3, 1) := by decide +kernel
theorem d1_7_28 : decode method_2_code 28 = .ok (.if_icmp .ne 7, 3) := by decide +kernel
theorem d1_7_35 : decode method_2_code 35 = .ok (.iload_n 0, 1) := by decide +kernel
theorem d1_7_36 : decode method_2_code 36 = .ok (.iconst 4, 1) := by decide +kernel
theorem d1_7_37 : decode method_2_code 37 = .ok (.if_icmp .ne 7, 3) := by decide +kernel
theorem d1_7_44 : decode method_2_code 44 = .ok (.iload_n 0, 1) := by decide +kernel
theorem d1_7_45 : decode method_2_code 45 = .ok (.iconst 5, 1) := by decide +kernel
theorem d1_7_46 : decode method_2_code 46 = .ok (.if_icmp .ne 7, 3) := by decide +kernel
theorem d1_7_53 : decode method_2_code 53 = .ok (.iload_n 0, 1) := by decide +kernel
theorem d1_7_54 : decode method_2_code 54 = .ok (.bipush 6, 2) := by decide +kernel
theorem d1_7_56 : decode method_2_code 56 = .ok (.if_icmp .ne 7, 3) := by decide +kernel
theorem d1_7_63 : decode method_2_code 63 = .ok (.iload_n 0, 1) := by decide +kernel
theorem d1_7_64 : decode method_2_code 64 = .ok (.bipush 7, 2) := by decide +kernel
theorem d1_7_66 : decode method_2_code 66 = .ok (.if_icmp .ne 7, 3) := by decide +kernel
theorem d1_7_69 : decode method_2_code 69 = .ok (.getstatic 31, 3) := by decide +kernel
theorem d1_7_72 : decode method_2_code 72 = .ok (.areturn, 1) := by decide +kernel
theorem ef_1_7 (m : MethodId) (x0 : Int32) : entryFrame m #[(.int x0)] 1 = mkF m 0 #[.val (.int x0)] [] := by first | (simp [entryFrame, mkF, argsToLocals, Value.category]; done) | rfl
def Q1_7 (Z : State) (a1 : Addr) (h0 : Heap) (n0 : Nat) (v : Option Value) (h : Heap) (L : List Loc) : Prop := v = some (.ref a1) ∧ Fr n0 L ∧ h = h0
set_option maxRecDepth 65536 in
set_option maxHeartbeats 40000000 in
theorem rm1_7 (l : Launch) (Z : State) (a0 : Array Value) (hw : ∀ d ∈ tables_1, d.before a0 Z = true) (ws : List Jvm.Cond) (a1 : Addr) (h0 : Heap) (n0 : Nat) (Z0 : n0 ≤ h0.size) (S1 : Sta Z h0 "com/example/kaava/kaava/model/Facet" "MAX_EXCLUSIVE" "Lcom/example/kaava/kaava/model/Facet;" (.ref a1)) :
    MetFree l (⟨"com/example/kaava/kaava/model/FacetIsBoundPinLaw", "facetAt", "(I)Lcom/example/kaava/kaava/model/Facet;"⟩ : MethodName) (head1 (Jvm.Cond.code (⟨"com/example/kaava/kaava/model/FacetIsBoundPinLaw", "facetAt", "(I)Lcom/example/kaava/kaava/model/Facet;"⟩ : MethodName) method_2_code 1 (some (.object "com/example/kaava/kaava/model/Facet")) :: ws) ({ frames := 0, cells := 0, slots := 0, locals := 0 } : Room)) (fun a U => a = #[(.int (7 : Int32))] ∧ Z.Warmed39 U.vm ∧ U.heap = h0) (fun _ _ _ _ _ => True) (fun _ U o U' => ∃ v L, o = .returned v ∧ Q1_7 Z a1 h0 n0 v U'.heap L ∧ FrameEnd U o U' L ({ frames := 0, cells := 0, slots := 0, locals := 0 } : Room).cells ({ frames := 0, cells := 0, slots := 0, locals := 0 } : Room).slots) := by
  refine MetFree.of_bodySF (plainFor_of_name pn_com_example_kaava_kaava_model_FacetIsBoundPinLaw) hisR ?_
  intro p e s m args below meth c s₁ Bd hml0 hP hK
  obtain ⟨rfl, hZ, hh⟩ := hP
  have hx := Bd.exec
  have hby := Bd.bytes
  have hlk : meth.locks = false := BodyLoose.notSynchronized Bd
  have hml : c.maxLocals = 1 := hml0
  have hown : s.vm.findClass "com/example/kaava/kaava/model/FacetIsBoundPinLaw" = some m.cls := findClass_of_methodNamed Bd.named
  have hnm := (name_of_methodNamed Bd.named Bd.method).1
  have X0 : Stand p l e ({ frames := 0, cells := 0, slots := 0, locals := 0 } : Room) s m #[(.int (7 : Int32))] below meth c s₁ [] 0 0 := Stand.of_body Bd
  have e0 : s₁.heap = h0 := by rw [← hh, Bd.state]; rfl
  have N0 := Fr.nil n0
  show own_G p.tables e below s (Q1_7 Z a1 h0 n0) ({ frames := 0, cells := 0, slots := 0, locals := 0 } : Room).cells ({ frames := 0, cells := 0, slots := 0, locals := 0 } : Room).slots (s₁.setTop (entryFrame m #[(.int (7 : Int32))] 1))
  refine own_go (fun t k => castTop (ef_1_7 m (7 : Int32)) k) ?_
  show own_G p.tables e below s _ _ _ (s₁.setTop (mkF m 0 #[.val (.int (7 : Int32))] []))
  refine own_go (fun t k => XS.iloadN X0.here hx rfl (hb hby d1_7_0) rfl k) ?_
  show own_G p.tables e below s _ _ _ (s₁.setTop (mkF m 1 #[.val (.int (7 : Int32))] [(.int (7 : Int32))]))
  refine own_go (fun t k => XS.ifYes X0.here hx rfl (pc0 := 1) (pc' := 8) rfl (hb hby d1_7_1) rfl (by decide) (by decide) (by decide) k) ?_
  show own_G p.tables e below s _ _ _ (s₁.setTop (mkF m 8 #[.val (.int (7 : Int32))] []))
  refine own_go (fun t k => XS.iloadN X0.here hx rfl (hb hby d1_7_8) rfl k) ?_
  show own_G p.tables e below s _ _ _ (s₁.setTop (mkF m 9 #[.val (.int (7 : Int32))] [(.int (7 : Int32))]))
  refine own_go (fun t k => XS.iconst X0.here hx rfl (hb hby d1_7_9) k) ?_
  show own_G p.tables e below s _ _ _ (s₁.setTop (mkF m 10 #[.val (.int (7 : Int32))] [(.int (1 : Int32)), (.int (7 : Int32))]))
  refine own_go (fun t k => XS.icmpYes X0.here hx rfl (pc0 := 10) (pc' := 17) rfl (hb hby d1_7_10) rfl (by decide) (by decide) (by decide) k) ?_
  show own_G p.tables e below s _ _ _ (s₁.setTop (mkF m 17 #[.val (.int (7 : Int32))] []))
  refine own_go (fun t k => XS.iloadN X0.here hx rfl (hb hby d1_7_17) rfl k) ?_
  show own_G p.tables e below s _ _ _ (s₁.setTop (mkF m 18 #[.val (.int (7 : Int32))] [(.int (7 : Int32))]))
  refine own_go (fun t k => XS.iconst X0.here hx rfl (hb hby d1_7_18) k) ?_
  show own_G p.tables e below s _ _ _ (s₁.setTop (mkF m 19 #[.val (.int (7 : Int32))] [(.int (2 : Int32)), (.int (7 : Int32))]))
  refine own_go (fun t k => XS.icmpYes X0.here hx rfl (pc0 := 19) (pc' := 26) rfl (hb hby d1_7_19) rfl (by decide) (by decide) (by decide) k) ?_
  show own_G p.tables e below s _ _ _ (s₁.setTop (mkF m 26 #[.val (.int (7 : Int32))] []))
  refine own_go (fun t k => XS.iloadN X0.here hx rfl (hb hby d1_7_26) rfl k) ?_
  show own_G p.tables e below s _ _ _ (s₁.setTop (mkF m 27 #[.val (.int (7 : Int32))] [(.int (7 : Int32))]))
  refine own_go (fun t k => XS.iconst X0.here hx rfl (hb hby d1_7_27) k) ?_
  show own_G p.tables e below s _ _ _ (s₁.setTop (mkF m 28 #[.val (.int (7 : Int32))] [(.int (3 : Int32)), (.int (7 : Int32))]))
  refine own_go (fun t k => XS.icmpYes X0.here hx rfl (pc0 := 28) (pc' := 35) rfl (hb hby d1_7_28) rfl (by decide) (by decide) (by decide) k) ?_
  show own_G p.tables e below s _ _ _ (s₁.setTop (mkF m 35 #[.val (.int (7 : Int32))] []))
  refine own_go (fun t k => XS.iloadN X0.here hx rfl (hb hby d1_7_35) rfl k) ?_
  show own_G p.tables e below s _ _ _ (s₁.setTop (mkF m 36 #[.val (.int (7 : Int32))] [(.int (7 : Int32))]))
  refine own_go (fun t k => XS.iconst X0.here hx rfl (hb hby d1_7_36) k) ?_
  show own_G p.tables e below s _ _ _ (s₁.setTop (mkF m 37 #[.val (.int (7 : Int32))] [(.int (4 : Int32)), (.int (7 : Int32))]))
  refine own_go (fun t k => XS.icmpYes X0.here hx rfl (pc0 := 37) (pc' := 44) rfl (hb hby d1_7_37) rfl (by decide) (by decide) (by decide) k) ?_
  show own_G p.tables e below s _ _ _ (s₁.setTop (mkF m 44 #[.val (.int (7 : Int32))] []))
  refine own_go (fun t k => XS.iloadN X0.here hx rfl (hb hby d1_7_44) rfl k) ?_
  show own_G p.tables e below s _ _ _ (s₁.setTop (mkF m 45 #[.val (.int (7 : Int32))] [(.int (7 : Int32))]))
  refine own_go (fun t k => XS.iconst X0.here hx rfl (hb hby d1_7_45) k) ?_
  show own_G p.tables e below s _ _ _ (s₁.setTop (mkF m 46 #[.val (.int (7 : Int32))] [(.int (5 : Int32)), (.int (7 : Int32))]))
  refine own_go (fun t k => XS.icmpYes X0.here hx rfl (pc0 := 46) (pc' := 53) rfl (hb hby d1_7_46) rfl (by decide) (by decide) (by decide) k) ?_
  show own_G p.tables e below s _ _ _ (s₁.setTop (mkF m 53 #[.val (.int (7 : Int32))] []))
  refine own_go (fun t k => XS.iloadN X0.here hx rfl (hb hby d1_7_53) rfl k) ?_
  show own_G p.tables e below s _ _ _ (s₁.setTop (mkF m 54 #[.val (.int (7 : Int32))] [(.int (7 : Int32))]))
  refine own_go (fun t k => XS.bipush X0.here hx rfl (hb hby d1_7_54) k) ?_
  show own_G p.tables e below s _ _ _ (s₁.setTop (mkF m 56 #[.val (.int (7 : Int32))] [(.int (6 : Int32)), (.int (7 : Int32))]))
  refine own_go (fun t k => XS.icmpYes X0.here hx rfl (pc0 := 56) (pc' := 63) rfl (hb hby d1_7_56) rfl (by decide) (by decide) (by decide) k) ?_
  show own_G p.tables e below s _ _ _ (s₁.setTop (mkF m 63 #[.val (.int (7 : Int32))] []))
  refine own_go (fun t k => XS.iloadN X0.here hx rfl (hb hby d1_7_63) rfl k) ?_
  show own_G p.tables e below s _ _ _ (s₁.setTop (mkF m 64 #[.val (.int (7 : Int32))] [(.int (7 : Int32))]))
  refine own_go (fun t k => XS.bipush X0.here hx rfl (hb hby d1_7_64) k) ?_
  show own_G p.tables e below s _ _ _ (s₁.setTop (mkF m 66 #[.val (.int (7 : Int32))] [(.int (7 : Int32)), (.int (7 : Int32))]))
  refine own_go (fun t k => XS.icmpNo X0.here hx rfl (hb hby d1_7_66) rfl (by decide) k) ?_
  show own_G p.tables e below s _ _ _ (s₁.setTop (mkF m 69 #[.val (.int (7 : Int32))] []))
  obtain ⟨T8, X8, e8, st8⟩ := getS X0 hx hZ hown (host := "") (hw _ (List.mem_of_getElem? (i := 26) rfl)) Via.refl e0 S1 (g := (mkF m 69 #[.val (.int (7 : Int32))] [])) rfl (hb hby d1_7_69)
  refine own_go st8 ?_
  show own_G p.tables e below s _ _ _ (T8.setTop (mkF m 72 #[.val (.int (7 : Int32))] [(.ref a1)]))
  exact own_retA X8 hx hlk Bd.returns rfl rfl (hb hby d1_7_72) (by rw [e8]; exact ⟨rfl, N0, rfl⟩) (by decide) (by decide)
theorem d1_8_0 : decode method_2_code 0 = .ok (.iload_n 0, 1) := by decide +kernel
theorem d1_8_1 : decode method_2_code 1 = .ok (.ifCond .ne 7, 3) := by decide +kernel
theorem d1_8_8 : decode method_2_code 8 = .ok (.iload_n 0, 1) := by decide +kernel
theorem d1_8_9 : decode method_2_code 9 = .ok (.iconst 1, 1) := by decide +kernel
theorem d1_8_10 : decode method_2_code 10 = .ok (.if_icmp .ne 7, 3) := by decide +kernel
theorem d1_8_17 : decode method_2_code 17 = .ok (.iload_n 0, 1) := by decide +kernel
theorem d1_8_18 : decode method_2_code 18 = .ok (.iconst 2, 1) := by decide +kernel
theorem d1_8_19 : decode method_2_code 19 = .ok (.if_icmp .ne 7, 3) := by decide +kernel
theorem d1_8_26 : decode method_2_code 26 = .ok (.iload_n 0, 1) := by decide +kernel
theorem d1_8_27 : decode method_2_code 27 = .ok (.iconst 3, 1) := by decide +kernel
theorem d1_8_28 : decode method_2_code 28 = .ok (.if_icmp .ne 7, 3) := by decide +kernel
theorem d1_8_35 : decode method_2_code 35 = .ok (.iload_n 0, 1) := by decide +kernel
theorem d1_8_36 : decode method_2_code 36 = .ok (.iconst 4, 1) := by decide +kernel
theorem d1_8_37 : decode method_2_code 37 = .ok (.if_icmp .ne 7, 3) := by decide +kernel
theorem d1_8_44 : decode method_2_code 44 = .ok (.iload_n 0, 1) := by decide +kernel
theorem d1_8_45 : decode method_2_code 45 = .ok (.iconst 5, 1) := by decide +kernel
theorem d1_8_46 : decode method_2_code 46 = .ok (.if_icmp .ne 7, 3) := by decide +kernel
theorem d1_8_53 : decode method_2_code 53 = .ok (.iload_n 0, 1) := by decide +kernel
theorem d1_8_54 : decode method_2_code 54 = .ok (.bipush 6, 2) := by decide +kernel
theorem d1_8_56 : decode method_2_code 56 = .ok (.if_icmp .ne 7, 3) := by decide +kernel
theorem d1_8_63 : decode method_2_code 63 = .ok (.iload_n 0, 1) := by decide +kernel
theorem d1_8_64 : decode method_2_code 64 = .ok (.bipush 7, 2) := by decide +kernel
theorem d1_8_66 : decode method_2_code 66 = .ok (.if_icmp .ne 7, 3) := by decide +kernel
theorem d1_8_73 : decode method_2_code 73 = .ok (.iload_n 0, 1) := by decide +kernel
theorem d1_8_74 : decode method_2_code 74 = .ok (.bipush 8, 2) := by decide +kernel
theorem d1_8_76 : decode method_2_code 76 = .ok (.if_icmp .ne 7, 3) := by decide +kernel
theorem d1_8_79 : decode method_2_code 79 = .ok (.getstatic 34, 3) := by decide +kernel
theorem d1_8_82 : decode method_2_code 82 = .ok (.areturn, 1) := by decide +kernel
theorem ef_1_8 (m : MethodId) (x0 : Int32) : entryFrame m #[(.int x0)] 1 = mkF m 0 #[.val (.int x0)] [] := by first | (simp [entryFrame, mkF, argsToLocals, Value.category]; done) | rfl
def Q1_8 (Z : State) (a1 : Addr) (h0 : Heap) (n0 : Nat) (v : Option Value) (h : Heap) (L : List Loc) : Prop := v = some (.ref a1) ∧ Fr n0 L ∧ h = h0
set_option maxRecDepth 65536 in
set_option maxHeartbeats 40000000 in
theorem rm1_8 (l : Launch) (Z : State) (a0 : Array Value) (hw : ∀ d ∈ tables_1, d.before a0 Z = true) (ws : List Jvm.Cond) (a1 : Addr) (h0 : Heap) (n0 : Nat) (Z0 : n0 ≤ h0.size) (S1 : Sta Z h0 "com/example/kaava/kaava/model/Facet" "MIN_INCLUSIVE" "Lcom/example/kaava/kaava/model/Facet;" (.ref a1)) :
    MetFree l (⟨"com/example/kaava/kaava/model/FacetIsBoundPinLaw", "facetAt", "(I)Lcom/example/kaava/kaava/model/Facet;"⟩ : MethodName) (head1 (Jvm.Cond.code (⟨"com/example/kaava/kaava/model/FacetIsBoundPinLaw", "facetAt", "(I)Lcom/example/kaava/kaava/model/Facet;"⟩ : MethodName) method_2_code 1 (some (.object "com/example/kaava/kaava/model/Facet")) :: ws) ({ frames := 0, cells := 0, slots := 0, locals := 0 } : Room)) (fun a U => a = #[(.int (8 : Int32))] ∧ Z.Warmed39 U.vm ∧ U.heap = h0) (fun _ _ _ _ _ => True) (fun _ U o U' => ∃ v L, o = .returned v ∧ Q1_8 Z a1 h0 n0 v U'.heap L ∧ FrameEnd U o U' L ({ frames := 0, cells := 0, slots := 0, locals := 0 } : Room).cells ({ frames := 0, cells := 0, slots := 0, locals := 0 } : Room).slots) := by
  refine MetFree.of_bodySF (plainFor_of_name pn_com_example_kaava_kaava_model_FacetIsBoundPinLaw) hisR ?_
  intro p e s m args below meth c s₁ Bd hml0 hP hK
  obtain ⟨rfl, hZ, hh⟩ := hP
  have hx := Bd.exec
  have hby := Bd.bytes
  have hlk : meth.locks = false := BodyLoose.notSynchronized Bd
  have hml : c.maxLocals = 1 := hml0
  have hown : s.vm.findClass "com/example/kaava/kaava/model/FacetIsBoundPinLaw" = some m.cls := findClass_of_methodNamed Bd.named
  have hnm := (name_of_methodNamed Bd.named Bd.method).1
  have X0 : Stand p l e ({ frames := 0, cells := 0, slots := 0, locals := 0 } : Room) s m #[(.int (8 : Int32))] below meth c s₁ [] 0 0 := Stand.of_body Bd
  have e0 : s₁.heap = h0 := by rw [← hh, Bd.state]; rfl
  have N0 := Fr.nil n0
  show own_G p.tables e below s (Q1_8 Z a1 h0 n0) ({ frames := 0, cells := 0, slots := 0, locals := 0 } : Room).cells ({ frames := 0, cells := 0, slots := 0, locals := 0 } : Room).slots (s₁.setTop (entryFrame m #[(.int (8 : Int32))] 1))
  refine own_go (fun t k => castTop (ef_1_8 m (8 : Int32)) k) ?_
  show own_G p.tables e below s _ _ _ (s₁.setTop (mkF m 0 #[.val (.int (8 : Int32))] []))
  refine own_go (fun t k => XS.iloadN X0.here hx rfl (hb hby d1_8_0) rfl k) ?_
  show own_G p.tables e below s _ _ _ (s₁.setTop (mkF m 1 #[.val (.int (8 : Int32))] [(.int (8 : Int32))]))
  refine own_go (fun t k => XS.ifYes X0.here hx rfl (pc0 := 1) (pc' := 8) rfl (hb hby d1_8_1) rfl (by decide) (by decide) (by decide) k) ?_
  show own_G p.tables e below s _ _ _ (s₁.setTop (mkF m 8 #[.val (.int (8 : Int32))] []))
  refine own_go (fun t k => XS.iloadN X0.here hx rfl (hb hby d1_8_8) rfl k) ?_
  show own_G p.tables e below s _ _ _ (s₁.setTop (mkF m 9 #[.val (.int (8 : Int32))] [(.int (8 : Int32))]))
  refine own_go (fun t k => XS.iconst X0.here hx rfl (hb hby d1_8_9) k) ?_
  show own_G p.tables e below s _ _ _ (s₁.setTop (mkF m 10 #[.val (.int (8 : Int32))] [(.int (1 : Int32)), (.int (8 : Int32))]))
  refine own_go (fun t k => XS.icmpYes X0.here hx rfl (pc0 := 10) (pc' := 17) rfl (hb hby d1_8_10) rfl (by decide) (by decide) (by decide) k) ?_
  show own_G p.tables e below s _ _ _ (s₁.setTop (mkF m 17 #[.val (.int (8 : Int32))] []))
  refine own_go (fun t k => XS.iloadN X0.here hx rfl (hb hby d1_8_17) rfl k) ?_
  show own_G p.tables e below s _ _ _ (s₁.setTop (mkF m 18 #[.val (.int (8 : Int32))] [(.int (8 : Int32))]))
  refine own_go (fun t k => XS.iconst X0.here hx rfl (hb hby d1_8_18) k) ?_
  show own_G p.tables e below s _ _ _ (s₁.setTop (mkF m 19 #[.val (.int (8 : Int32))] [(.int (2 : Int32)), (.int (8 : Int32))]))
  refine own_go (fun t k => XS.icmpYes X0.here hx rfl (pc0 := 19) (pc' := 26) rfl (hb hby d1_8_19) rfl (by decide) (by decide) (by decide) k) ?_
  show own_G p.tables e below s _ _ _ (s₁.setTop (mkF m 26 #[.val (.int (8 : Int32))] []))
  refine own_go (fun t k => XS.iloadN X0.here hx rfl (hb hby d1_8_26) rfl k) ?_
  show own_G p.tables e below s _ _ _ (s₁.setTop (mkF m 27 #[.val (.int (8 : Int32))] [(.int (8 : Int32))]))
  refine own_go (fun t k => XS.iconst X0.here hx rfl (hb hby d1_8_27) k) ?_
  show own_G p.tables e below s _ _ _ (s₁.setTop (mkF m 28 #[.val (.int (8 : Int32))] [(.int (3 : Int32)), (.int (8 : Int32))]))
  refine own_go (fun t k => XS.icmpYes X0.here hx rfl (pc0 := 28) (pc' := 35) rfl (hb hby d1_8_28) rfl (by decide) (by decide) (by decide) k) ?_
  show own_G p.tables e below s _ _ _ (s₁.setTop (mkF m 35 #[.val (.int (8 : Int32))] []))
  refine own_go (fun t k => XS.iloadN X0.here hx rfl (hb hby d1_8_35) rfl k) ?_
  show own_G p.tables e below s _ _ _ (s₁.setTop (mkF m 36 #[.val (.int (8 : Int32))] [(.int (8 : Int32))]))
  refine own_go (fun t k => XS.iconst X0.here hx rfl (hb hby d1_8_36) k) ?_
  show own_G p.tables e below s _ _ _ (s₁.setTop (mkF m 37 #[.val (.int (8 : Int32))] [(.int (4 : Int32)), (.int (8 : Int32))]))
  refine own_go (fun t k => XS.icmpYes X0.here hx rfl (pc0 := 37) (pc' := 44) rfl (hb hby d1_8_37) rfl (by decide) (by decide) (by decide) k) ?_
  show own_G p.tables e below s _ _ _ (s₁.setTop (mkF m 44 #[.val (.int (8 : Int32))] []))
  refine own_go (fun t k => XS.iloadN X0.here hx rfl (hb hby d1_8_44) rfl k) ?_
  show own_G p.tables e below s _ _ _ (s₁.setTop (mkF m 45 #[.val (.int (8 : Int32))] [(.int (8 : Int32))]))
  refine own_go (fun t k => XS.iconst X0.here hx rfl (hb hby d1_8_45) k) ?_
  show own_G p.tables e below s _ _ _ (s₁.setTop (mkF m 46 #[.val (.int (8 : Int32))] [(.int (5 : Int32)), (.int (8 : Int32))]))
  refine own_go (fun t k => XS.icmpYes X0.here hx rfl (pc0 := 46) (pc' := 53) rfl (hb hby d1_8_46) rfl (by decide) (by decide) (by decide) k) ?_
  show own_G p.tables e below s _ _ _ (s₁.setTop (mkF m 53 #[.val (.int (8 : Int32))] []))
  refine own_go (fun t k => XS.iloadN X0.here hx rfl (hb hby d1_8_53) rfl k) ?_
  show own_G p.tables e below s _ _ _ (s₁.setTop (mkF m 54 #[.val (.int (8 : Int32))] [(.int (8 : Int32))]))
  refine own_go (fun t k => XS.bipush X0.here hx rfl (hb hby d1_8_54) k) ?_
  show own_G p.tables e below s _ _ _ (s₁.setTop (mkF m 56 #[.val (.int (8 : Int32))] [(.int (6 : Int32)), (.int (8 : Int32))]))
  refine own_go (fun t k => XS.icmpYes X0.here hx rfl (pc0 := 56) (pc' := 63) rfl (hb hby d1_8_56) rfl (by decide) (by decide) (by decide) k) ?_
  show own_G p.tables e below s _ _ _ (s₁.setTop (mkF m 63 #[.val (.int (8 : Int32))] []))
  refine own_go (fun t k => XS.iloadN X0.here hx rfl (hb hby d1_8_63) rfl k) ?_
  show own_G p.tables e below s _ _ _ (s₁.setTop (mkF m 64 #[.val (.int (8 : Int32))] [(.int (8 : Int32))]))
  refine own_go (fun t k => XS.bipush X0.here hx rfl (hb hby d1_8_64) k) ?_
  show own_G p.tables e below s _ _ _ (s₁.setTop (mkF m 66 #[.val (.int (8 : Int32))] [(.int (7 : Int32)), (.int (8 : Int32))]))
  refine own_go (fun t k => XS.icmpYes X0.here hx rfl (pc0 := 66) (pc' := 73) rfl (hb hby d1_8_66) rfl (by decide) (by decide) (by decide) k) ?_
  show own_G p.tables e below s _ _ _ (s₁.setTop (mkF m 73 #[.val (.int (8 : Int32))] []))
  refine own_go (fun t k => XS.iloadN X0.here hx rfl (hb hby d1_8_73) rfl k) ?_
  show own_G p.tables e below s _ _ _ (s₁.setTop (mkF m 74 #[.val (.int (8 : Int32))] [(.int (8 : Int32))]))
  refine own_go (fun t k => XS.bipush X0.here hx rfl (hb hby d1_8_74) k) ?_
  show own_G p.tables e below s _ _ _ (s₁.setTop (mkF m 76 #[.val (.int (8 : Int32))] [(.int (8 : Int32)), (.int (8 : Int32))]))
  refine own_go (fun t k => XS.icmpNo X0.here hx rfl (hb hby d1_8_76) rfl (by decide) k) ?_
  show own_G p.tables e below s _ _ _ (s₁.setTop (mkF m 79 #[.val (.int (8 : Int32))] []))
  obtain ⟨T9, X9, e9, st9⟩ := getS X0 hx hZ hown (host := "") (hw _ (List.mem_of_getElem? (i := 34) rfl)) Via.refl e0 S1 (g := (mkF m 79 #[.val (.int (8 : Int32))] [])) rfl (hb hby d1_8_79)
  refine own_go st9 ?_
  show own_G p.tables e below s _ _ _ (T9.setTop (mkF m 82 #[.val (.int (8 : Int32))] [(.ref a1)]))
  exact own_retA X9 hx hlk Bd.returns rfl rfl (hb hby d1_8_82) (by rw [e9]; exact ⟨rfl, N0, rfl⟩) (by decide) (by decide)
theorem d1_9_0 : decode method_2_code 0 = .ok (.iload_n 0, 1) := by decide +kernel
theorem d1_9_1 : decode method_2_code 1 = .ok (.ifCond .ne 7, 3) := by decide +kernel
theorem d1_9_8 : decode method_2_code 8 = .ok (.iload_n 0, 1) := by decide +kernel
theorem d1_9_9 : decode method_2_code 9 = .ok (.iconst 1, 1) := by decide +kernel
theorem d1_9_10 : decode method_2_code 10 = .ok (.if_icmp .ne 7, 3) := by decide +kernel
theorem d1_9_17 : decode method_2_code 17 = .ok (.iload_n 0, 1) := by decide +kernel
theorem d1_9_18 : decode method_2_code 18 = .ok (.iconst 2, 1) := by decide +kernel
theorem d1_9_19 : decode method_2_code 19 = .ok (.if_icmp .ne 7, 3) := by decide +kernel
theorem d1_9_26 : decode method_2_code 26 = .ok (.iload_n 0, 1) := by decide +kernel
theorem d1_9_27 : decode method_2_code 27 = .ok (.iconst 3, 1) := by decide +kernel
theorem d1_9_28 : decode method_2_code 28 = .ok (.if_icmp .ne 7, 3) := by decide +kernel
theorem d1_9_35 : decode method_2_code 35 = .ok (.iload_n 0, 1) := by decide +kernel
theorem d1_9_36 : decode method_2_code 36 = .ok (.iconst 4, 1) := by decide +kernel
theorem d1_9_37 : decode method_2_code 37 = .ok (.if_icmp .ne 7, 3) := by decide +kernel
theorem d1_9_44 : decode method_2_code 44 = .ok (.iload_n 0, 1) := by decide +kernel
theorem d1_9_45 : decode method_2_code 45 = .ok (.iconst 5, 1) := by decide +kernel
theorem d1_9_46 : decode method_2_code 46 = .ok (.if_icmp .ne 7, 3) := by decide +kernel
theorem d1_9_53 : decode method_2_code 53 = .ok (.iload_n 0, 1) := by decide +kernel
theorem d1_9_54 : decode method_2_code 54 = .ok (.bipush 6, 2) := by decide +kernel
theorem d1_9_56 : decode method_2_code 56 = .ok (.if_icmp .ne 7, 3) := by decide +kernel
theorem d1_9_63 : decode method_2_code 63 = .ok (.iload_n 0, 1) := by decide +kernel
theorem d1_9_64 : decode method_2_code 64 = .ok (.bipush 7, 2) := by decide +kernel
theorem d1_9_66 : decode method_2_code 66 = .ok (.if_icmp .ne 7, 3) := by decide +kernel
theorem d1_9_73 : decode method_2_code 73 = .ok (.iload_n 0, 1) := by decide +kernel
theorem d1_9_74 : decode method_2_code 74 = .ok (.bipush 8, 2) := by decide +kernel
theorem d1_9_76 : decode method_2_code 76 = .ok (.if_icmp .ne 7, 3) := by decide +kernel
theorem d1_9_83 : decode method_2_code 83 = .ok (.iload_n 0, 1) := by decide +kernel
theorem d1_9_84 : decode method_2_code 84 = .ok (.bipush 9, 2) := by decide +kernel
theorem d1_9_86 : decode method_2_code 86 = .ok (.if_icmp .ne 7, 3) := by decide +kernel
theorem d1_9_89 : decode method_2_code 89 = .ok (.getstatic 37, 3) := by decide +kernel
theorem d1_9_92 : decode method_2_code 92 = .ok (.areturn, 1) := by decide +kernel
theorem ef_1_9 (m : MethodId) (x0 : Int32) : entryFrame m #[(.int x0)] 1 = mkF m 0 #[.val (.int x0)] [] := by first | (simp [entryFrame, mkF, argsToLocals, Value.category]; done) | rfl
def Q1_9 (Z : State) (a1 : Addr) (h0 : Heap) (n0 : Nat) (v : Option Value) (h : Heap) (L : List Loc) : Prop := v = some (.ref a1) ∧ Fr n0 L ∧ h = h0
set_option maxRecDepth 65536 in
set_option maxHeartbeats 40000000 in
theorem rm1_9 (l : Launch) (Z : State) (a0 : Array Value) (hw : ∀ d ∈ tables_1, d.before a0 Z = true) (ws : List Jvm.Cond) (a1 : Addr) (h0 : Heap) (n0 : Nat) (Z0 : n0 ≤ h0.size) (S1 : Sta Z h0 "com/example/kaava/kaava/model/Facet" "MIN_EXCLUSIVE" "Lcom/example/kaava/kaava/model/Facet;" (.ref a1)) :
    MetFree l (⟨"com/example/kaava/kaava/model/FacetIsBoundPinLaw", "facetAt", "(I)Lcom/example/kaava/kaava/model/Facet;"⟩ : MethodName) (head1 (Jvm.Cond.code (⟨"com/example/kaava/kaava/model/FacetIsBoundPinLaw", "facetAt", "(I)Lcom/example/kaava/kaava/model/Facet;"⟩ : MethodName) method_2_code 1 (some (.object "com/example/kaava/kaava/model/Facet")) :: ws) ({ frames := 0, cells := 0, slots := 0, locals := 0 } : Room)) (fun a U => a = #[(.int (9 : Int32))] ∧ Z.Warmed39 U.vm ∧ U.heap = h0) (fun _ _ _ _ _ => True) (fun _ U o U' => ∃ v L, o = .returned v ∧ Q1_9 Z a1 h0 n0 v U'.heap L ∧ FrameEnd U o U' L ({ frames := 0, cells := 0, slots := 0, locals := 0 } : Room).cells ({ frames := 0, cells := 0, slots := 0, locals := 0 } : Room).slots) := by
  refine MetFree.of_bodySF (plainFor_of_name pn_com_example_kaava_kaava_model_FacetIsBoundPinLaw) hisR ?_
  intro p e s m args below meth c s₁ Bd hml0 hP hK
  obtain ⟨rfl, hZ, hh⟩ := hP
  have hx := Bd.exec
  have hby := Bd.bytes
  have hlk : meth.locks = false := BodyLoose.notSynchronized Bd
  have hml : c.maxLocals = 1 := hml0
  have hown : s.vm.findClass "com/example/kaava/kaava/model/FacetIsBoundPinLaw" = some m.cls := findClass_of_methodNamed Bd.named
  have hnm := (name_of_methodNamed Bd.named Bd.method).1
  have X0 : Stand p l e ({ frames := 0, cells := 0, slots := 0, locals := 0 } : Room) s m #[(.int (9 : Int32))] below meth c s₁ [] 0 0 := Stand.of_body Bd
  have e0 : s₁.heap = h0 := by rw [← hh, Bd.state]; rfl
  have N0 := Fr.nil n0
  show own_G p.tables e below s (Q1_9 Z a1 h0 n0) ({ frames := 0, cells := 0, slots := 0, locals := 0 } : Room).cells ({ frames := 0, cells := 0, slots := 0, locals := 0 } : Room).slots (s₁.setTop (entryFrame m #[(.int (9 : Int32))] 1))
  refine own_go (fun t k => castTop (ef_1_9 m (9 : Int32)) k) ?_
  show own_G p.tables e below s _ _ _ (s₁.setTop (mkF m 0 #[.val (.int (9 : Int32))] []))
  refine own_go (fun t k => XS.iloadN X0.here hx rfl (hb hby d1_9_0) rfl k) ?_
  show own_G p.tables e below s _ _ _ (s₁.setTop (mkF m 1 #[.val (.int (9 : Int32))] [(.int (9 : Int32))]))
  refine own_go (fun t k => XS.ifYes X0.here hx rfl (pc0 := 1) (pc' := 8) rfl (hb hby d1_9_1) rfl (by decide) (by decide) (by decide) k) ?_
  show own_G p.tables e below s _ _ _ (s₁.setTop (mkF m 8 #[.val (.int (9 : Int32))] []))
  refine own_go (fun t k => XS.iloadN X0.here hx rfl (hb hby d1_9_8) rfl k) ?_
  show own_G p.tables e below s _ _ _ (s₁.setTop (mkF m 9 #[.val (.int (9 : Int32))] [(.int (9 : Int32))]))
  refine own_go (fun t k => XS.iconst X0.here hx rfl (hb hby d1_9_9) k) ?_
  show own_G p.tables e below s _ _ _ (s₁.setTop (mkF m 10 #[.val (.int (9 : Int32))] [(.int (1 : Int32)), (.int (9 : Int32))]))
  refine own_go (fun t k => XS.icmpYes X0.here hx rfl (pc0 := 10) (pc' := 17) rfl (hb hby d1_9_10) rfl (by decide) (by decide) (by decide) k) ?_
  show own_G p.tables e below s _ _ _ (s₁.setTop (mkF m 17 #[.val (.int (9 : Int32))] []))
  refine own_go (fun t k => XS.iloadN X0.here hx rfl (hb hby d1_9_17) rfl k) ?_
  show own_G p.tables e below s _ _ _ (s₁.setTop (mkF m 18 #[.val (.int (9 : Int32))] [(.int (9 : Int32))]))
  refine own_go (fun t k => XS.iconst X0.here hx rfl (hb hby d1_9_18) k) ?_
  show own_G p.tables e below s _ _ _ (s₁.setTop (mkF m 19 #[.val (.int (9 : Int32))] [(.int (2 : Int32)), (.int (9 : Int32))]))
  refine own_go (fun t k => XS.icmpYes X0.here hx rfl (pc0 := 19) (pc' := 26) rfl (hb hby d1_9_19) rfl (by decide) (by decide) (by decide) k) ?_
  show own_G p.tables e below s _ _ _ (s₁.setTop (mkF m 26 #[.val (.int (9 : Int32))] []))
  refine own_go (fun t k => XS.iloadN X0.here hx rfl (hb hby d1_9_26) rfl k) ?_
  show own_G p.tables e below s _ _ _ (s₁.setTop (mkF m 27 #[.val (.int (9 : Int32))] [(.int (9 : Int32))]))
  refine own_go (fun t k => XS.iconst X0.here hx rfl (hb hby d1_9_27) k) ?_
  show own_G p.tables e below s _ _ _ (s₁.setTop (mkF m 28 #[.val (.int (9 : Int32))] [(.int (3 : Int32)), (.int (9 : Int32))]))
  refine own_go (fun t k => XS.icmpYes X0.here hx rfl (pc0 := 28) (pc' := 35) rfl (hb hby d1_9_28) rfl (by decide) (by decide) (by decide) k) ?_
  show own_G p.tables e below s _ _ _ (s₁.setTop (mkF m 35 #[.val (.int (9 : Int32))] []))
  refine own_go (fun t k => XS.iloadN X0.here hx rfl (hb hby d1_9_35) rfl k) ?_
  show own_G p.tables e below s _ _ _ (s₁.setTop (mkF m 36 #[.val (.int (9 : Int32))] [(.int (9 : Int32))]))
  refine own_go (fun t k => XS.iconst X0.here hx rfl (hb hby d1_9_36) k) ?_
  show own_G p.tables e below s _ _ _ (s₁.setTop (mkF m 37 #[.val (.int (9 : Int32))] [(.int (4 : Int32)), (.int (9 : Int32))]))
  refine own_go (fun t k => XS.icmpYes X0.here hx rfl (pc0 := 37) (pc' := 44) rfl (hb hby d1_9_37) rfl (by decide) (by decide) (by decide) k) ?_
  show own_G p.tables e below s _ _ _ (s₁.setTop (mkF m 44 #[.val (.int (9 : Int32))] []))
  refine own_go (fun t k => XS.iloadN X0.here hx rfl (hb hby d1_9_44) rfl k) ?_
  show own_G p.tables e below s _ _ _ (s₁.setTop (mkF m 45 #[.val (.int (9 : Int32))] [(.int (9 : Int32))]))
  refine own_go (fun t k => XS.iconst X0.here hx rfl (hb hby d1_9_45) k) ?_
  show own_G p.tables e below s _ _ _ (s₁.setTop (mkF m 46 #[.val (.int (9 : Int32))] [(.int (5 : Int32)), (.int (9 : Int32))]))
  refine own_go (fun t k => XS.icmpYes X0.here hx rfl (pc0 := 46) (pc' := 53) rfl (hb hby d1_9_46) rfl (by decide) (by decide) (by decide) k) ?_
  show own_G p.tables e below s _ _ _ (s₁.setTop (mkF m 53 #[.val (.int (9 : Int32))] []))
  refine own_go (fun t k => XS.iloadN X0.here hx rfl (hb hby d1_9_53) rfl k) ?_
  show own_G p.tables e below s _ _ _ (s₁.setTop (mkF m 54 #[.val (.int (9 : Int32))] [(.int (9 : Int32))]))
  refine own_go (fun t k => XS.bipush X0.here hx rfl (hb hby d1_9_54) k) ?_
  show own_G p.tables e below s _ _ _ (s₁.setTop (mkF m 56 #[.val (.int (9 : Int32))] [(.int (6 : Int32)), (.int (9 : Int32))]))
  refine own_go (fun t k => XS.icmpYes X0.here hx rfl (pc0 := 56) (pc' := 63) rfl (hb hby d1_9_56) rfl (by decide) (by decide) (by decide) k) ?_
  show own_G p.tables e below s _ _ _ (s₁.setTop (mkF m 63 #[.val (.int (9 : Int32))] []))
  refine own_go (fun t k => XS.iloadN X0.here hx rfl (hb hby d1_9_63) rfl k) ?_
  show own_G p.tables e below s _ _ _ (s₁.setTop (mkF m 64 #[.val (.int (9 : Int32))] [(.int (9 : Int32))]))
  refine own_go (fun t k => XS.bipush X0.here hx rfl (hb hby d1_9_64) k) ?_
  show own_G p.tables e below s _ _ _ (s₁.setTop (mkF m 66 #[.val (.int (9 : Int32))] [(.int (7 : Int32)), (.int (9 : Int32))]))
  refine own_go (fun t k => XS.icmpYes X0.here hx rfl (pc0 := 66) (pc' := 73) rfl (hb hby d1_9_66) rfl (by decide) (by decide) (by decide) k) ?_
  show own_G p.tables e below s _ _ _ (s₁.setTop (mkF m 73 #[.val (.int (9 : Int32))] []))
  refine own_go (fun t k => XS.iloadN X0.here hx rfl (hb hby d1_9_73) rfl k) ?_
  show own_G p.tables e below s _ _ _ (s₁.setTop (mkF m 74 #[.val (.int (9 : Int32))] [(.int (9 : Int32))]))
  refine own_go (fun t k => XS.bipush X0.here hx rfl (hb hby d1_9_74) k) ?_
  show own_G p.tables e below s _ _ _ (s₁.setTop (mkF m 76 #[.val (.int (9 : Int32))] [(.int (8 : Int32)), (.int (9 : Int32))]))
  refine own_go (fun t k => XS.icmpYes X0.here hx rfl (pc0 := 76) (pc' := 83) rfl (hb hby d1_9_76) rfl (by decide) (by decide) (by decide) k) ?_
  show own_G p.tables e below s _ _ _ (s₁.setTop (mkF m 83 #[.val (.int (9 : Int32))] []))
  refine own_go (fun t k => XS.iloadN X0.here hx rfl (hb hby d1_9_83) rfl k) ?_
  show own_G p.tables e below s _ _ _ (s₁.setTop (mkF m 84 #[.val (.int (9 : Int32))] [(.int (9 : Int32))]))
  refine own_go (fun t k => XS.bipush X0.here hx rfl (hb hby d1_9_84) k) ?_
  show own_G p.tables e below s _ _ _ (s₁.setTop (mkF m 86 #[.val (.int (9 : Int32))] [(.int (9 : Int32)), (.int (9 : Int32))]))
  refine own_go (fun t k => XS.icmpNo X0.here hx rfl (hb hby d1_9_86) rfl (by decide) k) ?_
  show own_G p.tables e below s _ _ _ (s₁.setTop (mkF m 89 #[.val (.int (9 : Int32))] []))
  obtain ⟨T10, X10, e10, st10⟩ := getS X0 hx hZ hown (host := "") (hw _ (List.mem_of_getElem? (i := 27) rfl)) Via.refl e0 S1 (g := (mkF m 89 #[.val (.int (9 : Int32))] [])) rfl (hb hby d1_9_89)
  refine own_go st10 ?_
  show own_G p.tables e below s _ _ _ (T10.setTop (mkF m 92 #[.val (.int (9 : Int32))] [(.ref a1)]))
  exact own_retA X10 hx hlk Bd.returns rfl rfl (hb hby d1_9_92) (by rw [e10]; exact ⟨rfl, N0, rfl⟩) (by decide) (by decide)
theorem d1_10_0 : decode method_2_code 0 = .ok (.iload_n 0, 1) := by decide +kernel
theorem d1_10_1 : decode method_2_code 1 = .ok (.ifCond .ne 7, 3) := by decide +kernel
theorem d1_10_8 : decode method_2_code 8 = .ok (.iload_n 0, 1) := by decide +kernel
theorem d1_10_9 : decode method_2_code 9 = .ok (.iconst 1, 1) := by decide +kernel
theorem d1_10_10 : decode method_2_code 10 = .ok (.if_icmp .ne 7, 3) := by decide +kernel
theorem d1_10_17 : decode method_2_code 17 = .ok (.iload_n 0, 1) := by decide +kernel
theorem d1_10_18 : decode method_2_code 18 = .ok (.iconst 2, 1) := by decide +kernel
theorem d1_10_19 : decode method_2_code 19 = .ok (.if_icmp .ne 7, 3) := by decide +kernel
theorem d1_10_26 : decode method_2_code 26 = .ok (.iload_n 0, 1) := by decide +kernel
theorem d1_10_27 : decode method_2_code 27 = .ok (.iconst 3, 1) := by decide +kernel
theorem d1_10_28 : decode method_2_code 28 = .ok (.if_icmp .ne 7, 3) := by decide +kernel
theorem d1_10_35 : decode method_2_code 35 = .ok (.iload_n 0, 1) := by decide +kernel
theorem d1_10_36 : decode method_2_code 36 = .ok (.iconst 4, 1) := by decide +kernel
theorem d1_10_37 : decode method_2_code 37 = .ok (.if_icmp .ne 7, 3) := by decide +kernel
theorem d1_10_44 : decode method_2_code 44 = .ok (.iload_n 0, 1) := by decide +kernel
theorem d1_10_45 : decode method_2_code 45 = .ok (.iconst 5, 1) := by decide +kernel
theorem d1_10_46 : decode method_2_code 46 = .ok (.if_icmp .ne 7, 3) := by decide +kernel
theorem d1_10_53 : decode method_2_code 53 = .ok (.iload_n 0, 1) := by decide +kernel
theorem d1_10_54 : decode method_2_code 54 = .ok (.bipush 6, 2) := by decide +kernel
theorem d1_10_56 : decode method_2_code 56 = .ok (.if_icmp .ne 7, 3) := by decide +kernel
theorem d1_10_63 : decode method_2_code 63 = .ok (.iload_n 0, 1) := by decide +kernel
theorem d1_10_64 : decode method_2_code 64 = .ok (.bipush 7, 2) := by decide +kernel
theorem d1_10_66 : decode method_2_code 66 = .ok (.if_icmp .ne 7, 3) := by decide +kernel
theorem d1_10_73 : decode method_2_code 73 = .ok (.iload_n 0, 1) := by decide +kernel
theorem d1_10_74 : decode method_2_code 74 = .ok (.bipush 8, 2) := by decide +kernel
theorem d1_10_76 : decode method_2_code 76 = .ok (.if_icmp .ne 7, 3) := by decide +kernel
theorem d1_10_83 : decode method_2_code 83 = .ok (.iload_n 0, 1) := by decide +kernel
theorem d1_10_84 : decode method_2_code 84 = .ok (.bipush 9, 2) := by decide +kernel
theorem d1_10_86 : decode method_2_code 86 = .ok (.if_icmp .ne 7, 3) := by decide +kernel
theorem d1_10_93 : decode method_2_code 93 = .ok (.iload_n 0, 1) := by decide +kernel
theorem d1_10_94 : decode method_2_code 94 = .ok (.bipush 10, 2) := by decide +kernel
theorem d1_10_96 : decode method_2_code 96 = .ok (.if_icmp .ne 7, 3) := by decide +kernel
theorem d1_10_99 : decode method_2_code 99 = .ok (.getstatic 40, 3) := by decide +kernel
theorem d1_10_102 : decode method_2_code 102 = .ok (.areturn, 1) := by decide +kernel
theorem ef_1_10 (m : MethodId) (x0 : Int32) : entryFrame m #[(.int x0)] 1 = mkF m 0 #[.val (.int x0)] [] := by first | (simp [entryFrame, mkF, argsToLocals, Value.category]; done) | rfl
def Q1_10 (Z : State) (a1 : Addr) (h0 : Heap) (n0 : Nat) (v : Option Value) (h : Heap) (L : List Loc) : Prop := v = some (.ref a1) ∧ Fr n0 L ∧ h = h0
set_option maxRecDepth 65536 in
set_option maxHeartbeats 40000000 in
theorem rm1_10 (l : Launch) (Z : State) (a0 : Array Value) (hw : ∀ d ∈ tables_1, d.before a0 Z = true) (ws : List Jvm.Cond) (a1 : Addr) (h0 : Heap) (n0 : Nat) (Z0 : n0 ≤ h0.size) (S1 : Sta Z h0 "com/example/kaava/kaava/model/Facet" "TOTAL_DIGITS" "Lcom/example/kaava/kaava/model/Facet;" (.ref a1)) :
    MetFree l (⟨"com/example/kaava/kaava/model/FacetIsBoundPinLaw", "facetAt", "(I)Lcom/example/kaava/kaava/model/Facet;"⟩ : MethodName) (head1 (Jvm.Cond.code (⟨"com/example/kaava/kaava/model/FacetIsBoundPinLaw", "facetAt", "(I)Lcom/example/kaava/kaava/model/Facet;"⟩ : MethodName) method_2_code 1 (some (.object "com/example/kaava/kaava/model/Facet")) :: ws) ({ frames := 0, cells := 0, slots := 0, locals := 0 } : Room)) (fun a U => a = #[(.int (10 : Int32))] ∧ Z.Warmed39 U.vm ∧ U.heap = h0) (fun _ _ _ _ _ => True) (fun _ U o U' => ∃ v L, o = .returned v ∧ Q1_10 Z a1 h0 n0 v U'.heap L ∧ FrameEnd U o U' L ({ frames := 0, cells := 0, slots := 0, locals := 0 } : Room).cells ({ frames := 0, cells := 0, slots := 0, locals := 0 } : Room).slots) := by
  refine MetFree.of_bodySF (plainFor_of_name pn_com_example_kaava_kaava_model_FacetIsBoundPinLaw) hisR ?_
  intro p e s m args below meth c s₁ Bd hml0 hP hK
  obtain ⟨rfl, hZ, hh⟩ := hP
  have hx := Bd.exec
  have hby := Bd.bytes
  have hlk : meth.locks = false := BodyLoose.notSynchronized Bd
  have hml : c.maxLocals = 1 := hml0
  have hown : s.vm.findClass "com/example/kaava/kaava/model/FacetIsBoundPinLaw" = some m.cls := findClass_of_methodNamed Bd.named
  have hnm := (name_of_methodNamed Bd.named Bd.method).1
  have X0 : Stand p l e ({ frames := 0, cells := 0, slots := 0, locals := 0 } : Room) s m #[(.int (10 : Int32))] below meth c s₁ [] 0 0 := Stand.of_body Bd
  have e0 : s₁.heap = h0 := by rw [← hh, Bd.state]; rfl
  have N0 := Fr.nil n0
  show own_G p.tables e below s (Q1_10 Z a1 h0 n0) ({ frames := 0, cells := 0, slots := 0, locals := 0 } : Room).cells ({ frames := 0, cells := 0, slots := 0, locals := 0 } : Room).slots (s₁.setTop (entryFrame m #[(.int (10 : Int32))] 1))
  refine own_go (fun t k => castTop (ef_1_10 m (10 : Int32)) k) ?_
  show own_G p.tables e below s _ _ _ (s₁.setTop (mkF m 0 #[.val (.int (10 : Int32))] []))
  refine own_go (fun t k => XS.iloadN X0.here hx rfl (hb hby d1_10_0) rfl k) ?_
  show own_G p.tables e below s _ _ _ (s₁.setTop (mkF m 1 #[.val (.int (10 : Int32))] [(.int (10 : Int32))]))
  refine own_go (fun t k => XS.ifYes X0.here hx rfl (pc0 := 1) (pc' := 8) rfl (hb hby d1_10_1) rfl (by decide) (by decide) (by decide) k) ?_
  show own_G p.tables e below s _ _ _ (s₁.setTop (mkF m 8 #[.val (.int (10 : Int32))] []))
  refine own_go (fun t k => XS.iloadN X0.here hx rfl (hb hby d1_10_8) rfl k) ?_
  show own_G p.tables e below s _ _ _ (s₁.setTop (mkF m 9 #[.val (.int (10 : Int32))] [(.int (10 : Int32))]))
  refine own_go (fun t k => XS.iconst X0.here hx rfl (hb hby d1_10_9) k) ?_
  show own_G p.tables e below s _ _ _ (s₁.setTop (mkF m 10 #[.val (.int (10 : Int32))] [(.int (1 : Int32)), (.int (10 : Int32))]))
  refine own_go (fun t k => XS.icmpYes X0.here hx rfl (pc0 := 10) (pc' := 17) rfl (hb hby d1_10_10) rfl (by decide) (by decide) (by decide) k) ?_
  show own_G p.tables e below s _ _ _ (s₁.setTop (mkF m 17 #[.val (.int (10 : Int32))] []))
  refine own_go (fun t k => XS.iloadN X0.here hx rfl (hb hby d1_10_17) rfl k) ?_
  show own_G p.tables e below s _ _ _ (s₁.setTop (mkF m 18 #[.val (.int (10 : Int32))] [(.int (10 : Int32))]))
  refine own_go (fun t k => XS.iconst X0.here hx rfl (hb hby d1_10_18) k) ?_
  show own_G p.tables e below s _ _ _ (s₁.setTop (mkF m 19 #[.val (.int (10 : Int32))] [(.int (2 : Int32)), (.int (10 : Int32))]))
  refine own_go (fun t k => XS.icmpYes X0.here hx rfl (pc0 := 19) (pc' := 26) rfl (hb hby d1_10_19) rfl (by decide) (by decide) (by decide) k) ?_
  show own_G p.tables e below s _ _ _ (s₁.setTop (mkF m 26 #[.val (.int (10 : Int32))] []))
  refine own_go (fun t k => XS.iloadN X0.here hx rfl (hb hby d1_10_26) rfl k) ?_
  show own_G p.tables e below s _ _ _ (s₁.setTop (mkF m 27 #[.val (.int (10 : Int32))] [(.int (10 : Int32))]))
  refine own_go (fun t k => XS.iconst X0.here hx rfl (hb hby d1_10_27) k) ?_
  show own_G p.tables e below s _ _ _ (s₁.setTop (mkF m 28 #[.val (.int (10 : Int32))] [(.int (3 : Int32)), (.int (10 : Int32))]))
  refine own_go (fun t k => XS.icmpYes X0.here hx rfl (pc0 := 28) (pc' := 35) rfl (hb hby d1_10_28) rfl (by decide) (by decide) (by decide) k) ?_
  show own_G p.tables e below s _ _ _ (s₁.setTop (mkF m 35 #[.val (.int (10 : Int32))] []))
  refine own_go (fun t k => XS.iloadN X0.here hx rfl (hb hby d1_10_35) rfl k) ?_
  show own_G p.tables e below s _ _ _ (s₁.setTop (mkF m 36 #[.val (.int (10 : Int32))] [(.int (10 : Int32))]))
  refine own_go (fun t k => XS.iconst X0.here hx rfl (hb hby d1_10_36) k) ?_
  show own_G p.tables e below s _ _ _ (s₁.setTop (mkF m 37 #[.val (.int (10 : Int32))] [(.int (4 : Int32)), (.int (10 : Int32))]))
  refine own_go (fun t k => XS.icmpYes X0.here hx rfl (pc0 := 37) (pc' := 44) rfl (hb hby d1_10_37) rfl (by decide) (by decide) (by decide) k) ?_
  show own_G p.tables e below s _ _ _ (s₁.setTop (mkF m 44 #[.val (.int (10 : Int32))] []))
  refine own_go (fun t k => XS.iloadN X0.here hx rfl (hb hby d1_10_44) rfl k) ?_
  show own_G p.tables e below s _ _ _ (s₁.setTop (mkF m 45 #[.val (.int (10 : Int32))] [(.int (10 : Int32))]))
  refine own_go (fun t k => XS.iconst X0.here hx rfl (hb hby d1_10_45) k) ?_
  show own_G p.tables e below s _ _ _ (s₁.setTop (mkF m 46 #[.val (.int (10 : Int32))] [(.int (5 : Int32)), (.int (10 : Int32))]))
  refine own_go (fun t k => XS.icmpYes X0.here hx rfl (pc0 := 46) (pc' := 53) rfl (hb hby d1_10_46) rfl (by decide) (by decide) (by decide) k) ?_
  show own_G p.tables e below s _ _ _ (s₁.setTop (mkF m 53 #[.val (.int (10 : Int32))] []))
  refine own_go (fun t k => XS.iloadN X0.here hx rfl (hb hby d1_10_53) rfl k) ?_
  show own_G p.tables e below s _ _ _ (s₁.setTop (mkF m 54 #[.val (.int (10 : Int32))] [(.int (10 : Int32))]))
  refine own_go (fun t k => XS.bipush X0.here hx rfl (hb hby d1_10_54) k) ?_
  show own_G p.tables e below s _ _ _ (s₁.setTop (mkF m 56 #[.val (.int (10 : Int32))] [(.int (6 : Int32)), (.int (10 : Int32))]))
  refine own_go (fun t k => XS.icmpYes X0.here hx rfl (pc0 := 56) (pc' := 63) rfl (hb hby d1_10_56) rfl (by decide) (by decide) (by decide) k) ?_
  show own_G p.tables e below s _ _ _ (s₁.setTop (mkF m 63 #[.val (.int (10 : Int32))] []))
  refine own_go (fun t k => XS.iloadN X0.here hx rfl (hb hby d1_10_63) rfl k) ?_
  show own_G p.tables e below s _ _ _ (s₁.setTop (mkF m 64 #[.val (.int (10 : Int32))] [(.int (10 : Int32))]))
  refine own_go (fun t k => XS.bipush X0.here hx rfl (hb hby d1_10_64) k) ?_
  show own_G p.tables e below s _ _ _ (s₁.setTop (mkF m 66 #[.val (.int (10 : Int32))] [(.int (7 : Int32)), (.int (10 : Int32))]))
  refine own_go (fun t k => XS.icmpYes X0.here hx rfl (pc0 := 66) (pc' := 73) rfl (hb hby d1_10_66) rfl (by decide) (by decide) (by decide) k) ?_
  show own_G p.tables e below s _ _ _ (s₁.setTop (mkF m 73 #[.val (.int (10 : Int32))] []))
  refine own_go (fun t k => XS.iloadN X0.here hx rfl (hb hby d1_10_73) rfl k) ?_
  show own_G p.tables e below s _ _ _ (s₁.setTop (mkF m 74 #[.val (.int (10 : Int32))] [(.int (10 : Int32))]))
  refine own_go (fun t k => XS.bipush X0.here hx rfl (hb hby d1_10_74) k) ?_
  show own_G p.tables e below s _ _ _ (s₁.setTop (mkF m 76 #[.val (.int (10 : Int32))] [(.int (8 : Int32)), (.int (10 : Int32))]))
  refine own_go (fun t k => XS.icmpYes X0.here hx rfl (pc0 := 76) (pc' := 83) rfl (hb hby d1_10_76) rfl (by decide) (by decide) (by decide) k) ?_
  show own_G p.tables e below s _ _ _ (s₁.setTop (mkF m 83 #[.val (.int (10 : Int32))] []))
  refine own_go (fun t k => XS.iloadN X0.here hx rfl (hb hby d1_10_83) rfl k) ?_
  show own_G p.tables e below s _ _ _ (s₁.setTop (mkF m 84 #[.val (.int (10 : Int32))] [(.int (10 : Int32))]))
  refine own_go (fun t k => XS.bipush X0.here hx rfl (hb hby d1_10_84) k) ?_
  show own_G p.tables e below s _ _ _ (s₁.setTop (mkF m 86 #[.val (.int (10 : Int32))] [(.int (9 : Int32)), (.int (10 : Int32))]))
  refine own_go (fun t k => XS.icmpYes X0.here hx rfl (pc0 := 86) (pc' := 93) rfl (hb hby d1_10_86) rfl (by decide) (by decide) (by decide) k) ?_
  show own_G p.tables e below s _ _ _ (s₁.setTop (mkF m 93 #[.val (.int (10 : Int32))] []))
  refine own_go (fun t k => XS.iloadN X0.here hx rfl (hb hby d1_10_93) rfl k) ?_
  show own_G p.tables e below s _ _ _ (s₁.setTop (mkF m 94 #[.val (.int (10 : Int32))] [(.int (10 : Int32))]))
  refine own_go (fun t k => XS.bipush X0.here hx rfl (hb hby d1_10_94) k) ?_
  show own_G p.tables e below s _ _ _ (s₁.setTop (mkF m 96 #[.val (.int (10 : Int32))] [(.int (10 : Int32)), (.int (10 : Int32))]))
  refine own_go (fun t k => XS.icmpNo X0.here hx rfl (hb hby d1_10_96) rfl (by decide) k) ?_
  show own_G p.tables e below s _ _ _ (s₁.setTop (mkF m 99 #[.val (.int (10 : Int32))] []))
  obtain ⟨T11, X11, e11, st11⟩ := getS X0 hx hZ hown (host := "") (hw _ (List.mem_of_getElem? (i := 35) rfl)) Via.refl e0 S1 (g := (mkF m 99 #[.val (.int (10 : Int32))] [])) rfl (hb hby d1_10_99)
  refine own_go st11 ?_
  show own_G p.tables e below s _ _ _ (T11.setTop (mkF m 102 #[.val (.int (10 : Int32))] [(.ref a1)]))
  exact own_retA X11 hx hlk Bd.returns rfl rfl (hb hby d1_10_102) (by rw [e11]; exact ⟨rfl, N0, rfl⟩) (by decide) (by decide)
theorem d1_11_0 : decode method_2_code 0 = .ok (.iload_n 0, 1) := by decide +kernel
theorem d1_11_1 : decode method_2_code 1 = .ok (.ifCond .ne 7, 3) := by decide +kernel
theorem d1_11_8 : decode method_2_code 8 = .ok (.iload_n 0, 1) := by decide +kernel
theorem d1_11_9 : decode method_2_code 9 = .ok (.iconst 1, 1) := by decide +kernel
theorem d1_11_10 : decode method_2_code 10 = .ok (.if_icmp .ne 7, 3) := by decide +kernel
theorem d1_11_17 : decode method_2_code 17 = .ok (.iload_n 0, 1) := by decide +kernel
theorem d1_11_18 : decode method_2_code 18 = .ok (.iconst 2, 1) := by decide +kernel
theorem d1_11_19 : decode method_2_code 19 = .ok (.if_icmp .ne 7, 3) := by decide +kernel
theorem d1_11_26 : decode method_2_code 26 = .ok (.iload_n 0, 1) := by decide +kernel
theorem d1_11_27 : decode method_2_code 27 = .ok (.iconst 3, 1) := by decide +kernel
theorem d1_11_28 : decode method_2_code 28 = .ok (.if_icmp .ne 7, 3) := by decide +kernel
theorem d1_11_35 : decode method_2_code 35 = .ok (.iload_n 0, 1) := by decide +kernel
theorem d1_11_36 : decode method_2_code 36 = .ok (.iconst 4, 1) := by decide +kernel
theorem d1_11_37 : decode method_2_code 37 = .ok (.if_icmp .ne 7, 3) := by decide +kernel
theorem d1_11_44 : decode method_2_code 44 = .ok (.iload_n 0, 1) := by decide +kernel
theorem d1_11_45 : decode method_2_code 45 = .ok (.iconst 5, 1) := by decide +kernel
theorem d1_11_46 : decode method_2_code 46 = .ok (.if_icmp .ne 7, 3) := by decide +kernel
theorem d1_11_53 : decode method_2_code 53 = .ok (.iload_n 0, 1) := by decide +kernel
theorem d1_11_54 : decode method_2_code 54 = .ok (.bipush 6, 2) := by decide +kernel
theorem d1_11_56 : decode method_2_code 56 = .ok (.if_icmp .ne 7, 3) := by decide +kernel
theorem d1_11_63 : decode method_2_code 63 = .ok (.iload_n 0, 1) := by decide +kernel
theorem d1_11_64 : decode method_2_code 64 = .ok (.bipush 7, 2) := by decide +kernel
theorem d1_11_66 : decode method_2_code 66 = .ok (.if_icmp .ne 7, 3) := by decide +kernel
theorem d1_11_73 : decode method_2_code 73 = .ok (.iload_n 0, 1) := by decide +kernel
theorem d1_11_74 : decode method_2_code 74 = .ok (.bipush 8, 2) := by decide +kernel
theorem d1_11_76 : decode method_2_code 76 = .ok (.if_icmp .ne 7, 3) := by decide +kernel
theorem d1_11_83 : decode method_2_code 83 = .ok (.iload_n 0, 1) := by decide +kernel
theorem d1_11_84 : decode method_2_code 84 = .ok (.bipush 9, 2) := by decide +kernel
theorem d1_11_86 : decode method_2_code 86 = .ok (.if_icmp .ne 7, 3) := by decide +kernel
theorem d1_11_93 : decode method_2_code 93 = .ok (.iload_n 0, 1) := by decide +kernel
theorem d1_11_94 : decode method_2_code 94 = .ok (.bipush 10, 2) := by decide +kernel
theorem d1_11_96 : decode method_2_code 96 = .ok (.if_icmp .ne 7, 3) := by decide +kernel
theorem d1_11_103 : decode method_2_code 103 = .ok (.iload_n 0, 1) := by decide +kernel
theorem d1_11_104 : decode method_2_code 104 = .ok (.bipush 11, 2) := by decide +kernel
theorem d1_11_106 : decode method_2_code 106 = .ok (.if_icmp .ne 7, 3) := by decide +kernel
theorem d1_11_109 : decode method_2_code 109 = .ok (.getstatic 43, 3) := by decide +kernel
theorem d1_11_112 : decode method_2_code 112 = .ok (.areturn, 1) := by decide +kernel
theorem ef_1_11 (m : MethodId) (x0 : Int32) : entryFrame m #[(.int x0)] 1 = mkF m 0 #[.val (.int x0)] [] := by first | (simp [entryFrame, mkF, argsToLocals, Value.category]; done) | rfl
def Q1_11 (Z : State) (a1 : Addr) (h0 : Heap) (n0 : Nat) (v : Option Value) (h : Heap) (L : List Loc) : Prop := v = some (.ref a1) ∧ Fr n0 L ∧ h = h0
set_option maxRecDepth 65536 in
set_option maxHeartbeats 40000000 in
theorem rm1_11 (l : Launch) (Z : State) (a0 : Array Value) (hw : ∀ d ∈ tables_1, d.before a0 Z = true) (ws : List Jvm.Cond) (a1 : Addr) (h0 : Heap) (n0 : Nat) (Z0 : n0 ≤ h0.size) (S1 : Sta Z h0 "com/example/kaava/kaava/model/Facet" "FRACTION_DIGITS" "Lcom/example/kaava/kaava/model/Facet;" (.ref a1)) :
    MetFree l (⟨"com/example/kaava/kaava/model/FacetIsBoundPinLaw", "facetAt", "(I)Lcom/example/kaava/kaava/model/Facet;"⟩ : MethodName) (head1 (Jvm.Cond.code (⟨"com/example/kaava/kaava/model/FacetIsBoundPinLaw", "facetAt", "(I)Lcom/example/kaava/kaava/model/Facet;"⟩ : MethodName) method_2_code 1 (some (.object "com/example/kaava/kaava/model/Facet")) :: ws) ({ frames := 0, cells := 0, slots := 0, locals := 0 } : Room)) (fun a U => a = #[(.int (11 : Int32))] ∧ Z.Warmed39 U.vm ∧ U.heap = h0) (fun _ _ _ _ _ => True) (fun _ U o U' => ∃ v L, o = .returned v ∧ Q1_11 Z a1 h0 n0 v U'.heap L ∧ FrameEnd U o U' L ({ frames := 0, cells := 0, slots := 0, locals := 0 } : Room).cells ({ frames := 0, cells := 0, slots := 0, locals := 0 } : Room).slots) := by
  refine MetFree.of_bodySF (plainFor_of_name pn_com_example_kaava_kaava_model_FacetIsBoundPinLaw) hisR ?_
  intro p e s m args below meth c s₁ Bd hml0 hP hK
  obtain ⟨rfl, hZ, hh⟩ := hP
  have hx := Bd.exec
  have hby := Bd.bytes
  have hlk : meth.locks = false := BodyLoose.notSynchronized Bd
  have hml : c.maxLocals = 1 := hml0
  have hown : s.vm.findClass "com/example/kaava/kaava/model/FacetIsBoundPinLaw" = some m.cls := findClass_of_methodNamed Bd.named
  have hnm := (name_of_methodNamed Bd.named Bd.method).1
  have X0 : Stand p l e ({ frames := 0, cells := 0, slots := 0, locals := 0 } : Room) s m #[(.int (11 : Int32))] below meth c s₁ [] 0 0 := Stand.of_body Bd
  have e0 : s₁.heap = h0 := by rw [← hh, Bd.state]; rfl
  have N0 := Fr.nil n0
  show own_G p.tables e below s (Q1_11 Z a1 h0 n0) ({ frames := 0, cells := 0, slots := 0, locals := 0 } : Room).cells ({ frames := 0, cells := 0, slots := 0, locals := 0 } : Room).slots (s₁.setTop (entryFrame m #[(.int (11 : Int32))] 1))
  refine own_go (fun t k => castTop (ef_1_11 m (11 : Int32)) k) ?_
  show own_G p.tables e below s _ _ _ (s₁.setTop (mkF m 0 #[.val (.int (11 : Int32))] []))
  refine own_go (fun t k => XS.iloadN X0.here hx rfl (hb hby d1_11_0) rfl k) ?_
  show own_G p.tables e below s _ _ _ (s₁.setTop (mkF m 1 #[.val (.int (11 : Int32))] [(.int (11 : Int32))]))
  refine own_go (fun t k => XS.ifYes X0.here hx rfl (pc0 := 1) (pc' := 8) rfl (hb hby d1_11_1) rfl (by decide) (by decide) (by decide) k) ?_
  show own_G p.tables e below s _ _ _ (s₁.setTop (mkF m 8 #[.val (.int (11 : Int32))] []))
  refine own_go (fun t k => XS.iloadN X0.here hx rfl (hb hby d1_11_8) rfl k) ?_
  show own_G p.tables e below s _ _ _ (s₁.setTop (mkF m 9 #[.val (.int (11 : Int32))] [(.int (11 : Int32))]))
  refine own_go (fun t k => XS.iconst X0.here hx rfl (hb hby d1_11_9) k) ?_
  show own_G p.tables e below s _ _ _ (s₁.setTop (mkF m 10 #[.val (.int (11 : Int32))] [(.int (1 : Int32)), (.int (11 : Int32))]))
  refine own_go (fun t k => XS.icmpYes X0.here hx rfl (pc0 := 10) (pc' := 17) rfl (hb hby d1_11_10) rfl (by decide) (by decide) (by decide) k) ?_
  show own_G p.tables e below s _ _ _ (s₁.setTop (mkF m 17 #[.val (.int (11 : Int32))] []))
  refine own_go (fun t k => XS.iloadN X0.here hx rfl (hb hby d1_11_17) rfl k) ?_
  show own_G p.tables e below s _ _ _ (s₁.setTop (mkF m 18 #[.val (.int (11 : Int32))] [(.int (11 : Int32))]))
  refine own_go (fun t k => XS.iconst X0.here hx rfl (hb hby d1_11_18) k) ?_
  show own_G p.tables e below s _ _ _ (s₁.setTop (mkF m 19 #[.val (.int (11 : Int32))] [(.int (2 : Int32)), (.int (11 : Int32))]))
  refine own_go (fun t k => XS.icmpYes X0.here hx rfl (pc0 := 19) (pc' := 26) rfl (hb hby d1_11_19) rfl (by decide) (by decide) (by decide) k) ?_
  show own_G p.tables e below s _ _ _ (s₁.setTop (mkF m 26 #[.val (.int (11 : Int32))] []))
  refine own_go (fun t k => XS.iloadN X0.here hx rfl (hb hby d1_11_26) rfl k) ?_
  show own_G p.tables e below s _ _ _ (s₁.setTop (mkF m 27 #[.val (.int (11 : Int32))] [(.int (11 : Int32))]))
  refine own_go (fun t k => XS.iconst X0.here hx rfl (hb hby d1_11_27) k) ?_
  show own_G p.tables e below s _ _ _ (s₁.setTop (mkF m 28 #[.val (.int (11 : Int32))] [(.int (3 : Int32)), (.int (11 : Int32))]))
  refine own_go (fun t k => XS.icmpYes X0.here hx rfl (pc0 := 28) (pc' := 35) rfl (hb hby d1_11_28) rfl (by decide) (by decide) (by decide) k) ?_
  show own_G p.tables e below s _ _ _ (s₁.setTop (mkF m 35 #[.val (.int (11 : Int32))] []))
  refine own_go (fun t k => XS.iloadN X0.here hx rfl (hb hby d1_11_35) rfl k) ?_
  show own_G p.tables e below s _ _ _ (s₁.setTop (mkF m 36 #[.val (.int (11 : Int32))] [(.int (11 : Int32))]))
  refine own_go (fun t k => XS.iconst X0.here hx rfl (hb hby d1_11_36) k) ?_
  show own_G p.tables e below s _ _ _ (s₁.setTop (mkF m 37 #[.val (.int (11 : Int32))] [(.int (4 : Int32)), (.int (11 : Int32))]))
  refine own_go (fun t k => XS.icmpYes X0.here hx rfl (pc0 := 37) (pc' := 44) rfl (hb hby d1_11_37) rfl (by decide) (by decide) (by decide) k) ?_
  show own_G p.tables e below s _ _ _ (s₁.setTop (mkF m 44 #[.val (.int (11 : Int32))] []))
  refine own_go (fun t k => XS.iloadN X0.here hx rfl (hb hby d1_11_44) rfl k) ?_
  show own_G p.tables e below s _ _ _ (s₁.setTop (mkF m 45 #[.val (.int (11 : Int32))] [(.int (11 : Int32))]))
  refine own_go (fun t k => XS.iconst X0.here hx rfl (hb hby d1_11_45) k) ?_
  show own_G p.tables e below s _ _ _ (s₁.setTop (mkF m 46 #[.val (.int (11 : Int32))] [(.int (5 : Int32)), (.int (11 : Int32))]))
  refine own_go (fun t k => XS.icmpYes X0.here hx rfl (pc0 := 46) (pc' := 53) rfl (hb hby d1_11_46) rfl (by decide) (by decide) (by decide) k) ?_
  show own_G p.tables e below s _ _ _ (s₁.setTop (mkF m 53 #[.val (.int (11 : Int32))] []))
  refine own_go (fun t k => XS.iloadN X0.here hx rfl (hb hby d1_11_53) rfl k) ?_
  show own_G p.tables e below s _ _ _ (s₁.setTop (mkF m 54 #[.val (.int (11 : Int32))] [(.int (11 : Int32))]))
  refine own_go (fun t k => XS.bipush X0.here hx rfl (hb hby d1_11_54) k) ?_
  show own_G p.tables e below s _ _ _ (s₁.setTop (mkF m 56 #[.val (.int (11 : Int32))] [(.int (6 : Int32)), (.int (11 : Int32))]))
  refine own_go (fun t k => XS.icmpYes X0.here hx rfl (pc0 := 56) (pc' := 63) rfl (hb hby d1_11_56) rfl (by decide) (by decide) (by decide) k) ?_
  show own_G p.tables e below s _ _ _ (s₁.setTop (mkF m 63 #[.val (.int (11 : Int32))] []))
  refine own_go (fun t k => XS.iloadN X0.here hx rfl (hb hby d1_11_63) rfl k) ?_
  show own_G p.tables e below s _ _ _ (s₁.setTop (mkF m 64 #[.val (.int (11 : Int32))] [(.int (11 : Int32))]))
  refine own_go (fun t k => XS.bipush X0.here hx rfl (hb hby d1_11_64) k) ?_
  show own_G p.tables e below s _ _ _ (s₁.setTop (mkF m 66 #[.val (.int (11 : Int32))] [(.int (7 : Int32)), (.int (11 : Int32))]))
  refine own_go (fun t k => XS.icmpYes X0.here hx rfl (pc0 := 66) (pc' := 73) rfl (hb hby d1_11_66) rfl (by decide) (by decide) (by decide) k) ?_
  show own_G p.tables e below s _ _ _ (s₁.setTop (mkF m 73 #[.val (.int (11 : Int32))] []))
  refine own_go (fun t k => XS.iloadN X0.here hx rfl (hb hby d1_11_73) rfl k) ?_
  show own_G p.tables e below s _ _ _ (s₁.setTop (mkF m 74 #[.val (.int (11 : Int32))] [(.int (11 : Int32))]))
  refine own_go (fun t k => XS.bipush X0.here hx rfl (hb hby d1_11_74) k) ?_
  show own_G p.tables e below s _ _ _ (s₁.setTop (mkF m 76 #[.val (.int (11 : Int32))] [(.int (8 : Int32)), (.int (11 : Int32))]))
  refine own_go (fun t k => XS.icmpYes X0.here hx rfl (pc0 := 76) (pc' := 83) rfl (hb hby d1_11_76) rfl (by decide) (by decide) (by decide) k) ?_
  show own_G p.tables e below s _ _ _ (s₁.setTop (mkF m 83 #[.val (.int (11 : Int32))] []))
  refine own_go (fun t k => XS.iloadN X0.here hx rfl (hb hby d1_11_83) rfl k) ?_
  show own_G p.tables e below s _ _ _ (s₁.setTop (mkF m 84 #[.val (.int (11 : Int32))] [(.int (11 : Int32))]))
  refine own_go (fun t k => XS.bipush X0.here hx rfl (hb hby d1_11_84) k) ?_
  show own_G p.tables e below s _ _ _ (s₁.setTop (mkF m 86 #[.val (.int (11 : Int32))] [(.int (9 : Int32)), (.int (11 : Int32))]))
  refine own_go (fun t k => XS.icmpYes X0.here hx rfl (pc0 := 86) (pc' := 93) rfl (hb hby d1_11_86) rfl (by decide) (by decide) (by decide) k) ?_
  show own_G p.tables e below s _ _ _ (s₁.setTop (mkF m 93 #[.val (.int (11 : Int32))] []))
  refine own_go (fun t k => XS.iloadN X0.here hx rfl (hb hby d1_11_93) rfl k) ?_
  show own_G p.tables e below s _ _ _ (s₁.setTop (mkF m 94 #[.val (.int (11 : Int32))] [(.int (11 : Int32))]))
  refine own_go (fun t k => XS.bipush X0.here hx rfl (hb hby d1_11_94) k) ?_
  show own_G p.tables e below s _ _ _ (s₁.setTop (mkF m 96 #[.val (.int (11 : Int32))] [(.int (10 : Int32)), (.int (11 : Int32))]))
  refine own_go (fun t k => XS.icmpYes X0.here hx rfl (pc0 := 96) (pc' := 103) rfl (hb hby d1_11_96) rfl (by decide) (by decide) (by decide) k) ?_
  show own_G p.tables e below s _ _ _ (s₁.setTop (mkF m 103 #[.val (.int (11 : Int32))] []))
  refine own_go (fun t k => XS.iloadN X0.here hx rfl (hb hby d1_11_103) rfl k) ?_
  show own_G p.tables e below s _ _ _ (s₁.setTop (mkF m 104 #[.val (.int (11 : Int32))] [(.int (11 : Int32))]))
  refine own_go (fun t k => XS.bipush X0.here hx rfl (hb hby d1_11_104) k) ?_
  show own_G p.tables e below s _ _ _ (s₁.setTop (mkF m 106 #[.val (.int (11 : Int32))] [(.int (11 : Int32)), (.int (11 : Int32))]))
  refine own_go (fun t k => XS.icmpNo X0.here hx rfl (hb hby d1_11_106) rfl (by decide) k) ?_
  show own_G p.tables e below s _ _ _ (s₁.setTop (mkF m 109 #[.val (.int (11 : Int32))] []))
  obtain ⟨T12, X12, e12, st12⟩ := getS X0 hx hZ hown (host := "") (hw _ (List.mem_of_getElem? (i := 30) rfl)) Via.refl e0 S1 (g := (mkF m 109 #[.val (.int (11 : Int32))] [])) rfl (hb hby d1_11_109)
  refine own_go st12 ?_
  show own_G p.tables e below s _ _ _ (T12.setTop (mkF m 112 #[.val (.int (11 : Int32))] [(.ref a1)]))
  exact own_retA X12 hx hlk Bd.returns rfl rfl (hb hby d1_11_112) (by rw [e12]; exact ⟨rfl, N0, rfl⟩) (by decide) (by decide)
theorem d1_12_0 : decode method_2_code 0 = .ok (.iload_n 0, 1) := by decide +kernel
theorem d1_12_1 : decode method_2_code 1 = .ok (.ifCond .ne 7, 3) := by decide +kernel
theorem d1_12_8 : decode method_2_code 8 = .ok (.iload_n 0, 1) := by decide +kernel
theorem d1_12_9 : decode method_2_code 9 = .ok (.iconst 1, 1) := by decide +kernel
theorem d1_12_10 : decode method_2_code 10 = .ok (.if_icmp .ne 7, 3) := by decide +kernel
theorem d1_12_17 : decode method_2_code 17 = .ok (.iload_n 0, 1) := by decide +kernel
theorem d1_12_18 : decode method_2_code 18 = .ok (.iconst 2, 1) := by decide +kernel
theorem d1_12_19 : decode method_2_code 19 = .ok (.if_icmp .ne 7, 3) := by decide +kernel
theorem d1_12_26 : decode method_2_code 26 = .ok (.iload_n 0, 1) := by decide +kernel
theorem d1_12_27 : decode method_2_code 27 = .ok (.iconst 3, 1) := by decide +kernel
theorem d1_12_28 : decode method_2_code 28 = .ok (.if_icmp .ne 7, 3) := by decide +kernel
theorem d1_12_35 : decode method_2_code 35 = .ok (.iload_n 0, 1) := by decide +kernel
theorem d1_12_36 : decode method_2_code 36 = .ok (.iconst 4, 1) := by decide +kernel
theorem d1_12_37 : decode method_2_code 37 = .ok (.if_icmp .ne 7, 3) := by decide +kernel
theorem d1_12_44 : decode method_2_code 44 = .ok (.iload_n 0, 1) := by decide +kernel
theorem d1_12_45 : decode method_2_code 45 = .ok (.iconst 5, 1) := by decide +kernel
theorem d1_12_46 : decode method_2_code 46 = .ok (.if_icmp .ne 7, 3) := by decide +kernel
theorem d1_12_53 : decode method_2_code 53 = .ok (.iload_n 0, 1) := by decide +kernel
theorem d1_12_54 : decode method_2_code 54 = .ok (.bipush 6, 2) := by decide +kernel
theorem d1_12_56 : decode method_2_code 56 = .ok (.if_icmp .ne 7, 3) := by decide +kernel
theorem d1_12_63 : decode method_2_code 63 = .ok (.iload_n 0, 1) := by decide +kernel
theorem d1_12_64 : decode method_2_code 64 = .ok (.bipush 7, 2) := by decide +kernel
theorem d1_12_66 : decode method_2_code 66 = .ok (.if_icmp .ne 7, 3) := by decide +kernel
theorem d1_12_73 : decode method_2_code 73 = .ok (.iload_n 0, 1) := by decide +kernel
theorem d1_12_74 : decode method_2_code 74 = .ok (.bipush 8, 2) := by decide +kernel
theorem d1_12_76 : decode method_2_code 76 = .ok (.if_icmp .ne 7, 3) := by decide +kernel
theorem d1_12_83 : decode method_2_code 83 = .ok (.iload_n 0, 1) := by decide +kernel
theorem d1_12_84 : decode method_2_code 84 = .ok (.bipush 9, 2) := by decide +kernel
theorem d1_12_86 : decode method_2_code 86 = .ok (.if_icmp .ne 7, 3) := by decide +kernel
theorem d1_12_93 : decode method_2_code 93 = .ok (.iload_n 0, 1) := by decide +kernel
theorem d1_12_94 : decode method_2_code 94 = .ok (.bipush 10, 2) := by decide +kernel
theorem d1_12_96 : decode method_2_code 96 = .ok (.if_icmp .ne 7, 3) := by decide +kernel
theorem d1_12_103 : decode method_2_code 103 = .ok (.iload_n 0, 1) := by decide +kernel
theorem d1_12_104 : decode method_2_code 104 = .ok (.bipush 11, 2) := by decide +kernel
theorem d1_12_106 : decode method_2_code 106 = .ok (.if_icmp .ne 7, 3) := by decide +kernel
theorem d1_12_113 : decode method_2_code 113 = .ok (.getstatic 46, 3) := by decide +kernel
theorem d1_12_116 : decode method_2_code 116 = .ok (.areturn, 1) := by decide +kernel
theorem ef_1_12 (m : MethodId) (x0 : Int32) : entryFrame m #[(.int x0)] 1 = mkF m 0 #[.val (.int x0)] [] := by first | (simp [entryFrame, mkF, argsToLocals, Value.category]; done) | rfl
def Q1_12 (Z : State) (a1 : Addr) (h0 : Heap) (n0 : Nat) (v : Option Value) (h : Heap) (L : List Loc) : Prop := v = some (.ref a1) ∧ Fr n0 L ∧ h = h0
set_option maxRecDepth 65536 in
set_option maxHeartbeats 40000000 in
theorem rm1_12 (l : Launch) (Z : State) (a0 : Array Value) (hw : ∀ d ∈ tables_1, d.before a0 Z = true) (ws : List Jvm.Cond) (a1 : Addr) (h0 : Heap) (n0 : Nat) (Z0 : n0 ≤ h0.size) (S1 : Sta Z h0 "com/example/kaava/kaava/model/Facet" "EXPLICIT_TIMEZONE" "Lcom/example/kaava/kaava/model/Facet;" (.ref a1)) :
    MetFree l (⟨"com/example/kaava/kaava/model/FacetIsBoundPinLaw", "facetAt", "(I)Lcom/example/kaava/kaava/model/Facet;"⟩ : MethodName) (head1 (Jvm.Cond.code (⟨"com/example/kaava/kaava/model/FacetIsBoundPinLaw", "facetAt", "(I)Lcom/example/kaava/kaava/model/Facet;"⟩ : MethodName) method_2_code 1 (some (.object "com/example/kaava/kaava/model/Facet")) :: ws) ({ frames := 0, cells := 0, slots := 0, locals := 0 } : Room)) (fun a U => a = #[(.int (12 : Int32))] ∧ Z.Warmed39 U.vm ∧ U.heap = h0) (fun _ _ _ _ _ => True) (fun _ U o U' => ∃ v L, o = .returned v ∧ Q1_12 Z a1 h0 n0 v U'.heap L ∧ FrameEnd U o U' L ({ frames := 0, cells := 0, slots := 0, locals := 0 } : Room).cells ({ frames := 0, cells := 0, slots := 0, locals := 0 } : Room).slots) := by
  refine MetFree.of_bodySF (plainFor_of_name pn_com_example_kaava_kaava_model_FacetIsBoundPinLaw) hisR ?_
  intro p e s m args below meth c s₁ Bd hml0 hP hK
  obtain ⟨rfl, hZ, hh⟩ := hP
  have hx := Bd.exec
  have hby := Bd.bytes
  have hlk : meth.locks = false := BodyLoose.notSynchronized Bd
  have hml : c.maxLocals = 1 := hml0
  have hown : s.vm.findClass "com/example/kaava/kaava/model/FacetIsBoundPinLaw" = some m.cls := findClass_of_methodNamed Bd.named
  have hnm := (name_of_methodNamed Bd.named Bd.method).1
  have X0 : Stand p l e ({ frames := 0, cells := 0, slots := 0, locals := 0 } : Room) s m #[(.int (12 : Int32))] below meth c s₁ [] 0 0 := Stand.of_body Bd
  have e0 : s₁.heap = h0 := by rw [← hh, Bd.state]; rfl
  have N0 := Fr.nil n0
  show own_G p.tables e below s (Q1_12 Z a1 h0 n0) ({ frames := 0, cells := 0, slots := 0, locals := 0 } : Room).cells ({ frames := 0, cells := 0, slots := 0, locals := 0 } : Room).slots (s₁.setTop (entryFrame m #[(.int (12 : Int32))] 1))
  refine own_go (fun t k => castTop (ef_1_12 m (12 : Int32)) k) ?_
  show own_G p.tables e below s _ _ _ (s₁.setTop (mkF m 0 #[.val (.int (12 : Int32))] []))
  refine own_go (fun t k => XS.iloadN X0.here hx rfl (hb hby d1_12_0) rfl k) ?_
  show own_G p.tables e below s _ _ _ (s₁.setTop (mkF m 1 #[.val (.int (12 : Int32))] [(.int (12 : Int32))]))
  refine own_go (fun t k => XS.ifYes X0.here hx rfl (pc0 := 1) (pc' := 8) rfl (hb hby d1_12_1) rfl (by decide) (by decide) (by decide) k) ?_
  show own_G p.tables e below s _ _ _ (s₁.setTop (mkF m 8 #[.val (.int (12 : Int32))] []))
  refine own_go (fun t k => XS.iloadN X0.here hx rfl (hb hby d1_12_8) rfl k) ?_
  show own_G p.tables e below s _ _ _ (s₁.setTop (mkF m 9 #[.val (.int (12 : Int32))] [(.int (12 : Int32))]))
  refine own_go (fun t k => XS.iconst X0.here hx rfl (hb hby d1_12_9) k) ?_
  show own_G p.tables e below s _ _ _ (s₁.setTop (mkF m 10 #[.val (.int (12 : Int32))] [(.int (1 : Int32)), (.int (12 : Int32))]))
  refine own_go (fun t k => XS.icmpYes X0.here hx rfl (pc0 := 10) (pc' := 17) rfl (hb hby d1_12_10) rfl (by decide) (by decide) (by decide) k) ?_
  show own_G p.tables e below s _ _ _ (s₁.setTop (mkF m 17 #[.val (.int (12 : Int32))] []))
  refine own_go (fun t k => XS.iloadN X0.here hx rfl (hb hby d1_12_17) rfl k) ?_
  show own_G p.tables e below s _ _ _ (s₁.setTop (mkF m 18 #[.val (.int (12 : Int32))] [(.int (12 : Int32))]))
  refine own_go (fun t k => XS.iconst X0.here hx rfl (hb hby d1_12_18) k) ?_
  show own_G p.tables e below s _ _ _ (s₁.setTop (mkF m 19 #[.val (.int (12 : Int32))] [(.int (2 : Int32)), (.int (12 : Int32))]))
  refine own_go (fun t k => XS.icmpYes X0.here hx rfl (pc0 := 19) (pc' := 26) rfl (hb hby d1_12_19) rfl (by decide) (by decide) (by decide) k) ?_
  show own_G p.tables e below s _ _ _ (s₁.setTop (mkF m 26 #[.val (.int (12 : Int32))] []))
  refine own_go (fun t k => XS.iloadN X0.here hx rfl (hb hby d1_12_26) rfl k) ?_
  show own_G p.tables e below s _ _ _ (s₁.setTop (mkF m 27 #[.val (.int (12 : Int32))] [(.int (12 : Int32))]))
  refine own_go (fun t k => XS.iconst X0.here hx rfl (hb hby d1_12_27) k) ?_
  show own_G p.tables e below s _ _ _ (s₁.setTop (mkF m 28 #[.val (.int (12 : Int32))] [(.int (3 : Int32)), (.int (12 : Int32))]))
  refine own_go (fun t k => XS.icmpYes X0.here hx rfl (pc0 := 28) (pc' := 35) rfl (hb hby d1_12_28) rfl (by decide) (by decide) (by decide) k) ?_
  show own_G p.tables e below s _ _ _ (s₁.setTop (mkF m 35 #[.val (.int (12 : Int32))] []))
  refine own_go (fun t k => XS.iloadN X0.here hx rfl (hb hby d1_12_35) rfl k) ?_
  show own_G p.tables e below s _ _ _ (s₁.setTop (mkF m 36 #[.val (.int (12 : Int32))] [(.int (12 : Int32))]))
  refine own_go (fun t k => XS.iconst X0.here hx rfl (hb hby d1_12_36) k) ?_
  show own_G p.tables e below s _ _ _ (s₁.setTop (mkF m 37 #[.val (.int (12 : Int32))] [(.int (4 : Int32)), (.int (12 : Int32))]))
  refine own_go (fun t k => XS.icmpYes X0.here hx rfl (pc0 := 37) (pc' := 44) rfl (hb hby d1_12_37) rfl (by decide) (by decide) (by decide) k) ?_
  show own_G p.tables e below s _ _ _ (s₁.setTop (mkF m 44 #[.val (.int (12 : Int32))] []))
  refine own_go (fun t k => XS.iloadN X0.here hx rfl (hb hby d1_12_44) rfl k) ?_
  show own_G p.tables e below s _ _ _ (s₁.setTop (mkF m 45 #[.val (.int (12 : Int32))] [(.int (12 : Int32))]))
  refine own_go (fun t k => XS.iconst X0.here hx rfl (hb hby d1_12_45) k) ?_
  show own_G p.tables e below s _ _ _ (s₁.setTop (mkF m 46 #[.val (.int (12 : Int32))] [(.int (5 : Int32)), (.int (12 : Int32))]))
  refine own_go (fun t k => XS.icmpYes X0.here hx rfl (pc0 := 46) (pc' := 53) rfl (hb hby d1_12_46) rfl (by decide) (by decide) (by decide) k) ?_
  show own_G p.tables e below s _ _ _ (s₁.setTop (mkF m 53 #[.val (.int (12 : Int32))] []))
  refine own_go (fun t k => XS.iloadN X0.here hx rfl (hb hby d1_12_53) rfl k) ?_
  show own_G p.tables e below s _ _ _ (s₁.setTop (mkF m 54 #[.val (.int (12 : Int32))] [(.int (12 : Int32))]))
  refine own_go (fun t k => XS.bipush X0.here hx rfl (hb hby d1_12_54) k) ?_
  show own_G p.tables e below s _ _ _ (s₁.setTop (mkF m 56 #[.val (.int (12 : Int32))] [(.int (6 : Int32)), (.int (12 : Int32))]))
  refine own_go (fun t k => XS.icmpYes X0.here hx rfl (pc0 := 56) (pc' := 63) rfl (hb hby d1_12_56) rfl (by decide) (by decide) (by decide) k) ?_
  show own_G p.tables e below s _ _ _ (s₁.setTop (mkF m 63 #[.val (.int (12 : Int32))] []))
  refine own_go (fun t k => XS.iloadN X0.here hx rfl (hb hby d1_12_63) rfl k) ?_
  show own_G p.tables e below s _ _ _ (s₁.setTop (mkF m 64 #[.val (.int (12 : Int32))] [(.int (12 : Int32))]))
  refine own_go (fun t k => XS.bipush X0.here hx rfl (hb hby d1_12_64) k) ?_
  show own_G p.tables e below s _ _ _ (s₁.setTop (mkF m 66 #[.val (.int (12 : Int32))] [(.int (7 : Int32)), (.int (12 : Int32))]))
  refine own_go (fun t k => XS.icmpYes X0.here hx rfl (pc0 := 66) (pc' := 73) rfl (hb hby d1_12_66) rfl (by decide) (by decide) (by decide) k) ?_
  show own_G p.tables e below s _ _ _ (s₁.setTop (mkF m 73 #[.val (.int (12 : Int32))] []))
  refine own_go (fun t k => XS.iloadN X0.here hx rfl (hb hby d1_12_73) rfl k) ?_
  show own_G p.tables e below s _ _ _ (s₁.setTop (mkF m 74 #[.val (.int (12 : Int32))] [(.int (12 : Int32))]))
  refine own_go (fun t k => XS.bipush X0.here hx rfl (hb hby d1_12_74) k) ?_
  show own_G p.tables e below s _ _ _ (s₁.setTop (mkF m 76 #[.val (.int (12 : Int32))] [(.int (8 : Int32)), (.int (12 : Int32))]))
  refine own_go (fun t k => XS.icmpYes X0.here hx rfl (pc0 := 76) (pc' := 83) rfl (hb hby d1_12_76) rfl (by decide) (by decide) (by decide) k) ?_
  show own_G p.tables e below s _ _ _ (s₁.setTop (mkF m 83 #[.val (.int (12 : Int32))] []))
  refine own_go (fun t k => XS.iloadN X0.here hx rfl (hb hby d1_12_83) rfl k) ?_
  show own_G p.tables e below s _ _ _ (s₁.setTop (mkF m 84 #[.val (.int (12 : Int32))] [(.int (12 : Int32))]))
  refine own_go (fun t k => XS.bipush X0.here hx rfl (hb hby d1_12_84) k) ?_
  show own_G p.tables e below s _ _ _ (s₁.setTop (mkF m 86 #[.val (.int (12 : Int32))] [(.int (9 : Int32)), (.int (12 : Int32))]))
  refine own_go (fun t k => XS.icmpYes X0.here hx rfl (pc0 := 86) (pc' := 93) rfl (hb hby d1_12_86) rfl (by decide) (by decide) (by decide) k) ?_
  show own_G p.tables e below s _ _ _ (s₁.setTop (mkF m 93 #[.val (.int (12 : Int32))] []))
  refine own_go (fun t k => XS.iloadN X0.here hx rfl (hb hby d1_12_93) rfl k) ?_
  show own_G p.tables e below s _ _ _ (s₁.setTop (mkF m 94 #[.val (.int (12 : Int32))] [(.int (12 : Int32))]))
  refine own_go (fun t k => XS.bipush X0.here hx rfl (hb hby d1_12_94) k) ?_
  show own_G p.tables e below s _ _ _ (s₁.setTop (mkF m 96 #[.val (.int (12 : Int32))] [(.int (10 : Int32)), (.int (12 : Int32))]))
  refine own_go (fun t k => XS.icmpYes X0.here hx rfl (pc0 := 96) (pc' := 103) rfl (hb hby d1_12_96) rfl (by decide) (by decide) (by decide) k) ?_
  show own_G p.tables e below s _ _ _ (s₁.setTop (mkF m 103 #[.val (.int (12 : Int32))] []))
  refine own_go (fun t k => XS.iloadN X0.here hx rfl (hb hby d1_12_103) rfl k) ?_
  show own_G p.tables e below s _ _ _ (s₁.setTop (mkF m 104 #[.val (.int (12 : Int32))] [(.int (12 : Int32))]))
  refine own_go (fun t k => XS.bipush X0.here hx rfl (hb hby d1_12_104) k) ?_
  show own_G p.tables e below s _ _ _ (s₁.setTop (mkF m 106 #[.val (.int (12 : Int32))] [(.int (11 : Int32)), (.int (12 : Int32))]))
  refine own_go (fun t k => XS.icmpYes X0.here hx rfl (pc0 := 106) (pc' := 113) rfl (hb hby d1_12_106) rfl (by decide) (by decide) (by decide) k) ?_
  show own_G p.tables e below s _ _ _ (s₁.setTop (mkF m 113 #[.val (.int (12 : Int32))] []))
  obtain ⟨T13, X13, e13, st13⟩ := getS X0 hx hZ hown (host := "") (hw _ (List.mem_of_getElem? (i := 37) rfl)) Via.refl e0 S1 (g := (mkF m 113 #[.val (.int (12 : Int32))] [])) rfl (hb hby d1_12_113)
  refine own_go st13 ?_
  show own_G p.tables e below s _ _ _ (T13.setTop (mkF m 116 #[.val (.int (12 : Int32))] [(.ref a1)]))
  exact own_retA X13 hx hlk Bd.returns rfl rfl (hb hby d1_12_116) (by rw [e13]; exact ⟨rfl, N0, rfl⟩) (by decide) (by decide)
theorem d2_0 : decode prog_46_method_8_code 0 = .ok (.aload_n 0, 1) := by decide +kernel
theorem d2_1 : decode prog_46_method_8_code 1 = .ok (.getstatic 22, 3) := by decide +kernel
theorem d2_4 : decode prog_46_method_8_code 4 = .ok (.if_acmp .eq 24, 3) := by decide +kernel
theorem d2_28 : decode prog_46_method_8_code 28 = .ok (.iconst 1, 1) := by decide +kernel
theorem d2_29 : decode prog_46_method_8_code 29 = .ok (.goto 4, 3) := by decide +kernel
theorem d2_33 : decode prog_46_method_8_code 33 = .ok (.ireturn, 1) := by decide +kernel
theorem d2_7 : decode prog_46_method_8_code 7 = .ok (.aload_n 0, 1) := by decide +kernel
theorem d2_8 : decode prog_46_method_8_code 8 = .ok (.getstatic 25, 3) := by decide +kernel
theorem d2_11 : decode prog_46_method_8_code 11 = .ok (.if_acmp .eq 17, 3) := by decide +kernel
theorem d2_14 : decode prog_46_method_8_code 14 = .ok (.aload_n 0, 1) := by decide +kernel
theorem d2_15 : decode prog_46_method_8_code 15 = .ok (.getstatic 28, 3) := by decide +kernel
theorem d2_18 : decode prog_46_method_8_code 18 = .ok (.if_acmp .eq 10, 3) := by decide +kernel
theorem d2_21 : decode prog_46_method_8_code 21 = .ok (.aload_n 0, 1) := by decide +kernel
theorem d2_22 : decode prog_46_method_8_code 22 = .ok (.getstatic 31, 3) := by decide +kernel
theorem d2_25 : decode prog_46_method_8_code 25 = .ok (.if_acmp .ne 7, 3) := by decide +kernel
theorem d2_32 : decode prog_46_method_8_code 32 = .ok (.iconst 0, 1) := by decide +kernel
theorem pn_com_example_kaava_kaava_model_Facet : plainName "com/example/kaava/kaava/model/Facet" = true := by first | (simp [plainName, overriddenIn]; done) | decide +kernel
theorem ef_2 (m : MethodId) (x0 : Addr) : entryFrame m #[(.ref x0)] 1 = mkF m 0 #[.val (.ref x0)] [] := by first | (simp [entryFrame, mkF, argsToLocals, Value.category]; done) | rfl
def Q2 (Z : State) (a1 m6 m7 m8 m9 : Addr) (r : Int32) (h0 : Heap) (n0 : Nat) (v : Option Value) (h : Heap) (L : List Loc) : Prop := v = some (.int r) ∧ Fr n0 L ∧ h = h0
set_option maxRecDepth 65536 in
set_option maxHeartbeats 40000000 in
theorem rm2 (l : Launch) (Z : State) (a0 : Array Value) (hw : ∀ d ∈ tables_1, d.before a0 Z = true) (ws : List Jvm.Cond) (a1 m6 m7 m8 m9 : Addr) (r : Int32) (h0 : Heap) (n0 : Nat) (Z0 : n0 ≤ h0.size) (S6 : Sta Z h0 "com/example/kaava/kaava/model/Facet" "MAX_INCLUSIVE" "Lcom/example/kaava/kaava/model/Facet;" (.ref m6)) (S7 : Sta Z h0 "com/example/kaava/kaava/model/Facet" "MAX_EXCLUSIVE" "Lcom/example/kaava/kaava/model/Facet;" (.ref m7)) (S8 : Sta Z h0 "com/example/kaava/kaava/model/Facet" "MIN_INCLUSIVE" "Lcom/example/kaava/kaava/model/Facet;" (.ref m8)) (S9 : Sta Z h0 "com/example/kaava/kaava/model/Facet" "MIN_EXCLUSIVE" "Lcom/example/kaava/kaava/model/Facet;" (.ref m9)) (hr : (if (.ref a1 : Value) = .ref m6 ∨ (.ref a1 : Value) = .ref m7 ∨ (.ref a1 : Value) = .ref m8 ∨ (.ref a1 : Value) = .ref m9 then (1 : Int32) else 0) = r) :
    MetFree l (⟨"com/example/kaava/kaava/model/Facet", "isBound", "()Z"⟩ : MethodName) (head1 (Jvm.Cond.code (⟨"com/example/kaava/kaava/model/Facet", "isBound", "()Z"⟩ : MethodName) prog_46_method_8_code 1 (some .boolean) :: ws) ({ frames := 0, cells := 0, slots := 0, locals := 0 } : Room)) (fun a U => a = #[(.ref a1)] ∧ Z.Warmed39 U.vm ∧ U.heap = h0) (fun _ _ _ _ _ => True) (fun _ U o U' => ∃ v L, o = .returned v ∧ Q2 Z a1 m6 m7 m8 m9 r h0 n0 v U'.heap L ∧ FrameEnd U o U' L ({ frames := 0, cells := 0, slots := 0, locals := 0 } : Room).cells ({ frames := 0, cells := 0, slots := 0, locals := 0 } : Room).slots) := by
  refine MetFree.of_bodySF (plainFor_of_name pn_com_example_kaava_kaava_model_Facet) hisR ?_
  intro p e s m args below meth c s₁ Bd hml0 hP hK
  obtain ⟨rfl, hZ, hh⟩ := hP
  have hx := Bd.exec
  have hby := Bd.bytes
  have hlk : meth.locks = false := BodyLoose.notSynchronized Bd
  have hml : c.maxLocals = 1 := hml0
  have hown : s.vm.findClass "com/example/kaava/kaava/model/Facet" = some m.cls := findClass_of_methodNamed Bd.named
  have hnm := (name_of_methodNamed Bd.named Bd.method).1
  have X0 : Stand p l e ({ frames := 0, cells := 0, slots := 0, locals := 0 } : Room) s m #[(.ref a1)] below meth c s₁ [] 0 0 := Stand.of_body Bd
  have e0 : s₁.heap = h0 := by rw [← hh, Bd.state]; rfl
  have N0 := Fr.nil n0
  show own_G p.tables e below s (Q2 Z a1 m6 m7 m8 m9 r h0 n0) ({ frames := 0, cells := 0, slots := 0, locals := 0 } : Room).cells ({ frames := 0, cells := 0, slots := 0, locals := 0 } : Room).slots (s₁.setTop (entryFrame m #[(.ref a1)] 1))
  refine own_go (fun t k => castTop (ef_2 m a1) k) ?_
  show own_G p.tables e below s _ _ _ (s₁.setTop (mkF m 0 #[.val (.ref a1)] []))
  refine own_go (fun t k => XS.aloadN X0.here hx rfl (hb hby d2_0) rfl rfl k) ?_
  show own_G p.tables e below s _ _ _ (s₁.setTop (mkF m 1 #[.val (.ref a1)] [(.ref a1)]))
  obtain ⟨T14, X14, e14, st14⟩ := getS X0 hx hZ hown (host := "") (hw _ (List.mem_of_getElem? (i := 13) rfl)) Via.refl e0 S6 (g := (mkF m 1 #[.val (.ref a1)] [(.ref a1)])) rfl (hb hby d2_1)
  refine own_go st14 ?_
  show own_G p.tables e below s _ _ _ (T14.setTop (mkF m 4 #[.val (.ref a1)] [(.ref m6), (.ref a1)]))
  by_cases hq0 : ((.ref a1) : Value) = (.ref m6)
  · refine own_go (fun t k => Jvm.Free.XT.acmpYes X14.here hx rfl (pc0 := 4) (pc' := 28) rfl (hb hby d2_4) rfl rfl rfl (Jvm.Free.XT.aa_eq_t hq0) (by decide) (by decide) k) ?_
    show own_G p.tables e below s _ _ _ (T14.setTop (mkF m 28 #[.val (.ref a1)] []))
    refine own_go (fun t k => XS.iconst X14.here hx rfl (hb hby d2_28) k) ?_
    show own_G p.tables e below s _ _ _ (T14.setTop (mkF m 29 #[.val (.ref a1)] [(.int (1 : Int32))]))
    refine own_go (fun t k => XS.goto X14.here hx rfl (pc0 := 29) (pc' := 33) rfl (hb hby d2_29) (by decide) (by decide) k) ?_
    show own_G p.tables e below s _ _ _ (T14.setTop (mkF m 33 #[.val (.ref a1)] [(.int (1 : Int32))]))
    exact own_retN X14 hx hlk (t := .boolean) (z' := (1 : Int32)) Bd.returns (by simp) (hb hby d2_33) (rfl) (by rw [e14]; exact ⟨by rw [← hr, if_pos (Or.inl hq0)], N0, rfl⟩) (by decide) (by decide)
  · refine own_go (fun t k => Jvm.Free.XT.acmpNo X14.here hx rfl (hb hby d2_4) rfl rfl rfl (Jvm.Free.XT.aa_eq_f hq0) k) ?_
    show own_G p.tables e below s _ _ _ (T14.setTop (mkF m 7 #[.val (.ref a1)] []))
    refine own_go (fun t k => XS.aloadN X14.here hx rfl (hb hby d2_7) rfl rfl k) ?_
    show own_G p.tables e below s _ _ _ (T14.setTop (mkF m 8 #[.val (.ref a1)] [(.ref a1)]))
    obtain ⟨T15, X15, e15, st15⟩ := getS X14 hx hZ hown (host := "") (hw _ (List.mem_of_getElem? (i := 15) rfl)) Via.refl e14 S7 (g := (mkF m 8 #[.val (.ref a1)] [(.ref a1)])) rfl (hb hby d2_8)
    refine own_go st15 ?_
    show own_G p.tables e below s _ _ _ (T15.setTop (mkF m 11 #[.val (.ref a1)] [(.ref m7), (.ref a1)]))
    by_cases hq1 : ((.ref a1) : Value) = (.ref m7)
    · refine own_go (fun t k => Jvm.Free.XT.acmpYes X15.here hx rfl (pc0 := 11) (pc' := 28) rfl (hb hby d2_11) rfl rfl rfl (Jvm.Free.XT.aa_eq_t hq1) (by decide) (by decide) k) ?_
      show own_G p.tables e below s _ _ _ (T15.setTop (mkF m 28 #[.val (.ref a1)] []))
      refine own_go (fun t k => XS.iconst X15.here hx rfl (hb hby d2_28) k) ?_
      show own_G p.tables e below s _ _ _ (T15.setTop (mkF m 29 #[.val (.ref a1)] [(.int (1 : Int32))]))
      refine own_go (fun t k => XS.goto X15.here hx rfl (pc0 := 29) (pc' := 33) rfl (hb hby d2_29) (by decide) (by decide) k) ?_
      show own_G p.tables e below s _ _ _ (T15.setTop (mkF m 33 #[.val (.ref a1)] [(.int (1 : Int32))]))
      exact own_retN X15 hx hlk (t := .boolean) (z' := (1 : Int32)) Bd.returns (by simp) (hb hby d2_33) (rfl) (by rw [e15]; exact ⟨by rw [← hr, if_pos (Or.inr (Or.inl hq1))], N0, rfl⟩) (by decide) (by decide)
    · refine own_go (fun t k => Jvm.Free.XT.acmpNo X15.here hx rfl (hb hby d2_11) rfl rfl rfl (Jvm.Free.XT.aa_eq_f hq1) k) ?_
      show own_G p.tables e below s _ _ _ (T15.setTop (mkF m 14 #[.val (.ref a1)] []))
      refine own_go (fun t k => XS.aloadN X15.here hx rfl (hb hby d2_14) rfl rfl k) ?_
      show own_G p.tables e below s _ _ _ (T15.setTop (mkF m 15 #[.val (.ref a1)] [(.ref a1)]))
      obtain ⟨T16, X16, e16, st16⟩ := getS X15 hx hZ hown (host := "") (hw _ (List.mem_of_getElem? (i := 17) rfl)) Via.refl e15 S8 (g := (mkF m 15 #[.val (.ref a1)] [(.ref a1)])) rfl (hb hby d2_15)
      refine own_go st16 ?_
      show own_G p.tables e below s _ _ _ (T16.setTop (mkF m 18 #[.val (.ref a1)] [(.ref m8), (.ref a1)]))
      by_cases hq2 : ((.ref a1) : Value) = (.ref m8)
      · refine own_go (fun t k => Jvm.Free.XT.acmpYes X16.here hx rfl (pc0 := 18) (pc' := 28) rfl (hb hby d2_18) rfl rfl rfl (Jvm.Free.XT.aa_eq_t hq2) (by decide) (by decide) k) ?_
        show own_G p.tables e below s _ _ _ (T16.setTop (mkF m 28 #[.val (.ref a1)] []))
        refine own_go (fun t k => XS.iconst X16.here hx rfl (hb hby d2_28) k) ?_
        show own_G p.tables e below s _ _ _ (T16.setTop (mkF m 29 #[.val (.ref a1)] [(.int (1 : Int32))]))
        refine own_go (fun t k => XS.goto X16.here hx rfl (pc0 := 29) (pc' := 33) rfl (hb hby d2_29) (by decide) (by decide) k) ?_
        show own_G p.tables e below s _ _ _ (T16.setTop (mkF m 33 #[.val (.ref a1)] [(.int (1 : Int32))]))
        exact own_retN X16 hx hlk (t := .boolean) (z' := (1 : Int32)) Bd.returns (by simp) (hb hby d2_33) (rfl) (by rw [e16]; exact ⟨by rw [← hr, if_pos (Or.inr (Or.inr (Or.inl hq2)))], N0, rfl⟩) (by decide) (by decide)
      · refine own_go (fun t k => Jvm.Free.XT.acmpNo X16.here hx rfl (hb hby d2_18) rfl rfl rfl (Jvm.Free.XT.aa_eq_f hq2) k) ?_
        show own_G p.tables e below s _ _ _ (T16.setTop (mkF m 21 #[.val (.ref a1)] []))
        refine own_go (fun t k => XS.aloadN X16.here hx rfl (hb hby d2_21) rfl rfl k) ?_
        show own_G p.tables e below s _ _ _ (T16.setTop (mkF m 22 #[.val (.ref a1)] [(.ref a1)]))
        obtain ⟨T17, X17, e17, st17⟩ := getS X16 hx hZ hown (host := "") (hw _ (List.mem_of_getElem? (i := 19) rfl)) Via.refl e16 S9 (g := (mkF m 22 #[.val (.ref a1)] [(.ref a1)])) rfl (hb hby d2_22)
        refine own_go st17 ?_
        show own_G p.tables e below s _ _ _ (T17.setTop (mkF m 25 #[.val (.ref a1)] [(.ref m9), (.ref a1)]))
        by_cases hq3 : ((.ref a1) : Value) = (.ref m9)
        · refine own_go (fun t k => Jvm.Free.XT.acmpNo X17.here hx rfl (hb hby d2_25) rfl rfl rfl (Jvm.Free.XT.aa_ne_f hq3) k) ?_
          show own_G p.tables e below s _ _ _ (T17.setTop (mkF m 28 #[.val (.ref a1)] []))
          refine own_go (fun t k => XS.iconst X17.here hx rfl (hb hby d2_28) k) ?_
          show own_G p.tables e below s _ _ _ (T17.setTop (mkF m 29 #[.val (.ref a1)] [(.int (1 : Int32))]))
          refine own_go (fun t k => XS.goto X17.here hx rfl (pc0 := 29) (pc' := 33) rfl (hb hby d2_29) (by decide) (by decide) k) ?_
          show own_G p.tables e below s _ _ _ (T17.setTop (mkF m 33 #[.val (.ref a1)] [(.int (1 : Int32))]))
          exact own_retN X17 hx hlk (t := .boolean) (z' := (1 : Int32)) Bd.returns (by simp) (hb hby d2_33) (rfl) (by rw [e17]; exact ⟨by rw [← hr, if_pos (Or.inr (Or.inr (Or.inr (hq3))))], N0, rfl⟩) (by decide) (by decide)
        · refine own_go (fun t k => Jvm.Free.XT.acmpYes X17.here hx rfl (pc0 := 25) (pc' := 32) rfl (hb hby d2_25) rfl rfl rfl (Jvm.Free.XT.aa_ne_t hq3) (by decide) (by decide) k) ?_
          show own_G p.tables e below s _ _ _ (T17.setTop (mkF m 32 #[.val (.ref a1)] []))
          refine own_go (fun t k => XS.iconst X17.here hx rfl (hb hby d2_32) k) ?_
          show own_G p.tables e below s _ _ _ (T17.setTop (mkF m 33 #[.val (.ref a1)] [(.int (0 : Int32))]))
          exact own_retN X17 hx hlk (t := .boolean) (z' := (0 : Int32)) Bd.returns (by simp) (hb hby d2_33) (rfl) (by rw [e17]; exact ⟨by rw [← hr, if_neg (fun q => q.elim hq0 fun q => q.elim hq1 fun q => q.elim hq2 hq3)], N0, rfl⟩) (by decide) (by decide)
theorem pd__I_Lcom_example_kaava_kaava_model_Facet_ : parseMethodDescriptor "(I)Lcom/example/kaava/kaava/model/Facet;" = some ⟨[.int], some (.object "com/example/kaava/kaava/model/Facet")⟩ := by decide +kernel
theorem pd___Z : parseMethodDescriptor "()Z" = some ⟨[], some .boolean⟩ := by decide +kernel
theorem ef_0 (m : MethodId) (x0 : Int32) : entryFrame m #[(.int x0)] maxLocals = mkF m 0 #[.val (.int x0), .unset, .unset, .unset] [] := by first | (simp [entryFrame, mkF, argsToLocals, Value.category, maxLocals]; done) | rfl
def Q0 (Z : State) (p1 : Int32) (h0 : Heap) (n0 : Nat) (v : Option Value) (h : Heap) (L : List Loc) : Prop := v = some (.int 1) ∧ Fr n0 L
set_option maxRecDepth 65536 in
set_option maxHeartbeats 40000000 in
theorem rm0 (l : Launch) (Z : State) (a0 : Array Value) (hw : ∀ d ∈ tables_1, d.before a0 Z = true) (ws : List Jvm.Cond) (p1 : Int32) (h0 : Heap) (n0 : Nat) (Z0 : n0 ≤ h0.size) (c0 : Addr) (K0 : own_K Z h0 "LENGTH" c0 (0 : Int32)) (c1 : Addr) (K1 : own_K Z h0 "MIN_LENGTH" c1 (1 : Int32)) (c2 : Addr) (K2 : own_K Z h0 "MAX_LENGTH" c2 (2 : Int32)) (c3 : Addr) (K3 : own_K Z h0 "PATTERN" c3 (3 : Int32)) (c4 : Addr) (K4 : own_K Z h0 "ENUMERATION" c4 (4 : Int32)) (c5 : Addr) (K5 : own_K Z h0 "WHITE_SPACE" c5 (5 : Int32)) (c6 : Addr) (K6 : own_K Z h0 "MAX_INCLUSIVE" c6 (6 : Int32)) (c7 : Addr) (K7 : own_K Z h0 "MAX_EXCLUSIVE" c7 (7 : Int32)) (c8 : Addr) (K8 : own_K Z h0 "MIN_INCLUSIVE" c8 (8 : Int32)) (c9 : Addr) (K9 : own_K Z h0 "MIN_EXCLUSIVE" c9 (9 : Int32)) (c10 : Addr) (K10 : own_K Z h0 "TOTAL_DIGITS" c10 (10 : Int32)) (c11 : Addr) (K11 : own_K Z h0 "FRACTION_DIGITS" c11 (11 : Int32)) (c12 : Addr) (K12 : own_K Z h0 "EXPLICIT_TIMEZONE" c12 (12 : Int32)) :
    MetFree l x (head1 (Jvm.Cond.code x code maxLocals ret :: ws) room_1) (fun a U => a = #[(.int p1)] ∧ Z.Warmed39 U.vm ∧ U.heap = h0) (fun _ _ _ _ _ => True) (fun _ U o U' => ∃ v L, o = .returned v ∧ Q0 Z p1 h0 n0 v U'.heap L ∧ FrameEnd U o U' L room_1.cells room_1.slots) := by
  refine MetFree.of_bodySF (plainFor_of_name pn_com_example_kaava_kaava_model_FacetIsBoundPinLaw) hisR ?_
  intro p e s m args below meth c s₁ Bd hml0 hP hK
  obtain ⟨rfl, hZ, hh⟩ := hP
  have hx := Bd.exec
  have hby := Bd.bytes
  have hlk : meth.locks = false := BodyLoose.notSynchronized Bd
  have hml : c.maxLocals = 4 := hml0
  have hown : s.vm.findClass "com/example/kaava/kaava/model/FacetIsBoundPinLaw" = some m.cls := findClass_of_methodNamed Bd.named
  have hnm := (name_of_methodNamed Bd.named Bd.method).1
  have X0 : Stand p l e room_1 s m #[(.int p1)] below meth c s₁ [] 0 0 := Stand.of_body Bd
  have e0 : s₁.heap = h0 := by rw [← hh, Bd.state]; rfl
  have N0 := Fr.nil n0
  show own_G p.tables e below s (Q0 Z p1 h0 n0) room_1.cells room_1.slots (s₁.setTop (entryFrame m #[(.int p1)] maxLocals))
  refine own_go (fun t k => castTop (ef_0 m p1) k) ?_
  show own_G p.tables e below s _ _ _ (s₁.setTop (mkF m 0 #[.val (.int p1), .unset, .unset, .unset] []))
  refine own_go (fun t k => XS.iloadN X0.here hx rfl (hb hby at_0) rfl k) ?_
  show own_G p.tables e below s _ _ _ (s₁.setTop (mkF m 1 #[.val (.int p1), .unset, .unset, .unset] [(.int p1)]))
  refine own_go (fun t k => X0.ldcInt hx hown (mvT hZ (hw _ (List.mem_of_getElem? (i := 0) rfl))) (g := (mkF m 1 #[.val (.int p1), .unset, .unset, .unset] [(.int p1)])) rfl (hb hby at_1) _ k) ?_
  show own_G p.tables e below s _ _ _ (s₁.setTop (mkF m 3 #[.val (.int p1), .unset, .unset, .unset] [(.int (2147483647 : Int32)), (.int p1)]))
  refine own_go (fun t k => XS.iand X0.here hx rfl (hb hby at_3) rfl k) ?_
  show own_G p.tables e below s _ _ _ (s₁.setTop (mkF m 4 #[.val (.int p1), .unset, .unset, .unset] [(.int (p1 &&& (2147483647 : Int32)))]))
  refine own_go (fun t k => XS.bipush X0.here hx rfl (hb hby at_4) k) ?_
  show own_G p.tables e below s _ _ _ (s₁.setTop (mkF m 6 #[.val (.int p1), .unset, .unset, .unset] [(.int (13 : Int32)), (.int (p1 &&& (2147483647 : Int32)))]))
  refine own_go (fun t k => iremM X0 hx rfl (hb hby at_6) rfl (by decide) k) ?_
  show own_G p.tables e below s _ _ _ (s₁.setTop (mkF m 7 #[.val (.int p1), .unset, .unset, .unset] [(.int ((p1 &&& (2147483647 : Int32)) % (13 : Int32)))]))
  rcases own_pick p1 with hk | hk | hk | hk | hk | hk | hk | hk | hk | hk | hk | hk | hk
  · rw [hk]
    show own_G p.tables e below s _ _ _ (s₁.setTop (mkF m 7 #[.val (.int p1), .unset, .unset, .unset] [(.int (0 : Int32))]))
    refine own_go (fun t k => XS.istoreN X0.here hx rfl (hb hby at_7) rfl (l' := #[.val (.int p1), .val (.int (0 : Int32)), .unset, .unset]) rfl k) ?_
    show own_G p.tables e below s _ _ _ (s₁.setTop (mkF m 8 #[.val (.int p1), .val (.int (0 : Int32)), .unset, .unset] []))
    refine own_go (fun t k => XS.iloadN X0.here hx rfl (hb hby at_8) rfl k) ?_
    show own_G p.tables e below s _ _ _ (s₁.setTop (mkF m 9 #[.val (.int p1), .val (.int (0 : Int32)), .unset, .unset] [(.int (0 : Int32))]))
    obtain ⟨_, _, ⟨T18, L18, k18, n18⟩, -, X18, ⟨Lc18, hQ18, l18, y18, z18⟩, st18⟩ := Jvm.LawKit.callS X0 hx (y := (⟨"com/example/kaava/kaava/model/FacetIsBoundPinLaw", "facetAt", "(I)Lcom/example/kaava/kaava/model/Facet;"⟩ : MethodName)) hown (mvT hZ (hw _ (List.mem_of_getElem? (i := 1) rfl))) (mvT hZ (hw _ (List.mem_of_getElem? (i := 2) rfl))) (mvT hZ (hw _ (List.mem_of_getElem? (i := 3) rfl))) (mvT hZ (hw _ (List.mem_of_getElem? (i := 4) rfl))) (by decide) (backOf (W := 0) (rm1_0 l Z a0 hw [] c0 h0 n0 Z0 K0.1) hZ (hw _ (List.mem_of_getElem? (i := 4) rfl)) (hw _ (List.mem_of_getElem? (i := 3) rfl)) (by decide) (by decide)) (g := (mkF m 9 #[.val (.int p1), .val (.int (0 : Int32)), .unset, .unset] [(.int (0 : Int32))])) rfl (by rw [hml]; rfl) (argsL := [(.int (0 : Int32))]) (rest := []) (lenOf pd__I_Lcom_example_kaava_kaava_model_Facet_ rfl) rfl (by show 2 * 0 + _ ≤ _; exact Nat.le_of_eq rfl) (hb hby at_9) (fun _ _ => ⟨rfl, e0, (by decide : 0 + 0 ≤ _), (by decide : 0 + 0 ≤ _)⟩)
    dsimp only [Pt.U, Pt.locs, Pt.cells, Pt.slots] at X18 l18 y18 z18 st18 hQ18
    subst l18 y18 z18
    obtain ⟨rfl, N18q, hh18⟩ := hQ18
    have N18 := Fr.app N0 N18q
    refine own_go st18 ?_
    show own_G p.tables e below s _ _ _ (T18.setTop (mkF m 12 #[.val (.int p1), .val (.int (0 : Int32)), .unset, .unset] [(.ref c0)]))
    refine own_go (fun t k => XS.astoreN X18.here hx rfl (hb hby at_12) rfl rfl (l' := #[.val (.int p1), .val (.int (0 : Int32)), .val (.ref c0), .unset]) rfl k) ?_
    show own_G p.tables e below s _ _ _ (T18.setTop (mkF m 13 #[.val (.int p1), .val (.int (0 : Int32)), .val (.ref c0), .unset] []))
    refine own_go (fun t k => XS.iloadN X18.here hx rfl (hb hby at_13) rfl k) ?_
    show own_G p.tables e below s _ _ _ (T18.setTop (mkF m 14 #[.val (.int p1), .val (.int (0 : Int32)), .val (.ref c0), .unset] [(.int (0 : Int32))]))
    refine own_go (fun t k => XS.bipush X18.here hx rfl (hb hby at_14) k) ?_
    show own_G p.tables e below s _ _ _ (T18.setTop (mkF m 16 #[.val (.int p1), .val (.int (0 : Int32)), .val (.ref c0), .unset] [(.int (6 : Int32)), (.int (0 : Int32))]))
    refine own_go (fun t k => XS.icmpYes X18.here hx rfl (pc0 := 16) (pc' := 29) rfl (hb hby at_16) rfl (by decide) (by decide) (by decide) k) ?_
    show own_G p.tables e below s _ _ _ (T18.setTop (mkF m 29 #[.val (.int p1), .val (.int (0 : Int32)), .val (.ref c0), .unset] []))
    refine own_go (fun t k => XS.iconst X18.here hx rfl (hb hby at_29) k) ?_
    show own_G p.tables e below s _ _ _ (T18.setTop (mkF m 30 #[.val (.int p1), .val (.int (0 : Int32)), .val (.ref c0), .unset] [(.int (0 : Int32))]))
    refine own_go (fun t k => XS.istoreN X18.here hx rfl (hb hby at_30) rfl (l' := #[.val (.int p1), .val (.int (0 : Int32)), .val (.ref c0), .val (.int (0 : Int32))]) rfl k) ?_
    show own_G p.tables e below s _ _ _ (T18.setTop (mkF m 31 #[.val (.int p1), .val (.int (0 : Int32)), .val (.ref c0), .val (.int (0 : Int32))] []))
    refine own_go (fun t k => XS.aloadN X18.here hx rfl (hb hby at_31) rfl rfl k) ?_
    show own_G p.tables e below s _ _ _ (T18.setTop (mkF m 32 #[.val (.int p1), .val (.int (0 : Int32)), .val (.ref c0), .val (.int (0 : Int32))] [(.ref c0)]))
    obtain ⟨cq19, kq19, q19a, q19b, q19c⟩ := isOf hZ hh18 K0.2.1
    obtain ⟨_, _, ⟨T19, L19, k19, n19⟩, -, X19, ⟨Lc19, hQ19, l19, y19, z19⟩, st19⟩ := X18.virtualBack hx (y := (⟨"com/example/kaava/kaava/model/Facet", "isBound", "()Z"⟩ : MethodName)) (z := (⟨"com/example/kaava/kaava/model/Facet", "isBound", "()Z"⟩ : MethodName)) hown (mvT hZ (hw _ (List.mem_of_getElem? (i := 8) rfl))) (mvT hZ (hw _ (List.mem_of_getElem? (i := 9) rfl))) (notFace_of_selects (args := #[]) (mvT hZ (hw _ (List.mem_of_getElem? (i := 11) rfl)))) (mvT hZ (hw _ (List.mem_of_getElem? (i := 11) rfl))) (mvT hZ (hw _ (List.mem_of_getElem? (i := 10) rfl))) (by decide) (backOf (W := 0) (rm2 l Z a0 hw [] c0 c6 c7 c8 c9 (0 : Int32) h0 n0 Z0 K6.1 K7.1 K8.1 K9.1 (if_neg (fun q => q.elim (own_ne K0 K6 (by decide)) fun q => q.elim (own_ne K0 K7 (by decide)) fun q => q.elim (own_ne K0 K8 (by decide)) (own_ne K0 K9 (by decide))))) hZ (hw _ (List.mem_of_getElem? (i := 12) rfl)) (hw _ (List.mem_of_getElem? (i := 6) rfl)) (by decide) (by decide)) q19a q19c (g := (mkF m 32 #[.val (.int p1), .val (.int (0 : Int32)), .val (.ref c0), .val (.int (0 : Int32))] [(.ref c0)])) rfl (by rw [hml]; rfl) (Steps.refl _) (argsL := []) (rest := []) (lenOf pd___Z rfl) rfl (by show 2 * 0 + _ ≤ _; exact Nat.le_of_eq rfl) (hb hby at_32) (fun _ _ => ⟨rfl, hh18, (by decide : 0 + 0 ≤ _), (by decide : 0 + 0 ≤ _)⟩)
    dsimp only [Pt.U, Pt.locs, Pt.cells, Pt.slots] at X19 l19 y19 z19 st19 hQ19
    subst l19 y19 z19
    obtain ⟨rfl, N19q, hh19⟩ := hQ19
    have N19 := Fr.app N18 N19q
    refine own_go (fun t k => st19.trans k) ?_
    show own_G p.tables e below s _ _ _ (T19.setTop (mkF m 35 #[.val (.int p1), .val (.int (0 : Int32)), .val (.ref c0), .val (.int (0 : Int32))] [(.int (0 : Int32))]))
    refine own_go (fun t k => XS.iloadN X19.here hx rfl (hb hby at_35) rfl k) ?_
    show own_G p.tables e below s _ _ _ (T19.setTop (mkF m 36 #[.val (.int p1), .val (.int (0 : Int32)), .val (.ref c0), .val (.int (0 : Int32))] [(.int (0 : Int32)), (.int (0 : Int32))]))
    refine own_go (fun t k => XS.icmpNo X19.here hx rfl (hb hby at_36) rfl (by decide) k) ?_
    show own_G p.tables e below s _ _ _ (T19.setTop (mkF m 39 #[.val (.int p1), .val (.int (0 : Int32)), .val (.ref c0), .val (.int (0 : Int32))] []))
    refine own_go (fun t k => XS.iconst X19.here hx rfl (hb hby at_39) k) ?_
    show own_G p.tables e below s _ _ _ (T19.setTop (mkF m 40 #[.val (.int p1), .val (.int (0 : Int32)), .val (.ref c0), .val (.int (0 : Int32))] [(.int (1 : Int32))]))
    refine own_go (fun t k => XS.goto X19.here hx rfl (pc0 := 40) (pc' := 44) rfl (hb hby at_40) (by decide) (by decide) k) ?_
    show own_G p.tables e below s _ _ _ (T19.setTop (mkF m 44 #[.val (.int p1), .val (.int (0 : Int32)), .val (.ref c0), .val (.int (0 : Int32))] [(.int (1 : Int32))]))
    exact own_retN X19 hx hlk (t := .boolean) (z' := (1 : Int32)) Bd.returns (by simp) (hb hby at_44) (rfl) (by rw [hh19]; exact ⟨rfl, N19⟩) (by decide) (by decide)
  · rw [hk]
    show own_G p.tables e below s _ _ _ (s₁.setTop (mkF m 7 #[.val (.int p1), .unset, .unset, .unset] [(.int (1 : Int32))]))
    refine own_go (fun t k => XS.istoreN X0.here hx rfl (hb hby at_7) rfl (l' := #[.val (.int p1), .val (.int (1 : Int32)), .unset, .unset]) rfl k) ?_
    show own_G p.tables e below s _ _ _ (s₁.setTop (mkF m 8 #[.val (.int p1), .val (.int (1 : Int32)), .unset, .unset] []))
    refine own_go (fun t k => XS.iloadN X0.here hx rfl (hb hby at_8) rfl k) ?_
    show own_G p.tables e below s _ _ _ (s₁.setTop (mkF m 9 #[.val (.int p1), .val (.int (1 : Int32)), .unset, .unset] [(.int (1 : Int32))]))
    obtain ⟨_, _, ⟨T20, L20, k20, n20⟩, -, X20, ⟨Lc20, hQ20, l20, y20, z20⟩, st20⟩ := Jvm.LawKit.callS X0 hx (y := (⟨"com/example/kaava/kaava/model/FacetIsBoundPinLaw", "facetAt", "(I)Lcom/example/kaava/kaava/model/Facet;"⟩ : MethodName)) hown (mvT hZ (hw _ (List.mem_of_getElem? (i := 1) rfl))) (mvT hZ (hw _ (List.mem_of_getElem? (i := 2) rfl))) (mvT hZ (hw _ (List.mem_of_getElem? (i := 3) rfl))) (mvT hZ (hw _ (List.mem_of_getElem? (i := 4) rfl))) (by decide) (backOf (W := 0) (rm1_1 l Z a0 hw [] c1 h0 n0 Z0 K1.1) hZ (hw _ (List.mem_of_getElem? (i := 4) rfl)) (hw _ (List.mem_of_getElem? (i := 3) rfl)) (by decide) (by decide)) (g := (mkF m 9 #[.val (.int p1), .val (.int (1 : Int32)), .unset, .unset] [(.int (1 : Int32))])) rfl (by rw [hml]; rfl) (argsL := [(.int (1 : Int32))]) (rest := []) (lenOf pd__I_Lcom_example_kaava_kaava_model_Facet_ rfl) rfl (by show 2 * 0 + _ ≤ _; exact Nat.le_of_eq rfl) (hb hby at_9) (fun _ _ => ⟨rfl, e0, (by decide : 0 + 0 ≤ _), (by decide : 0 + 0 ≤ _)⟩)
    dsimp only [Pt.U, Pt.locs, Pt.cells, Pt.slots] at X20 l20 y20 z20 st20 hQ20
    subst l20 y20 z20
    obtain ⟨rfl, N20q, hh20⟩ := hQ20
    have N20 := Fr.app N0 N20q
    refine own_go st20 ?_
    show own_G p.tables e below s _ _ _ (T20.setTop (mkF m 12 #[.val (.int p1), .val (.int (1 : Int32)), .unset, .unset] [(.ref c1)]))
    refine own_go (fun t k => XS.astoreN X20.here hx rfl (hb hby at_12) rfl rfl (l' := #[.val (.int p1), .val (.int (1 : Int32)), .val (.ref c1), .unset]) rfl k) ?_
    show own_G p.tables e below s _ _ _ (T20.setTop (mkF m 13 #[.val (.int p1), .val (.int (1 : Int32)), .val (.ref c1), .unset] []))
    refine own_go (fun t k => XS.iloadN X20.here hx rfl (hb hby at_13) rfl k) ?_
    show own_G p.tables e below s _ _ _ (T20.setTop (mkF m 14 #[.val (.int p1), .val (.int (1 : Int32)), .val (.ref c1), .unset] [(.int (1 : Int32))]))
    refine own_go (fun t k => XS.bipush X20.here hx rfl (hb hby at_14) k) ?_
    show own_G p.tables e below s _ _ _ (T20.setTop (mkF m 16 #[.val (.int p1), .val (.int (1 : Int32)), .val (.ref c1), .unset] [(.int (6 : Int32)), (.int (1 : Int32))]))
    refine own_go (fun t k => XS.icmpYes X20.here hx rfl (pc0 := 16) (pc' := 29) rfl (hb hby at_16) rfl (by decide) (by decide) (by decide) k) ?_
    show own_G p.tables e below s _ _ _ (T20.setTop (mkF m 29 #[.val (.int p1), .val (.int (1 : Int32)), .val (.ref c1), .unset] []))
    refine own_go (fun t k => XS.iconst X20.here hx rfl (hb hby at_29) k) ?_
    show own_G p.tables e below s _ _ _ (T20.setTop (mkF m 30 #[.val (.int p1), .val (.int (1 : Int32)), .val (.ref c1), .unset] [(.int (0 : Int32))]))
    refine own_go (fun t k => XS.istoreN X20.here hx rfl (hb hby at_30) rfl (l' := #[.val (.int p1), .val (.int (1 : Int32)), .val (.ref c1), .val (.int (0 : Int32))]) rfl k) ?_
    show own_G p.tables e below s _ _ _ (T20.setTop (mkF m 31 #[.val (.int p1), .val (.int (1 : Int32)), .val (.ref c1), .val (.int (0 : Int32))] []))
    refine own_go (fun t k => XS.aloadN X20.here hx rfl (hb hby at_31) rfl rfl k) ?_
    show own_G p.tables e below s _ _ _ (T20.setTop (mkF m 32 #[.val (.int p1), .val (.int (1 : Int32)), .val (.ref c1), .val (.int (0 : Int32))] [(.ref c1)]))
    obtain ⟨cq21, kq21, q21a, q21b, q21c⟩ := isOf hZ hh20 K1.2.1
    obtain ⟨_, _, ⟨T21, L21, k21, n21⟩, -, X21, ⟨Lc21, hQ21, l21, y21, z21⟩, st21⟩ := X20.virtualBack hx (y := (⟨"com/example/kaava/kaava/model/Facet", "isBound", "()Z"⟩ : MethodName)) (z := (⟨"com/example/kaava/kaava/model/Facet", "isBound", "()Z"⟩ : MethodName)) hown (mvT hZ (hw _ (List.mem_of_getElem? (i := 8) rfl))) (mvT hZ (hw _ (List.mem_of_getElem? (i := 9) rfl))) (notFace_of_selects (args := #[]) (mvT hZ (hw _ (List.mem_of_getElem? (i := 11) rfl)))) (mvT hZ (hw _ (List.mem_of_getElem? (i := 11) rfl))) (mvT hZ (hw _ (List.mem_of_getElem? (i := 10) rfl))) (by decide) (backOf (W := 0) (rm2 l Z a0 hw [] c1 c6 c7 c8 c9 (0 : Int32) h0 n0 Z0 K6.1 K7.1 K8.1 K9.1 (if_neg (fun q => q.elim (own_ne K1 K6 (by decide)) fun q => q.elim (own_ne K1 K7 (by decide)) fun q => q.elim (own_ne K1 K8 (by decide)) (own_ne K1 K9 (by decide))))) hZ (hw _ (List.mem_of_getElem? (i := 12) rfl)) (hw _ (List.mem_of_getElem? (i := 6) rfl)) (by decide) (by decide)) q21a q21c (g := (mkF m 32 #[.val (.int p1), .val (.int (1 : Int32)), .val (.ref c1), .val (.int (0 : Int32))] [(.ref c1)])) rfl (by rw [hml]; rfl) (Steps.refl _) (argsL := []) (rest := []) (lenOf pd___Z rfl) rfl (by show 2 * 0 + _ ≤ _; exact Nat.le_of_eq rfl) (hb hby at_32) (fun _ _ => ⟨rfl, hh20, (by decide : 0 + 0 ≤ _), (by decide : 0 + 0 ≤ _)⟩)
    dsimp only [Pt.U, Pt.locs, Pt.cells, Pt.slots] at X21 l21 y21 z21 st21 hQ21
    subst l21 y21 z21
    obtain ⟨rfl, N21q, hh21⟩ := hQ21
    have N21 := Fr.app N20 N21q
    refine own_go (fun t k => st21.trans k) ?_
    show own_G p.tables e below s _ _ _ (T21.setTop (mkF m 35 #[.val (.int p1), .val (.int (1 : Int32)), .val (.ref c1), .val (.int (0 : Int32))] [(.int (0 : Int32))]))
    refine own_go (fun t k => XS.iloadN X21.here hx rfl (hb hby at_35) rfl k) ?_
    show own_G p.tables e below s _ _ _ (T21.setTop (mkF m 36 #[.val (.int p1), .val (.int (1 : Int32)), .val (.ref c1), .val (.int (0 : Int32))] [(.int (0 : Int32)), (.int (0 : Int32))]))
    refine own_go (fun t k => XS.icmpNo X21.here hx rfl (hb hby at_36) rfl (by decide) k) ?_
    show own_G p.tables e below s _ _ _ (T21.setTop (mkF m 39 #[.val (.int p1), .val (.int (1 : Int32)), .val (.ref c1), .val (.int (0 : Int32))] []))
    refine own_go (fun t k => XS.iconst X21.here hx rfl (hb hby at_39) k) ?_
    show own_G p.tables e below s _ _ _ (T21.setTop (mkF m 40 #[.val (.int p1), .val (.int (1 : Int32)), .val (.ref c1), .val (.int (0 : Int32))] [(.int (1 : Int32))]))
    refine own_go (fun t k => XS.goto X21.here hx rfl (pc0 := 40) (pc' := 44) rfl (hb hby at_40) (by decide) (by decide) k) ?_
    show own_G p.tables e below s _ _ _ (T21.setTop (mkF m 44 #[.val (.int p1), .val (.int (1 : Int32)), .val (.ref c1), .val (.int (0 : Int32))] [(.int (1 : Int32))]))
    exact own_retN X21 hx hlk (t := .boolean) (z' := (1 : Int32)) Bd.returns (by simp) (hb hby at_44) (rfl) (by rw [hh21]; exact ⟨rfl, N21⟩) (by decide) (by decide)
  · rw [hk]
    show own_G p.tables e below s _ _ _ (s₁.setTop (mkF m 7 #[.val (.int p1), .unset, .unset, .unset] [(.int (2 : Int32))]))
    refine own_go (fun t k => XS.istoreN X0.here hx rfl (hb hby at_7) rfl (l' := #[.val (.int p1), .val (.int (2 : Int32)), .unset, .unset]) rfl k) ?_
    show own_G p.tables e below s _ _ _ (s₁.setTop (mkF m 8 #[.val (.int p1), .val (.int (2 : Int32)), .unset, .unset] []))
    refine own_go (fun t k => XS.iloadN X0.here hx rfl (hb hby at_8) rfl k) ?_
    show own_G p.tables e below s _ _ _ (s₁.setTop (mkF m 9 #[.val (.int p1), .val (.int (2 : Int32)), .unset, .unset] [(.int (2 : Int32))]))
    obtain ⟨_, _, ⟨T22, L22, k22, n22⟩, -, X22, ⟨Lc22, hQ22, l22, y22, z22⟩, st22⟩ := Jvm.LawKit.callS X0 hx (y := (⟨"com/example/kaava/kaava/model/FacetIsBoundPinLaw", "facetAt", "(I)Lcom/example/kaava/kaava/model/Facet;"⟩ : MethodName)) hown (mvT hZ (hw _ (List.mem_of_getElem? (i := 1) rfl))) (mvT hZ (hw _ (List.mem_of_getElem? (i := 2) rfl))) (mvT hZ (hw _ (List.mem_of_getElem? (i := 3) rfl))) (mvT hZ (hw _ (List.mem_of_getElem? (i := 4) rfl))) (by decide) (backOf (W := 0) (rm1_2 l Z a0 hw [] c2 h0 n0 Z0 K2.1) hZ (hw _ (List.mem_of_getElem? (i := 4) rfl)) (hw _ (List.mem_of_getElem? (i := 3) rfl)) (by decide) (by decide)) (g := (mkF m 9 #[.val (.int p1), .val (.int (2 : Int32)), .unset, .unset] [(.int (2 : Int32))])) rfl (by rw [hml]; rfl) (argsL := [(.int (2 : Int32))]) (rest := []) (lenOf pd__I_Lcom_example_kaava_kaava_model_Facet_ rfl) rfl (by show 2 * 0 + _ ≤ _; exact Nat.le_of_eq rfl) (hb hby at_9) (fun _ _ => ⟨rfl, e0, (by decide : 0 + 0 ≤ _), (by decide : 0 + 0 ≤ _)⟩)
    dsimp only [Pt.U, Pt.locs, Pt.cells, Pt.slots] at X22 l22 y22 z22 st22 hQ22
    subst l22 y22 z22
    obtain ⟨rfl, N22q, hh22⟩ := hQ22
    have N22 := Fr.app N0 N22q
    refine own_go st22 ?_
    show own_G p.tables e below s _ _ _ (T22.setTop (mkF m 12 #[.val (.int p1), .val (.int (2 : Int32)), .unset, .unset] [(.ref c2)]))
    refine own_go (fun t k => XS.astoreN X22.here hx rfl (hb hby at_12) rfl rfl (l' := #[.val (.int p1), .val (.int (2 : Int32)), .val (.ref c2), .unset]) rfl k) ?_
    show own_G p.tables e below s _ _ _ (T22.setTop (mkF m 13 #[.val (.int p1), .val (.int (2 : Int32)), .val (.ref c2), .unset] []))
    refine own_go (fun t k => XS.iloadN X22.here hx rfl (hb hby at_13) rfl k) ?_
    show own_G p.tables e below s _ _ _ (T22.setTop (mkF m 14 #[.val (.int p1), .val (.int (2 : Int32)), .val (.ref c2), .unset] [(.int (2 : Int32))]))
    refine own_go (fun t k => XS.bipush X22.here hx rfl (hb hby at_14) k) ?_
    show own_G p.tables e below s _ _ _ (T22.setTop (mkF m 16 #[.val (.int p1), .val (.int (2 : Int32)), .val (.ref c2), .unset] [(.int (6 : Int32)), (.int (2 : Int32))]))
    refine own_go (fun t k => XS.icmpYes X22.here hx rfl (pc0 := 16) (pc' := 29) rfl (hb hby at_16) rfl (by decide) (by decide) (by decide) k) ?_
    show own_G p.tables e below s _ _ _ (T22.setTop (mkF m 29 #[.val (.int p1), .val (.int (2 : Int32)), .val (.ref c2), .unset] []))
    refine own_go (fun t k => XS.iconst X22.here hx rfl (hb hby at_29) k) ?_
    show own_G p.tables e below s _ _ _ (T22.setTop (mkF m 30 #[.val (.int p1), .val (.int (2 : Int32)), .val (.ref c2), .unset] [(.int (0 : Int32))]))
    refine own_go (fun t k => XS.istoreN X22.here hx rfl (hb hby at_30) rfl (l' := #[.val (.int p1), .val (.int (2 : Int32)), .val (.ref c2), .val (.int (0 : Int32))]) rfl k) ?_
    show own_G p.tables e below s _ _ _ (T22.setTop (mkF m 31 #[.val (.int p1), .val (.int (2 : Int32)), .val (.ref c2), .val (.int (0 : Int32))] []))
    refine own_go (fun t k => XS.aloadN X22.here hx rfl (hb hby at_31) rfl rfl k) ?_
    show own_G p.tables e below s _ _ _ (T22.setTop (mkF m 32 #[.val (.int p1), .val (.int (2 : Int32)), .val (.ref c2), .val (.int (0 : Int32))] [(.ref c2)]))
    obtain ⟨cq23, kq23, q23a, q23b, q23c⟩ := isOf hZ hh22 K2.2.1
    obtain ⟨_, _, ⟨T23, L23, k23, n23⟩, -, X23, ⟨Lc23, hQ23, l23, y23, z23⟩, st23⟩ := X22.virtualBack hx (y := (⟨"com/example/kaava/kaava/model/Facet", "isBound", "()Z"⟩ : MethodName)) (z := (⟨"com/example/kaava/kaava/model/Facet", "isBound", "()Z"⟩ : MethodName)) hown (mvT hZ (hw _ (List.mem_of_getElem? (i := 8) rfl))) (mvT hZ (hw _ (List.mem_of_getElem? (i := 9) rfl))) (notFace_of_selects (args := #[]) (mvT hZ (hw _ (List.mem_of_getElem? (i := 11) rfl)))) (mvT hZ (hw _ (List.mem_of_getElem? (i := 11) rfl))) (mvT hZ (hw _ (List.mem_of_getElem? (i := 10) rfl))) (by decide) (backOf (W := 0) (rm2 l Z a0 hw [] c2 c6 c7 c8 c9 (0 : Int32) h0 n0 Z0 K6.1 K7.1 K8.1 K9.1 (if_neg (fun q => q.elim (own_ne K2 K6 (by decide)) fun q => q.elim (own_ne K2 K7 (by decide)) fun q => q.elim (own_ne K2 K8 (by decide)) (own_ne K2 K9 (by decide))))) hZ (hw _ (List.mem_of_getElem? (i := 12) rfl)) (hw _ (List.mem_of_getElem? (i := 6) rfl)) (by decide) (by decide)) q23a q23c (g := (mkF m 32 #[.val (.int p1), .val (.int (2 : Int32)), .val (.ref c2), .val (.int (0 : Int32))] [(.ref c2)])) rfl (by rw [hml]; rfl) (Steps.refl _) (argsL := []) (rest := []) (lenOf pd___Z rfl) rfl (by show 2 * 0 + _ ≤ _; exact Nat.le_of_eq rfl) (hb hby at_32) (fun _ _ => ⟨rfl, hh22, (by decide : 0 + 0 ≤ _), (by decide : 0 + 0 ≤ _)⟩)
    dsimp only [Pt.U, Pt.locs, Pt.cells, Pt.slots] at X23 l23 y23 z23 st23 hQ23
    subst l23 y23 z23
    obtain ⟨rfl, N23q, hh23⟩ := hQ23
    have N23 := Fr.app N22 N23q
    refine own_go (fun t k => st23.trans k) ?_
    show own_G p.tables e below s _ _ _ (T23.setTop (mkF m 35 #[.val (.int p1), .val (.int (2 : Int32)), .val (.ref c2), .val (.int (0 : Int32))] [(.int (0 : Int32))]))
    refine own_go (fun t k => XS.iloadN X23.here hx rfl (hb hby at_35) rfl k) ?_
    show own_G p.tables e below s _ _ _ (T23.setTop (mkF m 36 #[.val (.int p1), .val (.int (2 : Int32)), .val (.ref c2), .val (.int (0 : Int32))] [(.int (0 : Int32)), (.int (0 : Int32))]))
    refine own_go (fun t k => XS.icmpNo X23.here hx rfl (hb hby at_36) rfl (by decide) k) ?_
    show own_G p.tables e below s _ _ _ (T23.setTop (mkF m 39 #[.val (.int p1), .val (.int (2 : Int32)), .val (.ref c2), .val (.int (0 : Int32))] []))
    refine own_go (fun t k => XS.iconst X23.here hx rfl (hb hby at_39) k) ?_
    show own_G p.tables e below s _ _ _ (T23.setTop (mkF m 40 #[.val (.int p1), .val (.int (2 : Int32)), .val (.ref c2), .val (.int (0 : Int32))] [(.int (1 : Int32))]))
    refine own_go (fun t k => XS.goto X23.here hx rfl (pc0 := 40) (pc' := 44) rfl (hb hby at_40) (by decide) (by decide) k) ?_
    show own_G p.tables e below s _ _ _ (T23.setTop (mkF m 44 #[.val (.int p1), .val (.int (2 : Int32)), .val (.ref c2), .val (.int (0 : Int32))] [(.int (1 : Int32))]))
    exact own_retN X23 hx hlk (t := .boolean) (z' := (1 : Int32)) Bd.returns (by simp) (hb hby at_44) (rfl) (by rw [hh23]; exact ⟨rfl, N23⟩) (by decide) (by decide)
  · rw [hk]
    show own_G p.tables e below s _ _ _ (s₁.setTop (mkF m 7 #[.val (.int p1), .unset, .unset, .unset] [(.int (3 : Int32))]))
    refine own_go (fun t k => XS.istoreN X0.here hx rfl (hb hby at_7) rfl (l' := #[.val (.int p1), .val (.int (3 : Int32)), .unset, .unset]) rfl k) ?_
    show own_G p.tables e below s _ _ _ (s₁.setTop (mkF m 8 #[.val (.int p1), .val (.int (3 : Int32)), .unset, .unset] []))
    refine own_go (fun t k => XS.iloadN X0.here hx rfl (hb hby at_8) rfl k) ?_
    show own_G p.tables e below s _ _ _ (s₁.setTop (mkF m 9 #[.val (.int p1), .val (.int (3 : Int32)), .unset, .unset] [(.int (3 : Int32))]))
    obtain ⟨_, _, ⟨T24, L24, k24, n24⟩, -, X24, ⟨Lc24, hQ24, l24, y24, z24⟩, st24⟩ := Jvm.LawKit.callS X0 hx (y := (⟨"com/example/kaava/kaava/model/FacetIsBoundPinLaw", "facetAt", "(I)Lcom/example/kaava/kaava/model/Facet;"⟩ : MethodName)) hown (mvT hZ (hw _ (List.mem_of_getElem? (i := 1) rfl))) (mvT hZ (hw _ (List.mem_of_getElem? (i := 2) rfl))) (mvT hZ (hw _ (List.mem_of_getElem? (i := 3) rfl))) (mvT hZ (hw _ (List.mem_of_getElem? (i := 4) rfl))) (by decide) (backOf (W := 0) (rm1_3 l Z a0 hw [] c3 h0 n0 Z0 K3.1) hZ (hw _ (List.mem_of_getElem? (i := 4) rfl)) (hw _ (List.mem_of_getElem? (i := 3) rfl)) (by decide) (by decide)) (g := (mkF m 9 #[.val (.int p1), .val (.int (3 : Int32)), .unset, .unset] [(.int (3 : Int32))])) rfl (by rw [hml]; rfl) (argsL := [(.int (3 : Int32))]) (rest := []) (lenOf pd__I_Lcom_example_kaava_kaava_model_Facet_ rfl) rfl (by show 2 * 0 + _ ≤ _; exact Nat.le_of_eq rfl) (hb hby at_9) (fun _ _ => ⟨rfl, e0, (by decide : 0 + 0 ≤ _), (by decide : 0 + 0 ≤ _)⟩)
    dsimp only [Pt.U, Pt.locs, Pt.cells, Pt.slots] at X24 l24 y24 z24 st24 hQ24
    subst l24 y24 z24
    obtain ⟨rfl, N24q, hh24⟩ := hQ24
    have N24 := Fr.app N0 N24q
    refine own_go st24 ?_
    show own_G p.tables e below s _ _ _ (T24.setTop (mkF m 12 #[.val (.int p1), .val (.int (3 : Int32)), .unset, .unset] [(.ref c3)]))
    refine own_go (fun t k => XS.astoreN X24.here hx rfl (hb hby at_12) rfl rfl (l' := #[.val (.int p1), .val (.int (3 : Int32)), .val (.ref c3), .unset]) rfl k) ?_
    show own_G p.tables e below s _ _ _ (T24.setTop (mkF m 13 #[.val (.int p1), .val (.int (3 : Int32)), .val (.ref c3), .unset] []))
    refine own_go (fun t k => XS.iloadN X24.here hx rfl (hb hby at_13) rfl k) ?_
    show own_G p.tables e below s _ _ _ (T24.setTop (mkF m 14 #[.val (.int p1), .val (.int (3 : Int32)), .val (.ref c3), .unset] [(.int (3 : Int32))]))
    refine own_go (fun t k => XS.bipush X24.here hx rfl (hb hby at_14) k) ?_
    show own_G p.tables e below s _ _ _ (T24.setTop (mkF m 16 #[.val (.int p1), .val (.int (3 : Int32)), .val (.ref c3), .unset] [(.int (6 : Int32)), (.int (3 : Int32))]))
    refine own_go (fun t k => XS.icmpYes X24.here hx rfl (pc0 := 16) (pc' := 29) rfl (hb hby at_16) rfl (by decide) (by decide) (by decide) k) ?_
    show own_G p.tables e below s _ _ _ (T24.setTop (mkF m 29 #[.val (.int p1), .val (.int (3 : Int32)), .val (.ref c3), .unset] []))
    refine own_go (fun t k => XS.iconst X24.here hx rfl (hb hby at_29) k) ?_
    show own_G p.tables e below s _ _ _ (T24.setTop (mkF m 30 #[.val (.int p1), .val (.int (3 : Int32)), .val (.ref c3), .unset] [(.int (0 : Int32))]))
    refine own_go (fun t k => XS.istoreN X24.here hx rfl (hb hby at_30) rfl (l' := #[.val (.int p1), .val (.int (3 : Int32)), .val (.ref c3), .val (.int (0 : Int32))]) rfl k) ?_
    show own_G p.tables e below s _ _ _ (T24.setTop (mkF m 31 #[.val (.int p1), .val (.int (3 : Int32)), .val (.ref c3), .val (.int (0 : Int32))] []))
    refine own_go (fun t k => XS.aloadN X24.here hx rfl (hb hby at_31) rfl rfl k) ?_
    show own_G p.tables e below s _ _ _ (T24.setTop (mkF m 32 #[.val (.int p1), .val (.int (3 : Int32)), .val (.ref c3), .val (.int (0 : Int32))] [(.ref c3)]))
    obtain ⟨cq25, kq25, q25a, q25b, q25c⟩ := isOf hZ hh24 K3.2.1
    obtain ⟨_, _, ⟨T25, L25, k25, n25⟩, -, X25, ⟨Lc25, hQ25, l25, y25, z25⟩, st25⟩ := X24.virtualBack hx (y := (⟨"com/example/kaava/kaava/model/Facet", "isBound", "()Z"⟩ : MethodName)) (z := (⟨"com/example/kaava/kaava/model/Facet", "isBound", "()Z"⟩ : MethodName)) hown (mvT hZ (hw _ (List.mem_of_getElem? (i := 8) rfl))) (mvT hZ (hw _ (List.mem_of_getElem? (i := 9) rfl))) (notFace_of_selects (args := #[]) (mvT hZ (hw _ (List.mem_of_getElem? (i := 11) rfl)))) (mvT hZ (hw _ (List.mem_of_getElem? (i := 11) rfl))) (mvT hZ (hw _ (List.mem_of_getElem? (i := 10) rfl))) (by decide) (backOf (W := 0) (rm2 l Z a0 hw [] c3 c6 c7 c8 c9 (0 : Int32) h0 n0 Z0 K6.1 K7.1 K8.1 K9.1 (if_neg (fun q => q.elim (own_ne K3 K6 (by decide)) fun q => q.elim (own_ne K3 K7 (by decide)) fun q => q.elim (own_ne K3 K8 (by decide)) (own_ne K3 K9 (by decide))))) hZ (hw _ (List.mem_of_getElem? (i := 12) rfl)) (hw _ (List.mem_of_getElem? (i := 6) rfl)) (by decide) (by decide)) q25a q25c (g := (mkF m 32 #[.val (.int p1), .val (.int (3 : Int32)), .val (.ref c3), .val (.int (0 : Int32))] [(.ref c3)])) rfl (by rw [hml]; rfl) (Steps.refl _) (argsL := []) (rest := []) (lenOf pd___Z rfl) rfl (by show 2 * 0 + _ ≤ _; exact Nat.le_of_eq rfl) (hb hby at_32) (fun _ _ => ⟨rfl, hh24, (by decide : 0 + 0 ≤ _), (by decide : 0 + 0 ≤ _)⟩)
    dsimp only [Pt.U, Pt.locs, Pt.cells, Pt.slots] at X25 l25 y25 z25 st25 hQ25
    subst l25 y25 z25
    obtain ⟨rfl, N25q, hh25⟩ := hQ25
    have N25 := Fr.app N24 N25q
    refine own_go (fun t k => st25.trans k) ?_
    show own_G p.tables e below s _ _ _ (T25.setTop (mkF m 35 #[.val (.int p1), .val (.int (3 : Int32)), .val (.ref c3), .val (.int (0 : Int32))] [(.int (0 : Int32))]))
    refine own_go (fun t k => XS.iloadN X25.here hx rfl (hb hby at_35) rfl k) ?_
    show own_G p.tables e below s _ _ _ (T25.setTop (mkF m 36 #[.val (.int p1), .val (.int (3 : Int32)), .val (.ref c3), .val (.int (0 : Int32))] [(.int (0 : Int32)), (.int (0 : Int32))]))
    refine own_go (fun t k => XS.icmpNo X25.here hx rfl (hb hby at_36) rfl (by decide) k) ?_
    show own_G p.tables e below s _ _ _ (T25.setTop (mkF m 39 #[.val (.int p1), .val (.int (3 : Int32)), .val (.ref c3), .val (.int (0 : Int32))] []))
    refine own_go (fun t k => XS.iconst X25.here hx rfl (hb hby at_39) k) ?_
    show own_G p.tables e below s _ _ _ (T25.setTop (mkF m 40 #[.val (.int p1), .val (.int (3 : Int32)), .val (.ref c3), .val (.int (0 : Int32))] [(.int (1 : Int32))]))
    refine own_go (fun t k => XS.goto X25.here hx rfl (pc0 := 40) (pc' := 44) rfl (hb hby at_40) (by decide) (by decide) k) ?_
    show own_G p.tables e below s _ _ _ (T25.setTop (mkF m 44 #[.val (.int p1), .val (.int (3 : Int32)), .val (.ref c3), .val (.int (0 : Int32))] [(.int (1 : Int32))]))
    exact own_retN X25 hx hlk (t := .boolean) (z' := (1 : Int32)) Bd.returns (by simp) (hb hby at_44) (rfl) (by rw [hh25]; exact ⟨rfl, N25⟩) (by decide) (by decide)
  · rw [hk]
    show own_G p.tables e below s _ _ _ (s₁.setTop (mkF m 7 #[.val (.int p1), .unset, .unset, .unset] [(.int (4 : Int32))]))
    refine own_go (fun t k => XS.istoreN X0.here hx rfl (hb hby at_7) rfl (l' := #[.val (.int p1), .val (.int (4 : Int32)), .unset, .unset]) rfl k) ?_
    show own_G p.tables e below s _ _ _ (s₁.setTop (mkF m 8 #[.val (.int p1), .val (.int (4 : Int32)), .unset, .unset] []))
    refine own_go (fun t k => XS.iloadN X0.here hx rfl (hb hby at_8) rfl k) ?_
    show own_G p.tables e below s _ _ _ (s₁.setTop (mkF m 9 #[.val (.int p1), .val (.int (4 : Int32)), .unset, .unset] [(.int (4 : Int32))]))
    obtain ⟨_, _, ⟨T26, L26, k26, n26⟩, -, X26, ⟨Lc26, hQ26, l26, y26, z26⟩, st26⟩ := Jvm.LawKit.callS X0 hx (y := (⟨"com/example/kaava/kaava/model/FacetIsBoundPinLaw", "facetAt", "(I)Lcom/example/kaava/kaava/model/Facet;"⟩ : MethodName)) hown (mvT hZ (hw _ (List.mem_of_getElem? (i := 1) rfl))) (mvT hZ (hw _ (List.mem_of_getElem? (i := 2) rfl))) (mvT hZ (hw _ (List.mem_of_getElem? (i := 3) rfl))) (mvT hZ (hw _ (List.mem_of_getElem? (i := 4) rfl))) (by decide) (backOf (W := 0) (rm1_4 l Z a0 hw [] c4 h0 n0 Z0 K4.1) hZ (hw _ (List.mem_of_getElem? (i := 4) rfl)) (hw _ (List.mem_of_getElem? (i := 3) rfl)) (by decide) (by decide)) (g := (mkF m 9 #[.val (.int p1), .val (.int (4 : Int32)), .unset, .unset] [(.int (4 : Int32))])) rfl (by rw [hml]; rfl) (argsL := [(.int (4 : Int32))]) (rest := []) (lenOf pd__I_Lcom_example_kaava_kaava_model_Facet_ rfl) rfl (by show 2 * 0 + _ ≤ _; exact Nat.le_of_eq rfl) (hb hby at_9) (fun _ _ => ⟨rfl, e0, (by decide : 0 + 0 ≤ _), (by decide : 0 + 0 ≤ _)⟩)
    dsimp only [Pt.U, Pt.locs, Pt.cells, Pt.slots] at X26 l26 y26 z26 st26 hQ26
    subst l26 y26 z26
    obtain ⟨rfl, N26q, hh26⟩ := hQ26
    have N26 := Fr.app N0 N26q
    refine own_go st26 ?_
    show own_G p.tables e below s _ _ _ (T26.setTop (mkF m 12 #[.val (.int p1), .val (.int (4 : Int32)), .unset, .unset] [(.ref c4)]))
    refine own_go (fun t k => XS.astoreN X26.here hx rfl (hb hby at_12) rfl rfl (l' := #[.val (.int p1), .val (.int (4 : Int32)), .val (.ref c4), .unset]) rfl k) ?_
    show own_G p.tables e below s _ _ _ (T26.setTop (mkF m 13 #[.val (.int p1), .val (.int (4 : Int32)), .val (.ref c4), .unset] []))
    refine own_go (fun t k => XS.iloadN X26.here hx rfl (hb hby at_13) rfl k) ?_
    show own_G p.tables e below s _ _ _ (T26.setTop (mkF m 14 #[.val (.int p1), .val (.int (4 : Int32)), .val (.ref c4), .unset] [(.int (4 : Int32))]))
    refine own_go (fun t k => XS.bipush X26.here hx rfl (hb hby at_14) k) ?_
    show own_G p.tables e below s _ _ _ (T26.setTop (mkF m 16 #[.val (.int p1), .val (.int (4 : Int32)), .val (.ref c4), .unset] [(.int (6 : Int32)), (.int (4 : Int32))]))
    refine own_go (fun t k => XS.icmpYes X26.here hx rfl (pc0 := 16) (pc' := 29) rfl (hb hby at_16) rfl (by decide) (by decide) (by decide) k) ?_
    show own_G p.tables e below s _ _ _ (T26.setTop (mkF m 29 #[.val (.int p1), .val (.int (4 : Int32)), .val (.ref c4), .unset] []))
    refine own_go (fun t k => XS.iconst X26.here hx rfl (hb hby at_29) k) ?_
    show own_G p.tables e below s _ _ _ (T26.setTop (mkF m 30 #[.val (.int p1), .val (.int (4 : Int32)), .val (.ref c4), .unset] [(.int (0 : Int32))]))
    refine own_go (fun t k => XS.istoreN X26.here hx rfl (hb hby at_30) rfl (l' := #[.val (.int p1), .val (.int (4 : Int32)), .val (.ref c4), .val (.int (0 : Int32))]) rfl k) ?_
    show own_G p.tables e below s _ _ _ (T26.setTop (mkF m 31 #[.val (.int p1), .val (.int (4 : Int32)), .val (.ref c4), .val (.int (0 : Int32))] []))
    refine own_go (fun t k => XS.aloadN X26.here hx rfl (hb hby at_31) rfl rfl k) ?_
    show own_G p.tables e below s _ _ _ (T26.setTop (mkF m 32 #[.val (.int p1), .val (.int (4 : Int32)), .val (.ref c4), .val (.int (0 : Int32))] [(.ref c4)]))
    obtain ⟨cq27, kq27, q27a, q27b, q27c⟩ := isOf hZ hh26 K4.2.1
    obtain ⟨_, _, ⟨T27, L27, k27, n27⟩, -, X27, ⟨Lc27, hQ27, l27, y27, z27⟩, st27⟩ := X26.virtualBack hx (y := (⟨"com/example/kaava/kaava/model/Facet", "isBound", "()Z"⟩ : MethodName)) (z := (⟨"com/example/kaava/kaava/model/Facet", "isBound", "()Z"⟩ : MethodName)) hown (mvT hZ (hw _ (List.mem_of_getElem? (i := 8) rfl))) (mvT hZ (hw _ (List.mem_of_getElem? (i := 9) rfl))) (notFace_of_selects (args := #[]) (mvT hZ (hw _ (List.mem_of_getElem? (i := 11) rfl)))) (mvT hZ (hw _ (List.mem_of_getElem? (i := 11) rfl))) (mvT hZ (hw _ (List.mem_of_getElem? (i := 10) rfl))) (by decide) (backOf (W := 0) (rm2 l Z a0 hw [] c4 c6 c7 c8 c9 (0 : Int32) h0 n0 Z0 K6.1 K7.1 K8.1 K9.1 (if_neg (fun q => q.elim (own_ne K4 K6 (by decide)) fun q => q.elim (own_ne K4 K7 (by decide)) fun q => q.elim (own_ne K4 K8 (by decide)) (own_ne K4 K9 (by decide))))) hZ (hw _ (List.mem_of_getElem? (i := 12) rfl)) (hw _ (List.mem_of_getElem? (i := 6) rfl)) (by decide) (by decide)) q27a q27c (g := (mkF m 32 #[.val (.int p1), .val (.int (4 : Int32)), .val (.ref c4), .val (.int (0 : Int32))] [(.ref c4)])) rfl (by rw [hml]; rfl) (Steps.refl _) (argsL := []) (rest := []) (lenOf pd___Z rfl) rfl (by show 2 * 0 + _ ≤ _; exact Nat.le_of_eq rfl) (hb hby at_32) (fun _ _ => ⟨rfl, hh26, (by decide : 0 + 0 ≤ _), (by decide : 0 + 0 ≤ _)⟩)
    dsimp only [Pt.U, Pt.locs, Pt.cells, Pt.slots] at X27 l27 y27 z27 st27 hQ27
    subst l27 y27 z27
    obtain ⟨rfl, N27q, hh27⟩ := hQ27
    have N27 := Fr.app N26 N27q
    refine own_go (fun t k => st27.trans k) ?_
    show own_G p.tables e below s _ _ _ (T27.setTop (mkF m 35 #[.val (.int p1), .val (.int (4 : Int32)), .val (.ref c4), .val (.int (0 : Int32))] [(.int (0 : Int32))]))
    refine own_go (fun t k => XS.iloadN X27.here hx rfl (hb hby at_35) rfl k) ?_
    show own_G p.tables e below s _ _ _ (T27.setTop (mkF m 36 #[.val (.int p1), .val (.int (4 : Int32)), .val (.ref c4), .val (.int (0 : Int32))] [(.int (0 : Int32)), (.int (0 : Int32))]))
    refine own_go (fun t k => XS.icmpNo X27.here hx rfl (hb hby at_36) rfl (by decide) k) ?_
    show own_G p.tables e below s _ _ _ (T27.setTop (mkF m 39 #[.val (.int p1), .val (.int (4 : Int32)), .val (.ref c4), .val (.int (0 : Int32))] []))
    refine own_go (fun t k => XS.iconst X27.here hx rfl (hb hby at_39) k) ?_
    show own_G p.tables e below s _ _ _ (T27.setTop (mkF m 40 #[.val (.int p1), .val (.int (4 : Int32)), .val (.ref c4), .val (.int (0 : Int32))] [(.int (1 : Int32))]))
    refine own_go (fun t k => XS.goto X27.here hx rfl (pc0 := 40) (pc' := 44) rfl (hb hby at_40) (by decide) (by decide) k) ?_
    show own_G p.tables e below s _ _ _ (T27.setTop (mkF m 44 #[.val (.int p1), .val (.int (4 : Int32)), .val (.ref c4), .val (.int (0 : Int32))] [(.int (1 : Int32))]))
    exact own_retN X27 hx hlk (t := .boolean) (z' := (1 : Int32)) Bd.returns (by simp) (hb hby at_44) (rfl) (by rw [hh27]; exact ⟨rfl, N27⟩) (by decide) (by decide)
  · rw [hk]
    show own_G p.tables e below s _ _ _ (s₁.setTop (mkF m 7 #[.val (.int p1), .unset, .unset, .unset] [(.int (5 : Int32))]))
    refine own_go (fun t k => XS.istoreN X0.here hx rfl (hb hby at_7) rfl (l' := #[.val (.int p1), .val (.int (5 : Int32)), .unset, .unset]) rfl k) ?_
    show own_G p.tables e below s _ _ _ (s₁.setTop (mkF m 8 #[.val (.int p1), .val (.int (5 : Int32)), .unset, .unset] []))
    refine own_go (fun t k => XS.iloadN X0.here hx rfl (hb hby at_8) rfl k) ?_
    show own_G p.tables e below s _ _ _ (s₁.setTop (mkF m 9 #[.val (.int p1), .val (.int (5 : Int32)), .unset, .unset] [(.int (5 : Int32))]))
    obtain ⟨_, _, ⟨T28, L28, k28, n28⟩, -, X28, ⟨Lc28, hQ28, l28, y28, z28⟩, st28⟩ := Jvm.LawKit.callS X0 hx (y := (⟨"com/example/kaava/kaava/model/FacetIsBoundPinLaw", "facetAt", "(I)Lcom/example/kaava/kaava/model/Facet;"⟩ : MethodName)) hown (mvT hZ (hw _ (List.mem_of_getElem? (i := 1) rfl))) (mvT hZ (hw _ (List.mem_of_getElem? (i := 2) rfl))) (mvT hZ (hw _ (List.mem_of_getElem? (i := 3) rfl))) (mvT hZ (hw _ (List.mem_of_getElem? (i := 4) rfl))) (by decide) (backOf (W := 0) (rm1_5 l Z a0 hw [] c5 h0 n0 Z0 K5.1) hZ (hw _ (List.mem_of_getElem? (i := 4) rfl)) (hw _ (List.mem_of_getElem? (i := 3) rfl)) (by decide) (by decide)) (g := (mkF m 9 #[.val (.int p1), .val (.int (5 : Int32)), .unset, .unset] [(.int (5 : Int32))])) rfl (by rw [hml]; rfl) (argsL := [(.int (5 : Int32))]) (rest := []) (lenOf pd__I_Lcom_example_kaava_kaava_model_Facet_ rfl) rfl (by show 2 * 0 + _ ≤ _; exact Nat.le_of_eq rfl) (hb hby at_9) (fun _ _ => ⟨rfl, e0, (by decide : 0 + 0 ≤ _), (by decide : 0 + 0 ≤ _)⟩)
    dsimp only [Pt.U, Pt.locs, Pt.cells, Pt.slots] at X28 l28 y28 z28 st28 hQ28
    subst l28 y28 z28
    obtain ⟨rfl, N28q, hh28⟩ := hQ28
    have N28 := Fr.app N0 N28q
    refine own_go st28 ?_
    show own_G p.tables e below s _ _ _ (T28.setTop (mkF m 12 #[.val (.int p1), .val (.int (5 : Int32)), .unset, .unset] [(.ref c5)]))
    refine own_go (fun t k => XS.astoreN X28.here hx rfl (hb hby at_12) rfl rfl (l' := #[.val (.int p1), .val (.int (5 : Int32)), .val (.ref c5), .unset]) rfl k) ?_
    show own_G p.tables e below s _ _ _ (T28.setTop (mkF m 13 #[.val (.int p1), .val (.int (5 : Int32)), .val (.ref c5), .unset] []))
    refine own_go (fun t k => XS.iloadN X28.here hx rfl (hb hby at_13) rfl k) ?_
    show own_G p.tables e below s _ _ _ (T28.setTop (mkF m 14 #[.val (.int p1), .val (.int (5 : Int32)), .val (.ref c5), .unset] [(.int (5 : Int32))]))
    refine own_go (fun t k => XS.bipush X28.here hx rfl (hb hby at_14) k) ?_
    show own_G p.tables e below s _ _ _ (T28.setTop (mkF m 16 #[.val (.int p1), .val (.int (5 : Int32)), .val (.ref c5), .unset] [(.int (6 : Int32)), (.int (5 : Int32))]))
    refine own_go (fun t k => XS.icmpYes X28.here hx rfl (pc0 := 16) (pc' := 29) rfl (hb hby at_16) rfl (by decide) (by decide) (by decide) k) ?_
    show own_G p.tables e below s _ _ _ (T28.setTop (mkF m 29 #[.val (.int p1), .val (.int (5 : Int32)), .val (.ref c5), .unset] []))
    refine own_go (fun t k => XS.iconst X28.here hx rfl (hb hby at_29) k) ?_
    show own_G p.tables e below s _ _ _ (T28.setTop (mkF m 30 #[.val (.int p1), .val (.int (5 : Int32)), .val (.ref c5), .unset] [(.int (0 : Int32))]))
    refine own_go (fun t k => XS.istoreN X28.here hx rfl (hb hby at_30) rfl (l' := #[.val (.int p1), .val (.int (5 : Int32)), .val (.ref c5), .val (.int (0 : Int32))]) rfl k) ?_
    show own_G p.tables e below s _ _ _ (T28.setTop (mkF m 31 #[.val (.int p1), .val (.int (5 : Int32)), .val (.ref c5), .val (.int (0 : Int32))] []))
    refine own_go (fun t k => XS.aloadN X28.here hx rfl (hb hby at_31) rfl rfl k) ?_
    show own_G p.tables e below s _ _ _ (T28.setTop (mkF m 32 #[.val (.int p1), .val (.int (5 : Int32)), .val (.ref c5), .val (.int (0 : Int32))] [(.ref c5)]))
    obtain ⟨cq29, kq29, q29a, q29b, q29c⟩ := isOf hZ hh28 K5.2.1
    obtain ⟨_, _, ⟨T29, L29, k29, n29⟩, -, X29, ⟨Lc29, hQ29, l29, y29, z29⟩, st29⟩ := X28.virtualBack hx (y := (⟨"com/example/kaava/kaava/model/Facet", "isBound", "()Z"⟩ : MethodName)) (z := (⟨"com/example/kaava/kaava/model/Facet", "isBound", "()Z"⟩ : MethodName)) hown (mvT hZ (hw _ (List.mem_of_getElem? (i := 8) rfl))) (mvT hZ (hw _ (List.mem_of_getElem? (i := 9) rfl))) (notFace_of_selects (args := #[]) (mvT hZ (hw _ (List.mem_of_getElem? (i := 11) rfl)))) (mvT hZ (hw _ (List.mem_of_getElem? (i := 11) rfl))) (mvT hZ (hw _ (List.mem_of_getElem? (i := 10) rfl))) (by decide) (backOf (W := 0) (rm2 l Z a0 hw [] c5 c6 c7 c8 c9 (0 : Int32) h0 n0 Z0 K6.1 K7.1 K8.1 K9.1 (if_neg (fun q => q.elim (own_ne K5 K6 (by decide)) fun q => q.elim (own_ne K5 K7 (by decide)) fun q => q.elim (own_ne K5 K8 (by decide)) (own_ne K5 K9 (by decide))))) hZ (hw _ (List.mem_of_getElem? (i := 12) rfl)) (hw _ (List.mem_of_getElem? (i := 6) rfl)) (by decide) (by decide)) q29a q29c (g := (mkF m 32 #[.val (.int p1), .val (.int (5 : Int32)), .val (.ref c5), .val (.int (0 : Int32))] [(.ref c5)])) rfl (by rw [hml]; rfl) (Steps.refl _) (argsL := []) (rest := []) (lenOf pd___Z rfl) rfl (by show 2 * 0 + _ ≤ _; exact Nat.le_of_eq rfl) (hb hby at_32) (fun _ _ => ⟨rfl, hh28, (by decide : 0 + 0 ≤ _), (by decide : 0 + 0 ≤ _)⟩)
    dsimp only [Pt.U, Pt.locs, Pt.cells, Pt.slots] at X29 l29 y29 z29 st29 hQ29
    subst l29 y29 z29
    obtain ⟨rfl, N29q, hh29⟩ := hQ29
    have N29 := Fr.app N28 N29q
    refine own_go (fun t k => st29.trans k) ?_
    show own_G p.tables e below s _ _ _ (T29.setTop (mkF m 35 #[.val (.int p1), .val (.int (5 : Int32)), .val (.ref c5), .val (.int (0 : Int32))] [(.int (0 : Int32))]))
    refine own_go (fun t k => XS.iloadN X29.here hx rfl (hb hby at_35) rfl k) ?_
    show own_G p.tables e below s _ _ _ (T29.setTop (mkF m 36 #[.val (.int p1), .val (.int (5 : Int32)), .val (.ref c5), .val (.int (0 : Int32))] [(.int (0 : Int32)), (.int (0 : Int32))]))
    refine own_go (fun t k => XS.icmpNo X29.here hx rfl (hb hby at_36) rfl (by decide) k) ?_
    show own_G p.tables e below s _ _ _ (T29.setTop (mkF m 39 #[.val (.int p1), .val (.int (5 : Int32)), .val (.ref c5), .val (.int (0 : Int32))] []))
    refine own_go (fun t k => XS.iconst X29.here hx rfl (hb hby at_39) k) ?_
    show own_G p.tables e below s _ _ _ (T29.setTop (mkF m 40 #[.val (.int p1), .val (.int (5 : Int32)), .val (.ref c5), .val (.int (0 : Int32))] [(.int (1 : Int32))]))
    refine own_go (fun t k => XS.goto X29.here hx rfl (pc0 := 40) (pc' := 44) rfl (hb hby at_40) (by decide) (by decide) k) ?_
    show own_G p.tables e below s _ _ _ (T29.setTop (mkF m 44 #[.val (.int p1), .val (.int (5 : Int32)), .val (.ref c5), .val (.int (0 : Int32))] [(.int (1 : Int32))]))
    exact own_retN X29 hx hlk (t := .boolean) (z' := (1 : Int32)) Bd.returns (by simp) (hb hby at_44) (rfl) (by rw [hh29]; exact ⟨rfl, N29⟩) (by decide) (by decide)
  · rw [hk]
    show own_G p.tables e below s _ _ _ (s₁.setTop (mkF m 7 #[.val (.int p1), .unset, .unset, .unset] [(.int (6 : Int32))]))
    refine own_go (fun t k => XS.istoreN X0.here hx rfl (hb hby at_7) rfl (l' := #[.val (.int p1), .val (.int (6 : Int32)), .unset, .unset]) rfl k) ?_
    show own_G p.tables e below s _ _ _ (s₁.setTop (mkF m 8 #[.val (.int p1), .val (.int (6 : Int32)), .unset, .unset] []))
    refine own_go (fun t k => XS.iloadN X0.here hx rfl (hb hby at_8) rfl k) ?_
    show own_G p.tables e below s _ _ _ (s₁.setTop (mkF m 9 #[.val (.int p1), .val (.int (6 : Int32)), .unset, .unset] [(.int (6 : Int32))]))
    obtain ⟨_, _, ⟨T30, L30, k30, n30⟩, -, X30, ⟨Lc30, hQ30, l30, y30, z30⟩, st30⟩ := Jvm.LawKit.callS X0 hx (y := (⟨"com/example/kaava/kaava/model/FacetIsBoundPinLaw", "facetAt", "(I)Lcom/example/kaava/kaava/model/Facet;"⟩ : MethodName)) hown (mvT hZ (hw _ (List.mem_of_getElem? (i := 1) rfl))) (mvT hZ (hw _ (List.mem_of_getElem? (i := 2) rfl))) (mvT hZ (hw _ (List.mem_of_getElem? (i := 3) rfl))) (mvT hZ (hw _ (List.mem_of_getElem? (i := 4) rfl))) (by decide) (backOf (W := 0) (rm1_6 l Z a0 hw [] c6 h0 n0 Z0 K6.1) hZ (hw _ (List.mem_of_getElem? (i := 4) rfl)) (hw _ (List.mem_of_getElem? (i := 3) rfl)) (by decide) (by decide)) (g := (mkF m 9 #[.val (.int p1), .val (.int (6 : Int32)), .unset, .unset] [(.int (6 : Int32))])) rfl (by rw [hml]; rfl) (argsL := [(.int (6 : Int32))]) (rest := []) (lenOf pd__I_Lcom_example_kaava_kaava_model_Facet_ rfl) rfl (by show 2 * 0 + _ ≤ _; exact Nat.le_of_eq rfl) (hb hby at_9) (fun _ _ => ⟨rfl, e0, (by decide : 0 + 0 ≤ _), (by decide : 0 + 0 ≤ _)⟩)
    dsimp only [Pt.U, Pt.locs, Pt.cells, Pt.slots] at X30 l30 y30 z30 st30 hQ30
    subst l30 y30 z30
    obtain ⟨rfl, N30q, hh30⟩ := hQ30
    have N30 := Fr.app N0 N30q
    refine own_go st30 ?_
    show own_G p.tables e below s _ _ _ (T30.setTop (mkF m 12 #[.val (.int p1), .val (.int (6 : Int32)), .unset, .unset] [(.ref c6)]))
    refine own_go (fun t k => XS.astoreN X30.here hx rfl (hb hby at_12) rfl rfl (l' := #[.val (.int p1), .val (.int (6 : Int32)), .val (.ref c6), .unset]) rfl k) ?_
    show own_G p.tables e below s _ _ _ (T30.setTop (mkF m 13 #[.val (.int p1), .val (.int (6 : Int32)), .val (.ref c6), .unset] []))
    refine own_go (fun t k => XS.iloadN X30.here hx rfl (hb hby at_13) rfl k) ?_
    show own_G p.tables e below s _ _ _ (T30.setTop (mkF m 14 #[.val (.int p1), .val (.int (6 : Int32)), .val (.ref c6), .unset] [(.int (6 : Int32))]))
    refine own_go (fun t k => XS.bipush X30.here hx rfl (hb hby at_14) k) ?_
    show own_G p.tables e below s _ _ _ (T30.setTop (mkF m 16 #[.val (.int p1), .val (.int (6 : Int32)), .val (.ref c6), .unset] [(.int (6 : Int32)), (.int (6 : Int32))]))
    refine own_go (fun t k => XS.icmpNo X30.here hx rfl (hb hby at_16) rfl (by decide) k) ?_
    show own_G p.tables e below s _ _ _ (T30.setTop (mkF m 19 #[.val (.int p1), .val (.int (6 : Int32)), .val (.ref c6), .unset] []))
    refine own_go (fun t k => XS.iloadN X30.here hx rfl (hb hby at_19) rfl k) ?_
    show own_G p.tables e below s _ _ _ (T30.setTop (mkF m 20 #[.val (.int p1), .val (.int (6 : Int32)), .val (.ref c6), .unset] [(.int (6 : Int32))]))
    refine own_go (fun t k => XS.bipush X30.here hx rfl (hb hby at_20) k) ?_
    show own_G p.tables e below s _ _ _ (T30.setTop (mkF m 22 #[.val (.int p1), .val (.int (6 : Int32)), .val (.ref c6), .unset] [(.int (9 : Int32)), (.int (6 : Int32))]))
    refine own_go (fun t k => XS.icmpNo X30.here hx rfl (hb hby at_22) rfl (by decide) k) ?_
    show own_G p.tables e below s _ _ _ (T30.setTop (mkF m 25 #[.val (.int p1), .val (.int (6 : Int32)), .val (.ref c6), .unset] []))
    refine own_go (fun t k => XS.iconst X30.here hx rfl (hb hby at_25) k) ?_
    show own_G p.tables e below s _ _ _ (T30.setTop (mkF m 26 #[.val (.int p1), .val (.int (6 : Int32)), .val (.ref c6), .unset] [(.int (1 : Int32))]))
    refine own_go (fun t k => XS.goto X30.here hx rfl (pc0 := 26) (pc' := 30) rfl (hb hby at_26) (by decide) (by decide) k) ?_
    show own_G p.tables e below s _ _ _ (T30.setTop (mkF m 30 #[.val (.int p1), .val (.int (6 : Int32)), .val (.ref c6), .unset] [(.int (1 : Int32))]))
    refine own_go (fun t k => XS.istoreN X30.here hx rfl (hb hby at_30) rfl (l' := #[.val (.int p1), .val (.int (6 : Int32)), .val (.ref c6), .val (.int (1 : Int32))]) rfl k) ?_
    show own_G p.tables e below s _ _ _ (T30.setTop (mkF m 31 #[.val (.int p1), .val (.int (6 : Int32)), .val (.ref c6), .val (.int (1 : Int32))] []))
    refine own_go (fun t k => XS.aloadN X30.here hx rfl (hb hby at_31) rfl rfl k) ?_
    show own_G p.tables e below s _ _ _ (T30.setTop (mkF m 32 #[.val (.int p1), .val (.int (6 : Int32)), .val (.ref c6), .val (.int (1 : Int32))] [(.ref c6)]))
    obtain ⟨cq31, kq31, q31a, q31b, q31c⟩ := isOf hZ hh30 K6.2.1
    obtain ⟨_, _, ⟨T31, L31, k31, n31⟩, -, X31, ⟨Lc31, hQ31, l31, y31, z31⟩, st31⟩ := X30.virtualBack hx (y := (⟨"com/example/kaava/kaava/model/Facet", "isBound", "()Z"⟩ : MethodName)) (z := (⟨"com/example/kaava/kaava/model/Facet", "isBound", "()Z"⟩ : MethodName)) hown (mvT hZ (hw _ (List.mem_of_getElem? (i := 8) rfl))) (mvT hZ (hw _ (List.mem_of_getElem? (i := 9) rfl))) (notFace_of_selects (args := #[]) (mvT hZ (hw _ (List.mem_of_getElem? (i := 11) rfl)))) (mvT hZ (hw _ (List.mem_of_getElem? (i := 11) rfl))) (mvT hZ (hw _ (List.mem_of_getElem? (i := 10) rfl))) (by decide) (backOf (W := 0) (rm2 l Z a0 hw [] c6 c6 c7 c8 c9 (1 : Int32) h0 n0 Z0 K6.1 K7.1 K8.1 K9.1 (if_pos (Or.inl rfl))) hZ (hw _ (List.mem_of_getElem? (i := 12) rfl)) (hw _ (List.mem_of_getElem? (i := 6) rfl)) (by decide) (by decide)) q31a q31c (g := (mkF m 32 #[.val (.int p1), .val (.int (6 : Int32)), .val (.ref c6), .val (.int (1 : Int32))] [(.ref c6)])) rfl (by rw [hml]; rfl) (Steps.refl _) (argsL := []) (rest := []) (lenOf pd___Z rfl) rfl (by show 2 * 0 + _ ≤ _; exact Nat.le_of_eq rfl) (hb hby at_32) (fun _ _ => ⟨rfl, hh30, (by decide : 0 + 0 ≤ _), (by decide : 0 + 0 ≤ _)⟩)
    dsimp only [Pt.U, Pt.locs, Pt.cells, Pt.slots] at X31 l31 y31 z31 st31 hQ31
    subst l31 y31 z31
    obtain ⟨rfl, N31q, hh31⟩ := hQ31
    have N31 := Fr.app N30 N31q
    refine own_go (fun t k => st31.trans k) ?_
    show own_G p.tables e below s _ _ _ (T31.setTop (mkF m 35 #[.val (.int p1), .val (.int (6 : Int32)), .val (.ref c6), .val (.int (1 : Int32))] [(.int (1 : Int32))]))
    refine own_go (fun t k => XS.iloadN X31.here hx rfl (hb hby at_35) rfl k) ?_
    show own_G p.tables e below s _ _ _ (T31.setTop (mkF m 36 #[.val (.int p1), .val (.int (6 : Int32)), .val (.ref c6), .val (.int (1 : Int32))] [(.int (1 : Int32)), (.int (1 : Int32))]))
    refine own_go (fun t k => XS.icmpNo X31.here hx rfl (hb hby at_36) rfl (by decide) k) ?_
    show own_G p.tables e below s _ _ _ (T31.setTop (mkF m 39 #[.val (.int p1), .val (.int (6 : Int32)), .val (.ref c6), .val (.int (1 : Int32))] []))
    refine own_go (fun t k => XS.iconst X31.here hx rfl (hb hby at_39) k) ?_
    show own_G p.tables e below s _ _ _ (T31.setTop (mkF m 40 #[.val (.int p1), .val (.int (6 : Int32)), .val (.ref c6), .val (.int (1 : Int32))] [(.int (1 : Int32))]))
    refine own_go (fun t k => XS.goto X31.here hx rfl (pc0 := 40) (pc' := 44) rfl (hb hby at_40) (by decide) (by decide) k) ?_
    show own_G p.tables e below s _ _ _ (T31.setTop (mkF m 44 #[.val (.int p1), .val (.int (6 : Int32)), .val (.ref c6), .val (.int (1 : Int32))] [(.int (1 : Int32))]))
    exact own_retN X31 hx hlk (t := .boolean) (z' := (1 : Int32)) Bd.returns (by simp) (hb hby at_44) (rfl) (by rw [hh31]; exact ⟨rfl, N31⟩) (by decide) (by decide)
  · rw [hk]
    show own_G p.tables e below s _ _ _ (s₁.setTop (mkF m 7 #[.val (.int p1), .unset, .unset, .unset] [(.int (7 : Int32))]))
    refine own_go (fun t k => XS.istoreN X0.here hx rfl (hb hby at_7) rfl (l' := #[.val (.int p1), .val (.int (7 : Int32)), .unset, .unset]) rfl k) ?_
    show own_G p.tables e below s _ _ _ (s₁.setTop (mkF m 8 #[.val (.int p1), .val (.int (7 : Int32)), .unset, .unset] []))
    refine own_go (fun t k => XS.iloadN X0.here hx rfl (hb hby at_8) rfl k) ?_
    show own_G p.tables e below s _ _ _ (s₁.setTop (mkF m 9 #[.val (.int p1), .val (.int (7 : Int32)), .unset, .unset] [(.int (7 : Int32))]))
    obtain ⟨_, _, ⟨T32, L32, k32, n32⟩, -, X32, ⟨Lc32, hQ32, l32, y32, z32⟩, st32⟩ := Jvm.LawKit.callS X0 hx (y := (⟨"com/example/kaava/kaava/model/FacetIsBoundPinLaw", "facetAt", "(I)Lcom/example/kaava/kaava/model/Facet;"⟩ : MethodName)) hown (mvT hZ (hw _ (List.mem_of_getElem? (i := 1) rfl))) (mvT hZ (hw _ (List.mem_of_getElem? (i := 2) rfl))) (mvT hZ (hw _ (List.mem_of_getElem? (i := 3) rfl))) (mvT hZ (hw _ (List.mem_of_getElem? (i := 4) rfl))) (by decide) (backOf (W := 0) (rm1_7 l Z a0 hw [] c7 h0 n0 Z0 K7.1) hZ (hw _ (List.mem_of_getElem? (i := 4) rfl)) (hw _ (List.mem_of_getElem? (i := 3) rfl)) (by decide) (by decide)) (g := (mkF m 9 #[.val (.int p1), .val (.int (7 : Int32)), .unset, .unset] [(.int (7 : Int32))])) rfl (by rw [hml]; rfl) (argsL := [(.int (7 : Int32))]) (rest := []) (lenOf pd__I_Lcom_example_kaava_kaava_model_Facet_ rfl) rfl (by show 2 * 0 + _ ≤ _; exact Nat.le_of_eq rfl) (hb hby at_9) (fun _ _ => ⟨rfl, e0, (by decide : 0 + 0 ≤ _), (by decide : 0 + 0 ≤ _)⟩)
    dsimp only [Pt.U, Pt.locs, Pt.cells, Pt.slots] at X32 l32 y32 z32 st32 hQ32
    subst l32 y32 z32
    obtain ⟨rfl, N32q, hh32⟩ := hQ32
    have N32 := Fr.app N0 N32q
    refine own_go st32 ?_
    show own_G p.tables e below s _ _ _ (T32.setTop (mkF m 12 #[.val (.int p1), .val (.int (7 : Int32)), .unset, .unset] [(.ref c7)]))
    refine own_go (fun t k => XS.astoreN X32.here hx rfl (hb hby at_12) rfl rfl (l' := #[.val (.int p1), .val (.int (7 : Int32)), .val (.ref c7), .unset]) rfl k) ?_
    show own_G p.tables e below s _ _ _ (T32.setTop (mkF m 13 #[.val (.int p1), .val (.int (7 : Int32)), .val (.ref c7), .unset] []))
    refine own_go (fun t k => XS.iloadN X32.here hx rfl (hb hby at_13) rfl k) ?_
    show own_G p.tables e below s _ _ _ (T32.setTop (mkF m 14 #[.val (.int p1), .val (.int (7 : Int32)), .val (.ref c7), .unset] [(.int (7 : Int32))]))
    refine own_go (fun t k => XS.bipush X32.here hx rfl (hb hby at_14) k) ?_
    show own_G p.tables e below s _ _ _ (T32.setTop (mkF m 16 #[.val (.int p1), .val (.int (7 : Int32)), .val (.ref c7), .unset] [(.int (6 : Int32)), (.int (7 : Int32))]))
    refine own_go (fun t k => XS.icmpNo X32.here hx rfl (hb hby at_16) rfl (by decide) k) ?_
    show own_G p.tables e below s _ _ _ (T32.setTop (mkF m 19 #[.val (.int p1), .val (.int (7 : Int32)), .val (.ref c7), .unset] []))
    refine own_go (fun t k => XS.iloadN X32.here hx rfl (hb hby at_19) rfl k) ?_
    show own_G p.tables e below s _ _ _ (T32.setTop (mkF m 20 #[.val (.int p1), .val (.int (7 : Int32)), .val (.ref c7), .unset] [(.int (7 : Int32))]))
    refine own_go (fun t k => XS.bipush X32.here hx rfl (hb hby at_20) k) ?_
    show own_G p.tables e below s _ _ _ (T32.setTop (mkF m 22 #[.val (.int p1), .val (.int (7 : Int32)), .val (.ref c7), .unset] [(.int (9 : Int32)), (.int (7 : Int32))]))
    refine own_go (fun t k => XS.icmpNo X32.here hx rfl (hb hby at_22) rfl (by decide) k) ?_
    show own_G p.tables e below s _ _ _ (T32.setTop (mkF m 25 #[.val (.int p1), .val (.int (7 : Int32)), .val (.ref c7), .unset] []))
    refine own_go (fun t k => XS.iconst X32.here hx rfl (hb hby at_25) k) ?_
    show own_G p.tables e below s _ _ _ (T32.setTop (mkF m 26 #[.val (.int p1), .val (.int (7 : Int32)), .val (.ref c7), .unset] [(.int (1 : Int32))]))
    refine own_go (fun t k => XS.goto X32.here hx rfl (pc0 := 26) (pc' := 30) rfl (hb hby at_26) (by decide) (by decide) k) ?_
    show own_G p.tables e below s _ _ _ (T32.setTop (mkF m 30 #[.val (.int p1), .val (.int (7 : Int32)), .val (.ref c7), .unset] [(.int (1 : Int32))]))
    refine own_go (fun t k => XS.istoreN X32.here hx rfl (hb hby at_30) rfl (l' := #[.val (.int p1), .val (.int (7 : Int32)), .val (.ref c7), .val (.int (1 : Int32))]) rfl k) ?_
    show own_G p.tables e below s _ _ _ (T32.setTop (mkF m 31 #[.val (.int p1), .val (.int (7 : Int32)), .val (.ref c7), .val (.int (1 : Int32))] []))
    refine own_go (fun t k => XS.aloadN X32.here hx rfl (hb hby at_31) rfl rfl k) ?_
    show own_G p.tables e below s _ _ _ (T32.setTop (mkF m 32 #[.val (.int p1), .val (.int (7 : Int32)), .val (.ref c7), .val (.int (1 : Int32))] [(.ref c7)]))
    obtain ⟨cq33, kq33, q33a, q33b, q33c⟩ := isOf hZ hh32 K7.2.1
    obtain ⟨_, _, ⟨T33, L33, k33, n33⟩, -, X33, ⟨Lc33, hQ33, l33, y33, z33⟩, st33⟩ := X32.virtualBack hx (y := (⟨"com/example/kaava/kaava/model/Facet", "isBound", "()Z"⟩ : MethodName)) (z := (⟨"com/example/kaava/kaava/model/Facet", "isBound", "()Z"⟩ : MethodName)) hown (mvT hZ (hw _ (List.mem_of_getElem? (i := 8) rfl))) (mvT hZ (hw _ (List.mem_of_getElem? (i := 9) rfl))) (notFace_of_selects (args := #[]) (mvT hZ (hw _ (List.mem_of_getElem? (i := 11) rfl)))) (mvT hZ (hw _ (List.mem_of_getElem? (i := 11) rfl))) (mvT hZ (hw _ (List.mem_of_getElem? (i := 10) rfl))) (by decide) (backOf (W := 0) (rm2 l Z a0 hw [] c7 c6 c7 c8 c9 (1 : Int32) h0 n0 Z0 K6.1 K7.1 K8.1 K9.1 (if_pos (Or.inr (Or.inl rfl)))) hZ (hw _ (List.mem_of_getElem? (i := 12) rfl)) (hw _ (List.mem_of_getElem? (i := 6) rfl)) (by decide) (by decide)) q33a q33c (g := (mkF m 32 #[.val (.int p1), .val (.int (7 : Int32)), .val (.ref c7), .val (.int (1 : Int32))] [(.ref c7)])) rfl (by rw [hml]; rfl) (Steps.refl _) (argsL := []) (rest := []) (lenOf pd___Z rfl) rfl (by show 2 * 0 + _ ≤ _; exact Nat.le_of_eq rfl) (hb hby at_32) (fun _ _ => ⟨rfl, hh32, (by decide : 0 + 0 ≤ _), (by decide : 0 + 0 ≤ _)⟩)
    dsimp only [Pt.U, Pt.locs, Pt.cells, Pt.slots] at X33 l33 y33 z33 st33 hQ33
    subst l33 y33 z33
    obtain ⟨rfl, N33q, hh33⟩ := hQ33
    have N33 := Fr.app N32 N33q
    refine own_go (fun t k => st33.trans k) ?_
    show own_G p.tables e below s _ _ _ (T33.setTop (mkF m 35 #[.val (.int p1), .val (.int (7 : Int32)), .val (.ref c7), .val (.int (1 : Int32))] [(.int (1 : Int32))]))
    refine own_go (fun t k => XS.iloadN X33.here hx rfl (hb hby at_35) rfl k) ?_
    show own_G p.tables e below s _ _ _ (T33.setTop (mkF m 36 #[.val (.int p1), .val (.int (7 : Int32)), .val (.ref c7), .val (.int (1 : Int32))] [(.int (1 : Int32)), (.int (1 : Int32))]))
    refine own_go (fun t k => XS.icmpNo X33.here hx rfl (hb hby at_36) rfl (by decide) k) ?_
    show own_G p.tables e below s _ _ _ (T33.setTop (mkF m 39 #[.val (.int p1), .val (.int (7 : Int32)), .val (.ref c7), .val (.int (1 : Int32))] []))
    refine own_go (fun t k => XS.iconst X33.here hx rfl (hb hby at_39) k) ?_
    show own_G p.tables e below s _ _ _ (T33.setTop (mkF m 40 #[.val (.int p1), .val (.int (7 : Int32)), .val (.ref c7), .val (.int (1 : Int32))] [(.int (1 : Int32))]))
    refine own_go (fun t k => XS.goto X33.here hx rfl (pc0 := 40) (pc' := 44) rfl (hb hby at_40) (by decide) (by decide) k) ?_
    show own_G p.tables e below s _ _ _ (T33.setTop (mkF m 44 #[.val (.int p1), .val (.int (7 : Int32)), .val (.ref c7), .val (.int (1 : Int32))] [(.int (1 : Int32))]))
    exact own_retN X33 hx hlk (t := .boolean) (z' := (1 : Int32)) Bd.returns (by simp) (hb hby at_44) (rfl) (by rw [hh33]; exact ⟨rfl, N33⟩) (by decide) (by decide)
  · rw [hk]
    show own_G p.tables e below s _ _ _ (s₁.setTop (mkF m 7 #[.val (.int p1), .unset, .unset, .unset] [(.int (8 : Int32))]))
    refine own_go (fun t k => XS.istoreN X0.here hx rfl (hb hby at_7) rfl (l' := #[.val (.int p1), .val (.int (8 : Int32)), .unset, .unset]) rfl k) ?_
    show own_G p.tables e below s _ _ _ (s₁.setTop (mkF m 8 #[.val (.int p1), .val (.int (8 : Int32)), .unset, .unset] []))
    refine own_go (fun t k => XS.iloadN X0.here hx rfl (hb hby at_8) rfl k) ?_
    show own_G p.tables e below s _ _ _ (s₁.setTop (mkF m 9 #[.val (.int p1), .val (.int (8 : Int32)), .unset, .unset] [(.int (8 : Int32))]))
    obtain ⟨_, _, ⟨T34, L34, k34, n34⟩, -, X34, ⟨Lc34, hQ34, l34, y34, z34⟩, st34⟩ := Jvm.LawKit.callS X0 hx (y := (⟨"com/example/kaava/kaava/model/FacetIsBoundPinLaw", "facetAt", "(I)Lcom/example/kaava/kaava/model/Facet;"⟩ : MethodName)) hown (mvT hZ (hw _ (List.mem_of_getElem? (i := 1) rfl))) (mvT hZ (hw _ (List.mem_of_getElem? (i := 2) rfl))) (mvT hZ (hw _ (List.mem_of_getElem? (i := 3) rfl))) (mvT hZ (hw _ (List.mem_of_getElem? (i := 4) rfl))) (by decide) (backOf (W := 0) (rm1_8 l Z a0 hw [] c8 h0 n0 Z0 K8.1) hZ (hw _ (List.mem_of_getElem? (i := 4) rfl)) (hw _ (List.mem_of_getElem? (i := 3) rfl)) (by decide) (by decide)) (g := (mkF m 9 #[.val (.int p1), .val (.int (8 : Int32)), .unset, .unset] [(.int (8 : Int32))])) rfl (by rw [hml]; rfl) (argsL := [(.int (8 : Int32))]) (rest := []) (lenOf pd__I_Lcom_example_kaava_kaava_model_Facet_ rfl) rfl (by show 2 * 0 + _ ≤ _; exact Nat.le_of_eq rfl) (hb hby at_9) (fun _ _ => ⟨rfl, e0, (by decide : 0 + 0 ≤ _), (by decide : 0 + 0 ≤ _)⟩)
    dsimp only [Pt.U, Pt.locs, Pt.cells, Pt.slots] at X34 l34 y34 z34 st34 hQ34
    subst l34 y34 z34
    obtain ⟨rfl, N34q, hh34⟩ := hQ34
    have N34 := Fr.app N0 N34q
    refine own_go st34 ?_
    show own_G p.tables e below s _ _ _ (T34.setTop (mkF m 12 #[.val (.int p1), .val (.int (8 : Int32)), .unset, .unset] [(.ref c8)]))
    refine own_go (fun t k => XS.astoreN X34.here hx rfl (hb hby at_12) rfl rfl (l' := #[.val (.int p1), .val (.int (8 : Int32)), .val (.ref c8), .unset]) rfl k) ?_
    show own_G p.tables e below s _ _ _ (T34.setTop (mkF m 13 #[.val (.int p1), .val (.int (8 : Int32)), .val (.ref c8), .unset] []))
    refine own_go (fun t k => XS.iloadN X34.here hx rfl (hb hby at_13) rfl k) ?_
    show own_G p.tables e below s _ _ _ (T34.setTop (mkF m 14 #[.val (.int p1), .val (.int (8 : Int32)), .val (.ref c8), .unset] [(.int (8 : Int32))]))
    refine own_go (fun t k => XS.bipush X34.here hx rfl (hb hby at_14) k) ?_
    show own_G p.tables e below s _ _ _ (T34.setTop (mkF m 16 #[.val (.int p1), .val (.int (8 : Int32)), .val (.ref c8), .unset] [(.int (6 : Int32)), (.int (8 : Int32))]))
    refine own_go (fun t k => XS.icmpNo X34.here hx rfl (hb hby at_16) rfl (by decide) k) ?_
    show own_G p.tables e below s _ _ _ (T34.setTop (mkF m 19 #[.val (.int p1), .val (.int (8 : Int32)), .val (.ref c8), .unset] []))
    refine own_go (fun t k => XS.iloadN X34.here hx rfl (hb hby at_19) rfl k) ?_
    show own_G p.tables e below s _ _ _ (T34.setTop (mkF m 20 #[.val (.int p1), .val (.int (8 : Int32)), .val (.ref c8), .unset] [(.int (8 : Int32))]))
    refine own_go (fun t k => XS.bipush X34.here hx rfl (hb hby at_20) k) ?_
    show own_G p.tables e below s _ _ _ (T34.setTop (mkF m 22 #[.val (.int p1), .val (.int (8 : Int32)), .val (.ref c8), .unset] [(.int (9 : Int32)), (.int (8 : Int32))]))
    refine own_go (fun t k => XS.icmpNo X34.here hx rfl (hb hby at_22) rfl (by decide) k) ?_
    show own_G p.tables e below s _ _ _ (T34.setTop (mkF m 25 #[.val (.int p1), .val (.int (8 : Int32)), .val (.ref c8), .unset] []))
    refine own_go (fun t k => XS.iconst X34.here hx rfl (hb hby at_25) k) ?_
    show own_G p.tables e below s _ _ _ (T34.setTop (mkF m 26 #[.val (.int p1), .val (.int (8 : Int32)), .val (.ref c8), .unset] [(.int (1 : Int32))]))
    refine own_go (fun t k => XS.goto X34.here hx rfl (pc0 := 26) (pc' := 30) rfl (hb hby at_26) (by decide) (by decide) k) ?_
    show own_G p.tables e below s _ _ _ (T34.setTop (mkF m 30 #[.val (.int p1), .val (.int (8 : Int32)), .val (.ref c8), .unset] [(.int (1 : Int32))]))
    refine own_go (fun t k => XS.istoreN X34.here hx rfl (hb hby at_30) rfl (l' := #[.val (.int p1), .val (.int (8 : Int32)), .val (.ref c8), .val (.int (1 : Int32))]) rfl k) ?_
    show own_G p.tables e below s _ _ _ (T34.setTop (mkF m 31 #[.val (.int p1), .val (.int (8 : Int32)), .val (.ref c8), .val (.int (1 : Int32))] []))
    refine own_go (fun t k => XS.aloadN X34.here hx rfl (hb hby at_31) rfl rfl k) ?_
    show own_G p.tables e below s _ _ _ (T34.setTop (mkF m 32 #[.val (.int p1), .val (.int (8 : Int32)), .val (.ref c8), .val (.int (1 : Int32))] [(.ref c8)]))
    obtain ⟨cq35, kq35, q35a, q35b, q35c⟩ := isOf hZ hh34 K8.2.1
    obtain ⟨_, _, ⟨T35, L35, k35, n35⟩, -, X35, ⟨Lc35, hQ35, l35, y35, z35⟩, st35⟩ := X34.virtualBack hx (y := (⟨"com/example/kaava/kaava/model/Facet", "isBound", "()Z"⟩ : MethodName)) (z := (⟨"com/example/kaava/kaava/model/Facet", "isBound", "()Z"⟩ : MethodName)) hown (mvT hZ (hw _ (List.mem_of_getElem? (i := 8) rfl))) (mvT hZ (hw _ (List.mem_of_getElem? (i := 9) rfl))) (notFace_of_selects (args := #[]) (mvT hZ (hw _ (List.mem_of_getElem? (i := 11) rfl)))) (mvT hZ (hw _ (List.mem_of_getElem? (i := 11) rfl))) (mvT hZ (hw _ (List.mem_of_getElem? (i := 10) rfl))) (by decide) (backOf (W := 0) (rm2 l Z a0 hw [] c8 c6 c7 c8 c9 (1 : Int32) h0 n0 Z0 K6.1 K7.1 K8.1 K9.1 (if_pos (Or.inr (Or.inr (Or.inl rfl))))) hZ (hw _ (List.mem_of_getElem? (i := 12) rfl)) (hw _ (List.mem_of_getElem? (i := 6) rfl)) (by decide) (by decide)) q35a q35c (g := (mkF m 32 #[.val (.int p1), .val (.int (8 : Int32)), .val (.ref c8), .val (.int (1 : Int32))] [(.ref c8)])) rfl (by rw [hml]; rfl) (Steps.refl _) (argsL := []) (rest := []) (lenOf pd___Z rfl) rfl (by show 2 * 0 + _ ≤ _; exact Nat.le_of_eq rfl) (hb hby at_32) (fun _ _ => ⟨rfl, hh34, (by decide : 0 + 0 ≤ _), (by decide : 0 + 0 ≤ _)⟩)
    dsimp only [Pt.U, Pt.locs, Pt.cells, Pt.slots] at X35 l35 y35 z35 st35 hQ35
    subst l35 y35 z35
    obtain ⟨rfl, N35q, hh35⟩ := hQ35
    have N35 := Fr.app N34 N35q
    refine own_go (fun t k => st35.trans k) ?_
    show own_G p.tables e below s _ _ _ (T35.setTop (mkF m 35 #[.val (.int p1), .val (.int (8 : Int32)), .val (.ref c8), .val (.int (1 : Int32))] [(.int (1 : Int32))]))
    refine own_go (fun t k => XS.iloadN X35.here hx rfl (hb hby at_35) rfl k) ?_
    show own_G p.tables e below s _ _ _ (T35.setTop (mkF m 36 #[.val (.int p1), .val (.int (8 : Int32)), .val (.ref c8), .val (.int (1 : Int32))] [(.int (1 : Int32)), (.int (1 : Int32))]))
    refine own_go (fun t k => XS.icmpNo X35.here hx rfl (hb hby at_36) rfl (by decide) k) ?_
    show own_G p.tables e below s _ _ _ (T35.setTop (mkF m 39 #[.val (.int p1), .val (.int (8 : Int32)), .val (.ref c8), .val (.int (1 : Int32))] []))
    refine own_go (fun t k => XS.iconst X35.here hx rfl (hb hby at_39) k) ?_
    show own_G p.tables e below s _ _ _ (T35.setTop (mkF m 40 #[.val (.int p1), .val (.int (8 : Int32)), .val (.ref c8), .val (.int (1 : Int32))] [(.int (1 : Int32))]))
    refine own_go (fun t k => XS.goto X35.here hx rfl (pc0 := 40) (pc' := 44) rfl (hb hby at_40) (by decide) (by decide) k) ?_
    show own_G p.tables e below s _ _ _ (T35.setTop (mkF m 44 #[.val (.int p1), .val (.int (8 : Int32)), .val (.ref c8), .val (.int (1 : Int32))] [(.int (1 : Int32))]))
    exact own_retN X35 hx hlk (t := .boolean) (z' := (1 : Int32)) Bd.returns (by simp) (hb hby at_44) (rfl) (by rw [hh35]; exact ⟨rfl, N35⟩) (by decide) (by decide)
  · rw [hk]
    show own_G p.tables e below s _ _ _ (s₁.setTop (mkF m 7 #[.val (.int p1), .unset, .unset, .unset] [(.int (9 : Int32))]))
    refine own_go (fun t k => XS.istoreN X0.here hx rfl (hb hby at_7) rfl (l' := #[.val (.int p1), .val (.int (9 : Int32)), .unset, .unset]) rfl k) ?_
    show own_G p.tables e below s _ _ _ (s₁.setTop (mkF m 8 #[.val (.int p1), .val (.int (9 : Int32)), .unset, .unset] []))
    refine own_go (fun t k => XS.iloadN X0.here hx rfl (hb hby at_8) rfl k) ?_
    show own_G p.tables e below s _ _ _ (s₁.setTop (mkF m 9 #[.val (.int p1), .val (.int (9 : Int32)), .unset, .unset] [(.int (9 : Int32))]))
    obtain ⟨_, _, ⟨T36, L36, k36, n36⟩, -, X36, ⟨Lc36, hQ36, l36, y36, z36⟩, st36⟩ := Jvm.LawKit.callS X0 hx (y := (⟨"com/example/kaava/kaava/model/FacetIsBoundPinLaw", "facetAt", "(I)Lcom/example/kaava/kaava/model/Facet;"⟩ : MethodName)) hown (mvT hZ (hw _ (List.mem_of_getElem? (i := 1) rfl))) (mvT hZ (hw _ (List.mem_of_getElem? (i := 2) rfl))) (mvT hZ (hw _ (List.mem_of_getElem? (i := 3) rfl))) (mvT hZ (hw _ (List.mem_of_getElem? (i := 4) rfl))) (by decide) (backOf (W := 0) (rm1_9 l Z a0 hw [] c9 h0 n0 Z0 K9.1) hZ (hw _ (List.mem_of_getElem? (i := 4) rfl)) (hw _ (List.mem_of_getElem? (i := 3) rfl)) (by decide) (by decide)) (g := (mkF m 9 #[.val (.int p1), .val (.int (9 : Int32)), .unset, .unset] [(.int (9 : Int32))])) rfl (by rw [hml]; rfl) (argsL := [(.int (9 : Int32))]) (rest := []) (lenOf pd__I_Lcom_example_kaava_kaava_model_Facet_ rfl) rfl (by show 2 * 0 + _ ≤ _; exact Nat.le_of_eq rfl) (hb hby at_9) (fun _ _ => ⟨rfl, e0, (by decide : 0 + 0 ≤ _), (by decide : 0 + 0 ≤ _)⟩)
    dsimp only [Pt.U, Pt.locs, Pt.cells, Pt.slots] at X36 l36 y36 z36 st36 hQ36
    subst l36 y36 z36
    obtain ⟨rfl, N36q, hh36⟩ := hQ36
    have N36 := Fr.app N0 N36q
    refine own_go st36 ?_
    show own_G p.tables e below s _ _ _ (T36.setTop (mkF m 12 #[.val (.int p1), .val (.int (9 : Int32)), .unset, .unset] [(.ref c9)]))
    refine own_go (fun t k => XS.astoreN X36.here hx rfl (hb hby at_12) rfl rfl (l' := #[.val (.int p1), .val (.int (9 : Int32)), .val (.ref c9), .unset]) rfl k) ?_
    show own_G p.tables e below s _ _ _ (T36.setTop (mkF m 13 #[.val (.int p1), .val (.int (9 : Int32)), .val (.ref c9), .unset] []))
    refine own_go (fun t k => XS.iloadN X36.here hx rfl (hb hby at_13) rfl k) ?_
    show own_G p.tables e below s _ _ _ (T36.setTop (mkF m 14 #[.val (.int p1), .val (.int (9 : Int32)), .val (.ref c9), .unset] [(.int (9 : Int32))]))
    refine own_go (fun t k => XS.bipush X36.here hx rfl (hb hby at_14) k) ?_
    show own_G p.tables e below s _ _ _ (T36.setTop (mkF m 16 #[.val (.int p1), .val (.int (9 : Int32)), .val (.ref c9), .unset] [(.int (6 : Int32)), (.int (9 : Int32))]))
    refine own_go (fun t k => XS.icmpNo X36.here hx rfl (hb hby at_16) rfl (by decide) k) ?_
    show own_G p.tables e below s _ _ _ (T36.setTop (mkF m 19 #[.val (.int p1), .val (.int (9 : Int32)), .val (.ref c9), .unset] []))
    refine own_go (fun t k => XS.iloadN X36.here hx rfl (hb hby at_19) rfl k) ?_
    show own_G p.tables e below s _ _ _ (T36.setTop (mkF m 20 #[.val (.int p1), .val (.int (9 : Int32)), .val (.ref c9), .unset] [(.int (9 : Int32))]))
    refine own_go (fun t k => XS.bipush X36.here hx rfl (hb hby at_20) k) ?_
    show own_G p.tables e below s _ _ _ (T36.setTop (mkF m 22 #[.val (.int p1), .val (.int (9 : Int32)), .val (.ref c9), .unset] [(.int (9 : Int32)), (.int (9 : Int32))]))
    refine own_go (fun t k => XS.icmpNo X36.here hx rfl (hb hby at_22) rfl (by decide) k) ?_
    show own_G p.tables e below s _ _ _ (T36.setTop (mkF m 25 #[.val (.int p1), .val (.int (9 : Int32)), .val (.ref c9), .unset] []))
    refine own_go (fun t k => XS.iconst X36.here hx rfl (hb hby at_25) k) ?_
    show own_G p.tables e below s _ _ _ (T36.setTop (mkF m 26 #[.val (.int p1), .val (.int (9 : Int32)), .val (.ref c9), .unset] [(.int (1 : Int32))]))
    refine own_go (fun t k => XS.goto X36.here hx rfl (pc0 := 26) (pc' := 30) rfl (hb hby at_26) (by decide) (by decide) k) ?_
    show own_G p.tables e below s _ _ _ (T36.setTop (mkF m 30 #[.val (.int p1), .val (.int (9 : Int32)), .val (.ref c9), .unset] [(.int (1 : Int32))]))
    refine own_go (fun t k => XS.istoreN X36.here hx rfl (hb hby at_30) rfl (l' := #[.val (.int p1), .val (.int (9 : Int32)), .val (.ref c9), .val (.int (1 : Int32))]) rfl k) ?_
    show own_G p.tables e below s _ _ _ (T36.setTop (mkF m 31 #[.val (.int p1), .val (.int (9 : Int32)), .val (.ref c9), .val (.int (1 : Int32))] []))
    refine own_go (fun t k => XS.aloadN X36.here hx rfl (hb hby at_31) rfl rfl k) ?_
    show own_G p.tables e below s _ _ _ (T36.setTop (mkF m 32 #[.val (.int p1), .val (.int (9 : Int32)), .val (.ref c9), .val (.int (1 : Int32))] [(.ref c9)]))
    obtain ⟨cq37, kq37, q37a, q37b, q37c⟩ := isOf hZ hh36 K9.2.1
    obtain ⟨_, _, ⟨T37, L37, k37, n37⟩, -, X37, ⟨Lc37, hQ37, l37, y37, z37⟩, st37⟩ := X36.virtualBack hx (y := (⟨"com/example/kaava/kaava/model/Facet", "isBound", "()Z"⟩ : MethodName)) (z := (⟨"com/example/kaava/kaava/model/Facet", "isBound", "()Z"⟩ : MethodName)) hown (mvT hZ (hw _ (List.mem_of_getElem? (i := 8) rfl))) (mvT hZ (hw _ (List.mem_of_getElem? (i := 9) rfl))) (notFace_of_selects (args := #[]) (mvT hZ (hw _ (List.mem_of_getElem? (i := 11) rfl)))) (mvT hZ (hw _ (List.mem_of_getElem? (i := 11) rfl))) (mvT hZ (hw _ (List.mem_of_getElem? (i := 10) rfl))) (by decide) (backOf (W := 0) (rm2 l Z a0 hw [] c9 c6 c7 c8 c9 (1 : Int32) h0 n0 Z0 K6.1 K7.1 K8.1 K9.1 (if_pos (Or.inr (Or.inr (Or.inr (rfl)))))) hZ (hw _ (List.mem_of_getElem? (i := 12) rfl)) (hw _ (List.mem_of_getElem? (i := 6) rfl)) (by decide) (by decide)) q37a q37c (g := (mkF m 32 #[.val (.int p1), .val (.int (9 : Int32)), .val (.ref c9), .val (.int (1 : Int32))] [(.ref c9)])) rfl (by rw [hml]; rfl) (Steps.refl _) (argsL := []) (rest := []) (lenOf pd___Z rfl) rfl (by show 2 * 0 + _ ≤ _; exact Nat.le_of_eq rfl) (hb hby at_32) (fun _ _ => ⟨rfl, hh36, (by decide : 0 + 0 ≤ _), (by decide : 0 + 0 ≤ _)⟩)
    dsimp only [Pt.U, Pt.locs, Pt.cells, Pt.slots] at X37 l37 y37 z37 st37 hQ37
    subst l37 y37 z37
    obtain ⟨rfl, N37q, hh37⟩ := hQ37
    have N37 := Fr.app N36 N37q
    refine own_go (fun t k => st37.trans k) ?_
    show own_G p.tables e below s _ _ _ (T37.setTop (mkF m 35 #[.val (.int p1), .val (.int (9 : Int32)), .val (.ref c9), .val (.int (1 : Int32))] [(.int (1 : Int32))]))
    refine own_go (fun t k => XS.iloadN X37.here hx rfl (hb hby at_35) rfl k) ?_
    show own_G p.tables e below s _ _ _ (T37.setTop (mkF m 36 #[.val (.int p1), .val (.int (9 : Int32)), .val (.ref c9), .val (.int (1 : Int32))] [(.int (1 : Int32)), (.int (1 : Int32))]))
    refine own_go (fun t k => XS.icmpNo X37.here hx rfl (hb hby at_36) rfl (by decide) k) ?_
    show own_G p.tables e below s _ _ _ (T37.setTop (mkF m 39 #[.val (.int p1), .val (.int (9 : Int32)), .val (.ref c9), .val (.int (1 : Int32))] []))
    refine own_go (fun t k => XS.iconst X37.here hx rfl (hb hby at_39) k) ?_
    show own_G p.tables e below s _ _ _ (T37.setTop (mkF m 40 #[.val (.int p1), .val (.int (9 : Int32)), .val (.ref c9), .val (.int (1 : Int32))] [(.int (1 : Int32))]))
    refine own_go (fun t k => XS.goto X37.here hx rfl (pc0 := 40) (pc' := 44) rfl (hb hby at_40) (by decide) (by decide) k) ?_
    show own_G p.tables e below s _ _ _ (T37.setTop (mkF m 44 #[.val (.int p1), .val (.int (9 : Int32)), .val (.ref c9), .val (.int (1 : Int32))] [(.int (1 : Int32))]))
    exact own_retN X37 hx hlk (t := .boolean) (z' := (1 : Int32)) Bd.returns (by simp) (hb hby at_44) (rfl) (by rw [hh37]; exact ⟨rfl, N37⟩) (by decide) (by decide)
  · rw [hk]
    show own_G p.tables e below s _ _ _ (s₁.setTop (mkF m 7 #[.val (.int p1), .unset, .unset, .unset] [(.int (10 : Int32))]))
    refine own_go (fun t k => XS.istoreN X0.here hx rfl (hb hby at_7) rfl (l' := #[.val (.int p1), .val (.int (10 : Int32)), .unset, .unset]) rfl k) ?_
    show own_G p.tables e below s _ _ _ (s₁.setTop (mkF m 8 #[.val (.int p1), .val (.int (10 : Int32)), .unset, .unset] []))
    refine own_go (fun t k => XS.iloadN X0.here hx rfl (hb hby at_8) rfl k) ?_
    show own_G p.tables e below s _ _ _ (s₁.setTop (mkF m 9 #[.val (.int p1), .val (.int (10 : Int32)), .unset, .unset] [(.int (10 : Int32))]))
    obtain ⟨_, _, ⟨T38, L38, k38, n38⟩, -, X38, ⟨Lc38, hQ38, l38, y38, z38⟩, st38⟩ := Jvm.LawKit.callS X0 hx (y := (⟨"com/example/kaava/kaava/model/FacetIsBoundPinLaw", "facetAt", "(I)Lcom/example/kaava/kaava/model/Facet;"⟩ : MethodName)) hown (mvT hZ (hw _ (List.mem_of_getElem? (i := 1) rfl))) (mvT hZ (hw _ (List.mem_of_getElem? (i := 2) rfl))) (mvT hZ (hw _ (List.mem_of_getElem? (i := 3) rfl))) (mvT hZ (hw _ (List.mem_of_getElem? (i := 4) rfl))) (by decide) (backOf (W := 0) (rm1_10 l Z a0 hw [] c10 h0 n0 Z0 K10.1) hZ (hw _ (List.mem_of_getElem? (i := 4) rfl)) (hw _ (List.mem_of_getElem? (i := 3) rfl)) (by decide) (by decide)) (g := (mkF m 9 #[.val (.int p1), .val (.int (10 : Int32)), .unset, .unset] [(.int (10 : Int32))])) rfl (by rw [hml]; rfl) (argsL := [(.int (10 : Int32))]) (rest := []) (lenOf pd__I_Lcom_example_kaava_kaava_model_Facet_ rfl) rfl (by show 2 * 0 + _ ≤ _; exact Nat.le_of_eq rfl) (hb hby at_9) (fun _ _ => ⟨rfl, e0, (by decide : 0 + 0 ≤ _), (by decide : 0 + 0 ≤ _)⟩)
    dsimp only [Pt.U, Pt.locs, Pt.cells, Pt.slots] at X38 l38 y38 z38 st38 hQ38
    subst l38 y38 z38
    obtain ⟨rfl, N38q, hh38⟩ := hQ38
    have N38 := Fr.app N0 N38q
    refine own_go st38 ?_
    show own_G p.tables e below s _ _ _ (T38.setTop (mkF m 12 #[.val (.int p1), .val (.int (10 : Int32)), .unset, .unset] [(.ref c10)]))
    refine own_go (fun t k => XS.astoreN X38.here hx rfl (hb hby at_12) rfl rfl (l' := #[.val (.int p1), .val (.int (10 : Int32)), .val (.ref c10), .unset]) rfl k) ?_
    show own_G p.tables e below s _ _ _ (T38.setTop (mkF m 13 #[.val (.int p1), .val (.int (10 : Int32)), .val (.ref c10), .unset] []))
    refine own_go (fun t k => XS.iloadN X38.here hx rfl (hb hby at_13) rfl k) ?_
    show own_G p.tables e below s _ _ _ (T38.setTop (mkF m 14 #[.val (.int p1), .val (.int (10 : Int32)), .val (.ref c10), .unset] [(.int (10 : Int32))]))
    refine own_go (fun t k => XS.bipush X38.here hx rfl (hb hby at_14) k) ?_
    show own_G p.tables e below s _ _ _ (T38.setTop (mkF m 16 #[.val (.int p1), .val (.int (10 : Int32)), .val (.ref c10), .unset] [(.int (6 : Int32)), (.int (10 : Int32))]))
    refine own_go (fun t k => XS.icmpNo X38.here hx rfl (hb hby at_16) rfl (by decide) k) ?_
    show own_G p.tables e below s _ _ _ (T38.setTop (mkF m 19 #[.val (.int p1), .val (.int (10 : Int32)), .val (.ref c10), .unset] []))
    refine own_go (fun t k => XS.iloadN X38.here hx rfl (hb hby at_19) rfl k) ?_
    show own_G p.tables e below s _ _ _ (T38.setTop (mkF m 20 #[.val (.int p1), .val (.int (10 : Int32)), .val (.ref c10), .unset] [(.int (10 : Int32))]))
    refine own_go (fun t k => XS.bipush X38.here hx rfl (hb hby at_20) k) ?_
    show own_G p.tables e below s _ _ _ (T38.setTop (mkF m 22 #[.val (.int p1), .val (.int (10 : Int32)), .val (.ref c10), .unset] [(.int (9 : Int32)), (.int (10 : Int32))]))
    refine own_go (fun t k => XS.icmpYes X38.here hx rfl (pc0 := 22) (pc' := 29) rfl (hb hby at_22) rfl (by decide) (by decide) (by decide) k) ?_
    show own_G p.tables e below s _ _ _ (T38.setTop (mkF m 29 #[.val (.int p1), .val (.int (10 : Int32)), .val (.ref c10), .unset] []))
    refine own_go (fun t k => XS.iconst X38.here hx rfl (hb hby at_29) k) ?_
    show own_G p.tables e below s _ _ _ (T38.setTop (mkF m 30 #[.val (.int p1), .val (.int (10 : Int32)), .val (.ref c10), .unset] [(.int (0 : Int32))]))
    refine own_go (fun t k => XS.istoreN X38.here hx rfl (hb hby at_30) rfl (l' := #[.val (.int p1), .val (.int (10 : Int32)), .val (.ref c10), .val (.int (0 : Int32))]) rfl k) ?_
    show own_G p.tables e below s _ _ _ (T38.setTop (mkF m 31 #[.val (.int p1), .val (.int (10 : Int32)), .val (.ref c10), .val (.int (0 : Int32))] []))
    refine own_go (fun t k => XS.aloadN X38.here hx rfl (hb hby at_31) rfl rfl k) ?_
    show own_G p.tables e below s _ _ _ (T38.setTop (mkF m 32 #[.val (.int p1), .val (.int (10 : Int32)), .val (.ref c10), .val (.int (0 : Int32))] [(.ref c10)]))
    obtain ⟨cq39, kq39, q39a, q39b, q39c⟩ := isOf hZ hh38 K10.2.1
    obtain ⟨_, _, ⟨T39, L39, k39, n39⟩, -, X39, ⟨Lc39, hQ39, l39, y39, z39⟩, st39⟩ := X38.virtualBack hx (y := (⟨"com/example/kaava/kaava/model/Facet", "isBound", "()Z"⟩ : MethodName)) (z := (⟨"com/example/kaava/kaava/model/Facet", "isBound", "()Z"⟩ : MethodName)) hown (mvT hZ (hw _ (List.mem_of_getElem? (i := 8) rfl))) (mvT hZ (hw _ (List.mem_of_getElem? (i := 9) rfl))) (notFace_of_selects (args := #[]) (mvT hZ (hw _ (List.mem_of_getElem? (i := 11) rfl)))) (mvT hZ (hw _ (List.mem_of_getElem? (i := 11) rfl))) (mvT hZ (hw _ (List.mem_of_getElem? (i := 10) rfl))) (by decide) (backOf (W := 0) (rm2 l Z a0 hw [] c10 c6 c7 c8 c9 (0 : Int32) h0 n0 Z0 K6.1 K7.1 K8.1 K9.1 (if_neg (fun q => q.elim (own_ne K10 K6 (by decide)) fun q => q.elim (own_ne K10 K7 (by decide)) fun q => q.elim (own_ne K10 K8 (by decide)) (own_ne K10 K9 (by decide))))) hZ (hw _ (List.mem_of_getElem? (i := 12) rfl)) (hw _ (List.mem_of_getElem? (i := 6) rfl)) (by decide) (by decide)) q39a q39c (g := (mkF m 32 #[.val (.int p1), .val (.int (10 : Int32)), .val (.ref c10), .val (.int (0 : Int32))] [(.ref c10)])) rfl (by rw [hml]; rfl) (Steps.refl _) (argsL := []) (rest := []) (lenOf pd___Z rfl) rfl (by show 2 * 0 + _ ≤ _; exact Nat.le_of_eq rfl) (hb hby at_32) (fun _ _ => ⟨rfl, hh38, (by decide : 0 + 0 ≤ _), (by decide : 0 + 0 ≤ _)⟩)
    dsimp only [Pt.U, Pt.locs, Pt.cells, Pt.slots] at X39 l39 y39 z39 st39 hQ39
    subst l39 y39 z39
    obtain ⟨rfl, N39q, hh39⟩ := hQ39
    have N39 := Fr.app N38 N39q
    refine own_go (fun t k => st39.trans k) ?_
    show own_G p.tables e below s _ _ _ (T39.setTop (mkF m 35 #[.val (.int p1), .val (.int (10 : Int32)), .val (.ref c10), .val (.int (0 : Int32))] [(.int (0 : Int32))]))
    refine own_go (fun t k => XS.iloadN X39.here hx rfl (hb hby at_35) rfl k) ?_
    show own_G p.tables e below s _ _ _ (T39.setTop (mkF m 36 #[.val (.int p1), .val (.int (10 : Int32)), .val (.ref c10), .val (.int (0 : Int32))] [(.int (0 : Int32)), (.int (0 : Int32))]))
    refine own_go (fun t k => XS.icmpNo X39.here hx rfl (hb hby at_36) rfl (by decide) k) ?_
    show own_G p.tables e below s _ _ _ (T39.setTop (mkF m 39 #[.val (.int p1), .val (.int (10 : Int32)), .val (.ref c10), .val (.int (0 : Int32))] []))
    refine own_go (fun t k => XS.iconst X39.here hx rfl (hb hby at_39) k) ?_
    show own_G p.tables e below s _ _ _ (T39.setTop (mkF m 40 #[.val (.int p1), .val (.int (10 : Int32)), .val (.ref c10), .val (.int (0 : Int32))] [(.int (1 : Int32))]))
    refine own_go (fun t k => XS.goto X39.here hx rfl (pc0 := 40) (pc' := 44) rfl (hb hby at_40) (by decide) (by decide) k) ?_
    show own_G p.tables e below s _ _ _ (T39.setTop (mkF m 44 #[.val (.int p1), .val (.int (10 : Int32)), .val (.ref c10), .val (.int (0 : Int32))] [(.int (1 : Int32))]))
    exact own_retN X39 hx hlk (t := .boolean) (z' := (1 : Int32)) Bd.returns (by simp) (hb hby at_44) (rfl) (by rw [hh39]; exact ⟨rfl, N39⟩) (by decide) (by decide)
  · rw [hk]
    show own_G p.tables e below s _ _ _ (s₁.setTop (mkF m 7 #[.val (.int p1), .unset, .unset, .unset] [(.int (11 : Int32))]))
    refine own_go (fun t k => XS.istoreN X0.here hx rfl (hb hby at_7) rfl (l' := #[.val (.int p1), .val (.int (11 : Int32)), .unset, .unset]) rfl k) ?_
    show own_G p.tables e below s _ _ _ (s₁.setTop (mkF m 8 #[.val (.int p1), .val (.int (11 : Int32)), .unset, .unset] []))
    refine own_go (fun t k => XS.iloadN X0.here hx rfl (hb hby at_8) rfl k) ?_
    show own_G p.tables e below s _ _ _ (s₁.setTop (mkF m 9 #[.val (.int p1), .val (.int (11 : Int32)), .unset, .unset] [(.int (11 : Int32))]))
    obtain ⟨_, _, ⟨T40, L40, k40, n40⟩, -, X40, ⟨Lc40, hQ40, l40, y40, z40⟩, st40⟩ := Jvm.LawKit.callS X0 hx (y := (⟨"com/example/kaava/kaava/model/FacetIsBoundPinLaw", "facetAt", "(I)Lcom/example/kaava/kaava/model/Facet;"⟩ : MethodName)) hown (mvT hZ (hw _ (List.mem_of_getElem? (i := 1) rfl))) (mvT hZ (hw _ (List.mem_of_getElem? (i := 2) rfl))) (mvT hZ (hw _ (List.mem_of_getElem? (i := 3) rfl))) (mvT hZ (hw _ (List.mem_of_getElem? (i := 4) rfl))) (by decide) (backOf (W := 0) (rm1_11 l Z a0 hw [] c11 h0 n0 Z0 K11.1) hZ (hw _ (List.mem_of_getElem? (i := 4) rfl)) (hw _ (List.mem_of_getElem? (i := 3) rfl)) (by decide) (by decide)) (g := (mkF m 9 #[.val (.int p1), .val (.int (11 : Int32)), .unset, .unset] [(.int (11 : Int32))])) rfl (by rw [hml]; rfl) (argsL := [(.int (11 : Int32))]) (rest := []) (lenOf pd__I_Lcom_example_kaava_kaava_model_Facet_ rfl) rfl (by show 2 * 0 + _ ≤ _; exact Nat.le_of_eq rfl) (hb hby at_9) (fun _ _ => ⟨rfl, e0, (by decide : 0 + 0 ≤ _), (by decide : 0 + 0 ≤ _)⟩)
    dsimp only [Pt.U, Pt.locs, Pt.cells, Pt.slots] at X40 l40 y40 z40 st40 hQ40
    subst l40 y40 z40
    obtain ⟨rfl, N40q, hh40⟩ := hQ40
    have N40 := Fr.app N0 N40q
    refine own_go st40 ?_
    show own_G p.tables e below s _ _ _ (T40.setTop (mkF m 12 #[.val (.int p1), .val (.int (11 : Int32)), .unset, .unset] [(.ref c11)]))
    refine own_go (fun t k => XS.astoreN X40.here hx rfl (hb hby at_12) rfl rfl (l' := #[.val (.int p1), .val (.int (11 : Int32)), .val (.ref c11), .unset]) rfl k) ?_
    show own_G p.tables e below s _ _ _ (T40.setTop (mkF m 13 #[.val (.int p1), .val (.int (11 : Int32)), .val (.ref c11), .unset] []))
    refine own_go (fun t k => XS.iloadN X40.here hx rfl (hb hby at_13) rfl k) ?_
    show own_G p.tables e below s _ _ _ (T40.setTop (mkF m 14 #[.val (.int p1), .val (.int (11 : Int32)), .val (.ref c11), .unset] [(.int (11 : Int32))]))
    refine own_go (fun t k => XS.bipush X40.here hx rfl (hb hby at_14) k) ?_
    show own_G p.tables e below s _ _ _ (T40.setTop (mkF m 16 #[.val (.int p1), .val (.int (11 : Int32)), .val (.ref c11), .unset] [(.int (6 : Int32)), (.int (11 : Int32))]))
    refine own_go (fun t k => XS.icmpNo X40.here hx rfl (hb hby at_16) rfl (by decide) k) ?_
    show own_G p.tables e below s _ _ _ (T40.setTop (mkF m 19 #[.val (.int p1), .val (.int (11 : Int32)), .val (.ref c11), .unset] []))
    refine own_go (fun t k => XS.iloadN X40.here hx rfl (hb hby at_19) rfl k) ?_
    show own_G p.tables e below s _ _ _ (T40.setTop (mkF m 20 #[.val (.int p1), .val (.int (11 : Int32)), .val (.ref c11), .unset] [(.int (11 : Int32))]))
    refine own_go (fun t k => XS.bipush X40.here hx rfl (hb hby at_20) k) ?_
    show own_G p.tables e below s _ _ _ (T40.setTop (mkF m 22 #[.val (.int p1), .val (.int (11 : Int32)), .val (.ref c11), .unset] [(.int (9 : Int32)), (.int (11 : Int32))]))
    refine own_go (fun t k => XS.icmpYes X40.here hx rfl (pc0 := 22) (pc' := 29) rfl (hb hby at_22) rfl (by decide) (by decide) (by decide) k) ?_
    show own_G p.tables e below s _ _ _ (T40.setTop (mkF m 29 #[.val (.int p1), .val (.int (11 : Int32)), .val (.ref c11), .unset] []))
    refine own_go (fun t k => XS.iconst X40.here hx rfl (hb hby at_29) k) ?_
    show own_G p.tables e below s _ _ _ (T40.setTop (mkF m 30 #[.val (.int p1), .val (.int (11 : Int32)), .val (.ref c11), .unset] [(.int (0 : Int32))]))
    refine own_go (fun t k => XS.istoreN X40.here hx rfl (hb hby at_30) rfl (l' := #[.val (.int p1), .val (.int (11 : Int32)), .val (.ref c11), .val (.int (0 : Int32))]) rfl k) ?_
    show own_G p.tables e below s _ _ _ (T40.setTop (mkF m 31 #[.val (.int p1), .val (.int (11 : Int32)), .val (.ref c11), .val (.int (0 : Int32))] []))
    refine own_go (fun t k => XS.aloadN X40.here hx rfl (hb hby at_31) rfl rfl k) ?_
    show own_G p.tables e below s _ _ _ (T40.setTop (mkF m 32 #[.val (.int p1), .val (.int (11 : Int32)), .val (.ref c11), .val (.int (0 : Int32))] [(.ref c11)]))
    obtain ⟨cq41, kq41, q41a, q41b, q41c⟩ := isOf hZ hh40 K11.2.1
    obtain ⟨_, _, ⟨T41, L41, k41, n41⟩, -, X41, ⟨Lc41, hQ41, l41, y41, z41⟩, st41⟩ := X40.virtualBack hx (y := (⟨"com/example/kaava/kaava/model/Facet", "isBound", "()Z"⟩ : MethodName)) (z := (⟨"com/example/kaava/kaava/model/Facet", "isBound", "()Z"⟩ : MethodName)) hown (mvT hZ (hw _ (List.mem_of_getElem? (i := 8) rfl))) (mvT hZ (hw _ (List.mem_of_getElem? (i := 9) rfl))) (notFace_of_selects (args := #[]) (mvT hZ (hw _ (List.mem_of_getElem? (i := 11) rfl)))) (mvT hZ (hw _ (List.mem_of_getElem? (i := 11) rfl))) (mvT hZ (hw _ (List.mem_of_getElem? (i := 10) rfl))) (by decide) (backOf (W := 0) (rm2 l Z a0 hw [] c11 c6 c7 c8 c9 (0 : Int32) h0 n0 Z0 K6.1 K7.1 K8.1 K9.1 (if_neg (fun q => q.elim (own_ne K11 K6 (by decide)) fun q => q.elim (own_ne K11 K7 (by decide)) fun q => q.elim (own_ne K11 K8 (by decide)) (own_ne K11 K9 (by decide))))) hZ (hw _ (List.mem_of_getElem? (i := 12) rfl)) (hw _ (List.mem_of_getElem? (i := 6) rfl)) (by decide) (by decide)) q41a q41c (g := (mkF m 32 #[.val (.int p1), .val (.int (11 : Int32)), .val (.ref c11), .val (.int (0 : Int32))] [(.ref c11)])) rfl (by rw [hml]; rfl) (Steps.refl _) (argsL := []) (rest := []) (lenOf pd___Z rfl) rfl (by show 2 * 0 + _ ≤ _; exact Nat.le_of_eq rfl) (hb hby at_32) (fun _ _ => ⟨rfl, hh40, (by decide : 0 + 0 ≤ _), (by decide : 0 + 0 ≤ _)⟩)
    dsimp only [Pt.U, Pt.locs, Pt.cells, Pt.slots] at X41 l41 y41 z41 st41 hQ41
    subst l41 y41 z41
    obtain ⟨rfl, N41q, hh41⟩ := hQ41
    have N41 := Fr.app N40 N41q
    refine own_go (fun t k => st41.trans k) ?_
    show own_G p.tables e below s _ _ _ (T41.setTop (mkF m 35 #[.val (.int p1), .val (.int (11 : Int32)), .val (.ref c11), .val (.int (0 : Int32))] [(.int (0 : Int32))]))
    refine own_go (fun t k => XS.iloadN X41.here hx rfl (hb hby at_35) rfl k) ?_
    show own_G p.tables e below s _ _ _ (T41.setTop (mkF m 36 #[.val (.int p1), .val (.int (11 : Int32)), .val (.ref c11), .val (.int (0 : Int32))] [(.int (0 : Int32)), (.int (0 : Int32))]))
    refine own_go (fun t k => XS.icmpNo X41.here hx rfl (hb hby at_36) rfl (by decide) k) ?_
    show own_G p.tables e below s _ _ _ (T41.setTop (mkF m 39 #[.val (.int p1), .val (.int (11 : Int32)), .val (.ref c11), .val (.int (0 : Int32))] []))
    refine own_go (fun t k => XS.iconst X41.here hx rfl (hb hby at_39) k) ?_
    show own_G p.tables e below s _ _ _ (T41.setTop (mkF m 40 #[.val (.int p1), .val (.int (11 : Int32)), .val (.ref c11), .val (.int (0 : Int32))] [(.int (1 : Int32))]))
    refine own_go (fun t k => XS.goto X41.here hx rfl (pc0 := 40) (pc' := 44) rfl (hb hby at_40) (by decide) (by decide) k) ?_
    show own_G p.tables e below s _ _ _ (T41.setTop (mkF m 44 #[.val (.int p1), .val (.int (11 : Int32)), .val (.ref c11), .val (.int (0 : Int32))] [(.int (1 : Int32))]))
    exact own_retN X41 hx hlk (t := .boolean) (z' := (1 : Int32)) Bd.returns (by simp) (hb hby at_44) (rfl) (by rw [hh41]; exact ⟨rfl, N41⟩) (by decide) (by decide)
  · rw [hk]
    show own_G p.tables e below s _ _ _ (s₁.setTop (mkF m 7 #[.val (.int p1), .unset, .unset, .unset] [(.int (12 : Int32))]))
    refine own_go (fun t k => XS.istoreN X0.here hx rfl (hb hby at_7) rfl (l' := #[.val (.int p1), .val (.int (12 : Int32)), .unset, .unset]) rfl k) ?_
    show own_G p.tables e below s _ _ _ (s₁.setTop (mkF m 8 #[.val (.int p1), .val (.int (12 : Int32)), .unset, .unset] []))
    refine own_go (fun t k => XS.iloadN X0.here hx rfl (hb hby at_8) rfl k) ?_
    show own_G p.tables e below s _ _ _ (s₁.setTop (mkF m 9 #[.val (.int p1), .val (.int (12 : Int32)), .unset, .unset] [(.int (12 : Int32))]))
    obtain ⟨_, _, ⟨T42, L42, k42, n42⟩, -, X42, ⟨Lc42, hQ42, l42, y42, z42⟩, st42⟩ := Jvm.LawKit.callS X0 hx (y := (⟨"com/example/kaava/kaava/model/FacetIsBoundPinLaw", "facetAt", "(I)Lcom/example/kaava/kaava/model/Facet;"⟩ : MethodName)) hown (mvT hZ (hw _ (List.mem_of_getElem? (i := 1) rfl))) (mvT hZ (hw _ (List.mem_of_getElem? (i := 2) rfl))) (mvT hZ (hw _ (List.mem_of_getElem? (i := 3) rfl))) (mvT hZ (hw _ (List.mem_of_getElem? (i := 4) rfl))) (by decide) (backOf (W := 0) (rm1_12 l Z a0 hw [] c12 h0 n0 Z0 K12.1) hZ (hw _ (List.mem_of_getElem? (i := 4) rfl)) (hw _ (List.mem_of_getElem? (i := 3) rfl)) (by decide) (by decide)) (g := (mkF m 9 #[.val (.int p1), .val (.int (12 : Int32)), .unset, .unset] [(.int (12 : Int32))])) rfl (by rw [hml]; rfl) (argsL := [(.int (12 : Int32))]) (rest := []) (lenOf pd__I_Lcom_example_kaava_kaava_model_Facet_ rfl) rfl (by show 2 * 0 + _ ≤ _; exact Nat.le_of_eq rfl) (hb hby at_9) (fun _ _ => ⟨rfl, e0, (by decide : 0 + 0 ≤ _), (by decide : 0 + 0 ≤ _)⟩)
    dsimp only [Pt.U, Pt.locs, Pt.cells, Pt.slots] at X42 l42 y42 z42 st42 hQ42
    subst l42 y42 z42
    obtain ⟨rfl, N42q, hh42⟩ := hQ42
    have N42 := Fr.app N0 N42q
    refine own_go st42 ?_
    show own_G p.tables e below s _ _ _ (T42.setTop (mkF m 12 #[.val (.int p1), .val (.int (12 : Int32)), .unset, .unset] [(.ref c12)]))
    refine own_go (fun t k => XS.astoreN X42.here hx rfl (hb hby at_12) rfl rfl (l' := #[.val (.int p1), .val (.int (12 : Int32)), .val (.ref c12), .unset]) rfl k) ?_
    show own_G p.tables e below s _ _ _ (T42.setTop (mkF m 13 #[.val (.int p1), .val (.int (12 : Int32)), .val (.ref c12), .unset] []))
    refine own_go (fun t k => XS.iloadN X42.here hx rfl (hb hby at_13) rfl k) ?_
    show own_G p.tables e below s _ _ _ (T42.setTop (mkF m 14 #[.val (.int p1), .val (.int (12 : Int32)), .val (.ref c12), .unset] [(.int (12 : Int32))]))
    refine own_go (fun t k => XS.bipush X42.here hx rfl (hb hby at_14) k) ?_
    show own_G p.tables e below s _ _ _ (T42.setTop (mkF m 16 #[.val (.int p1), .val (.int (12 : Int32)), .val (.ref c12), .unset] [(.int (6 : Int32)), (.int (12 : Int32))]))
    refine own_go (fun t k => XS.icmpNo X42.here hx rfl (hb hby at_16) rfl (by decide) k) ?_
    show own_G p.tables e below s _ _ _ (T42.setTop (mkF m 19 #[.val (.int p1), .val (.int (12 : Int32)), .val (.ref c12), .unset] []))
    refine own_go (fun t k => XS.iloadN X42.here hx rfl (hb hby at_19) rfl k) ?_
    show own_G p.tables e below s _ _ _ (T42.setTop (mkF m 20 #[.val (.int p1), .val (.int (12 : Int32)), .val (.ref c12), .unset] [(.int (12 : Int32))]))
    refine own_go (fun t k => XS.bipush X42.here hx rfl (hb hby at_20) k) ?_
    show own_G p.tables e below s _ _ _ (T42.setTop (mkF m 22 #[.val (.int p1), .val (.int (12 : Int32)), .val (.ref c12), .unset] [(.int (9 : Int32)), (.int (12 : Int32))]))
    refine own_go (fun t k => XS.icmpYes X42.here hx rfl (pc0 := 22) (pc' := 29) rfl (hb hby at_22) rfl (by decide) (by decide) (by decide) k) ?_
    show own_G p.tables e below s _ _ _ (T42.setTop (mkF m 29 #[.val (.int p1), .val (.int (12 : Int32)), .val (.ref c12), .unset] []))
    refine own_go (fun t k => XS.iconst X42.here hx rfl (hb hby at_29) k) ?_
    show own_G p.tables e below s _ _ _ (T42.setTop (mkF m 30 #[.val (.int p1), .val (.int (12 : Int32)), .val (.ref c12), .unset] [(.int (0 : Int32))]))
    refine own_go (fun t k => XS.istoreN X42.here hx rfl (hb hby at_30) rfl (l' := #[.val (.int p1), .val (.int (12 : Int32)), .val (.ref c12), .val (.int (0 : Int32))]) rfl k) ?_
    show own_G p.tables e below s _ _ _ (T42.setTop (mkF m 31 #[.val (.int p1), .val (.int (12 : Int32)), .val (.ref c12), .val (.int (0 : Int32))] []))
    refine own_go (fun t k => XS.aloadN X42.here hx rfl (hb hby at_31) rfl rfl k) ?_
    show own_G p.tables e below s _ _ _ (T42.setTop (mkF m 32 #[.val (.int p1), .val (.int (12 : Int32)), .val (.ref c12), .val (.int (0 : Int32))] [(.ref c12)]))
    obtain ⟨cq43, kq43, q43a, q43b, q43c⟩ := isOf hZ hh42 K12.2.1
    obtain ⟨_, _, ⟨T43, L43, k43, n43⟩, -, X43, ⟨Lc43, hQ43, l43, y43, z43⟩, st43⟩ := X42.virtualBack hx (y := (⟨"com/example/kaava/kaava/model/Facet", "isBound", "()Z"⟩ : MethodName)) (z := (⟨"com/example/kaava/kaava/model/Facet", "isBound", "()Z"⟩ : MethodName)) hown (mvT hZ (hw _ (List.mem_of_getElem? (i := 8) rfl))) (mvT hZ (hw _ (List.mem_of_getElem? (i := 9) rfl))) (notFace_of_selects (args := #[]) (mvT hZ (hw _ (List.mem_of_getElem? (i := 11) rfl)))) (mvT hZ (hw _ (List.mem_of_getElem? (i := 11) rfl))) (mvT hZ (hw _ (List.mem_of_getElem? (i := 10) rfl))) (by decide) (backOf (W := 0) (rm2 l Z a0 hw [] c12 c6 c7 c8 c9 (0 : Int32) h0 n0 Z0 K6.1 K7.1 K8.1 K9.1 (if_neg (fun q => q.elim (own_ne K12 K6 (by decide)) fun q => q.elim (own_ne K12 K7 (by decide)) fun q => q.elim (own_ne K12 K8 (by decide)) (own_ne K12 K9 (by decide))))) hZ (hw _ (List.mem_of_getElem? (i := 12) rfl)) (hw _ (List.mem_of_getElem? (i := 6) rfl)) (by decide) (by decide)) q43a q43c (g := (mkF m 32 #[.val (.int p1), .val (.int (12 : Int32)), .val (.ref c12), .val (.int (0 : Int32))] [(.ref c12)])) rfl (by rw [hml]; rfl) (Steps.refl _) (argsL := []) (rest := []) (lenOf pd___Z rfl) rfl (by show 2 * 0 + _ ≤ _; exact Nat.le_of_eq rfl) (hb hby at_32) (fun _ _ => ⟨rfl, hh42, (by decide : 0 + 0 ≤ _), (by decide : 0 + 0 ≤ _)⟩)
    dsimp only [Pt.U, Pt.locs, Pt.cells, Pt.slots] at X43 l43 y43 z43 st43 hQ43
    subst l43 y43 z43
    obtain ⟨rfl, N43q, hh43⟩ := hQ43
    have N43 := Fr.app N42 N43q
    refine own_go (fun t k => st43.trans k) ?_
    show own_G p.tables e below s _ _ _ (T43.setTop (mkF m 35 #[.val (.int p1), .val (.int (12 : Int32)), .val (.ref c12), .val (.int (0 : Int32))] [(.int (0 : Int32))]))
    refine own_go (fun t k => XS.iloadN X43.here hx rfl (hb hby at_35) rfl k) ?_
    show own_G p.tables e below s _ _ _ (T43.setTop (mkF m 36 #[.val (.int p1), .val (.int (12 : Int32)), .val (.ref c12), .val (.int (0 : Int32))] [(.int (0 : Int32)), (.int (0 : Int32))]))
    refine own_go (fun t k => XS.icmpNo X43.here hx rfl (hb hby at_36) rfl (by decide) k) ?_
    show own_G p.tables e below s _ _ _ (T43.setTop (mkF m 39 #[.val (.int p1), .val (.int (12 : Int32)), .val (.ref c12), .val (.int (0 : Int32))] []))
    refine own_go (fun t k => XS.iconst X43.here hx rfl (hb hby at_39) k) ?_
    show own_G p.tables e below s _ _ _ (T43.setTop (mkF m 40 #[.val (.int p1), .val (.int (12 : Int32)), .val (.ref c12), .val (.int (0 : Int32))] [(.int (1 : Int32))]))
    refine own_go (fun t k => XS.goto X43.here hx rfl (pc0 := 40) (pc' := 44) rfl (hb hby at_40) (by decide) (by decide) k) ?_
    show own_G p.tables e below s _ _ _ (T43.setTop (mkF m 44 #[.val (.int p1), .val (.int (12 : Int32)), .val (.ref c12), .val (.int (0 : Int32))] [(.int (1 : Int32))]))
    exact own_retN X43 hx hlk (t := .boolean) (z' := (1 : Int32)) Bd.returns (by simp) (hb hby at_44) (rfl) (by rw [hh43]; exact ⟨rfl, N43⟩) (by decide) (by decide)
set_option maxRecDepth 65536 in
set_option maxHeartbeats 40000000 in
theorem comes_1 {Post : Tables → Env → Array Value → State → Outcome → State → Prop} (hpost : ∀ tb e args s v u, (limb_1_1.after args s (.returned v) u = true ∧ limb_1_2.after args s (.returned v) u = true ∧ True) → FrameEnd s (.returned v) u (Jvm.fieldLocs frame_1_writes args s ++ Jvm.arrayLocs frame_1_arrays args s ++ Jvm.staticLocs frame_1_statics s) 0 0 → Post tb e args s (.returned v) u) :
    ArmFor flags0 classFile x code maxLocals ret World_1 tables_1 room_1 Calls_1 rest_1 Pre_1 Post := by
  intro l hfl _ _ p e ha hc hk s m args below hf hA hF happ hP
  obtain ⟨hcalls, hrest, hpre⟩ := hP
  obtain ⟨-, -, -, hnamed, -, -, -, hat⟩ := (Spec.applies_iff hf).mp happ
  obtain ⟨hg, hn⟩ := and_e (Cond.before_iff.mp (show (Jvm.Cond.and given_1 narrow_1).before args s = true from hpre))
  obtain ⟨gc, g0'⟩ := and_e hg
  have ga0 := g0'
  obtain ⟨w0, rfl⟩ : ∃ w0 : Value, args = #[w0] := by
    have hs : args.size = 1 := by simpa [Cond.value, given_1] using gc
    obtain ⟨L⟩ := args
    match L, hs with
    | [w0], _ => exact ⟨w0, rfl⟩
  have hw := fun d (hd : d ∈ tables_1) => atoms_spec (ws := Jvm.Cond.code x code maxLocals ret :: tables_1) hat d (List.mem_cons_of_mem _ hd)
  have hfit : Fit s := fun {y c} hc i hi => by
    obtain ⟨ha, rfl⟩ := Array.getElem?_eq_some_iff.mp hc
    have q := List.all_eq_true.mp ((Array.all_eq_true_iff_forall_mem.mp hF) _ (Array.getElem_mem ha)) i (List.mem_range.mpr hi)
    simpa [Array.getElem?_eq_getElem hi] using q
  obtain ⟨i0, ei0⟩ := is_v ga0
  obtain rfl : w0 = (.int i0) := Option.some.inj ei0
  obtain ⟨x0, hn0⟩ := and_e hn
  obtain ⟨x1, hn1⟩ := and_e hn0
  obtain ⟨x2, hn2⟩ := and_e hn1
  obtain ⟨x3, hn3⟩ := and_e hn2
  obtain ⟨x4, hn4⟩ := and_e hn3
  obtain ⟨x5, hn5⟩ := and_e hn4
  obtain ⟨x6, hn6⟩ := and_e hn5
  obtain ⟨x7, hn7⟩ := and_e hn6
  obtain ⟨x8, hn8⟩ := and_e hn7
  obtain ⟨x9, hn9⟩ := and_e hn8
  obtain ⟨x10, hn10⟩ := and_e hn9
  obtain ⟨x11, hn11⟩ := and_e hn10
  obtain ⟨x12, hn12⟩ := and_e hn11
  obtain ⟨x13, hn13⟩ := and_e hn12
  obtain ⟨x14, hn14⟩ := and_e hn13
  obtain ⟨x15, hn15⟩ := and_e hn14
  obtain ⟨x16, hn16⟩ := and_e hn15
  obtain ⟨x17, hn17⟩ := and_e hn16
  obtain ⟨x18, hn18⟩ := and_e hn17
  obtain ⟨x19, hn19⟩ := and_e hn18
  obtain ⟨x20, hn20⟩ := and_e hn19
  obtain ⟨x21, hn21⟩ := and_e hn20
  obtain ⟨x22, hn22⟩ := and_e hn21
  obtain ⟨x23, hn23⟩ := and_e hn22
  obtain ⟨x24, hn24⟩ := and_e hn23
  have x25 := hn24
  obtain ⟨c0, K0⟩ := own_K_of x0 x2 (hw _ (List.mem_of_getElem? (i := 6) rfl)) (hw _ (List.mem_of_getElem? (i := 7) rfl))
  obtain ⟨c1, K1⟩ := own_K_of x18 x19 (hw _ (List.mem_of_getElem? (i := 6) rfl)) (hw _ (List.mem_of_getElem? (i := 33) rfl))
  obtain ⟨c2, K2⟩ := own_K_of x14 x15 (hw _ (List.mem_of_getElem? (i := 6) rfl)) (hw _ (List.mem_of_getElem? (i := 29) rfl))
  obtain ⟨c3, K3⟩ := own_K_of x10 x11 (hw _ (List.mem_of_getElem? (i := 6) rfl)) (hw _ (List.mem_of_getElem? (i := 22) rfl))
  obtain ⟨c4, K4⟩ := own_K_of x24 x25 (hw _ (List.mem_of_getElem? (i := 6) rfl)) (hw _ (List.mem_of_getElem? (i := 40) rfl))
  obtain ⟨c5, K5⟩ := own_K_of x12 x13 (hw _ (List.mem_of_getElem? (i := 6) rfl)) (hw _ (List.mem_of_getElem? (i := 25) rfl))
  obtain ⟨c6, K6⟩ := own_K_of x1 x3 (hw _ (List.mem_of_getElem? (i := 6) rfl)) (hw _ (List.mem_of_getElem? (i := 14) rfl))
  obtain ⟨c7, K7⟩ := own_K_of x4 x5 (hw _ (List.mem_of_getElem? (i := 6) rfl)) (hw _ (List.mem_of_getElem? (i := 16) rfl))
  obtain ⟨c8, K8⟩ := own_K_of x6 x7 (hw _ (List.mem_of_getElem? (i := 6) rfl)) (hw _ (List.mem_of_getElem? (i := 18) rfl))
  obtain ⟨c9, K9⟩ := own_K_of x8 x9 (hw _ (List.mem_of_getElem? (i := 6) rfl)) (hw _ (List.mem_of_getElem? (i := 20) rfl))
  obtain ⟨c10, K10⟩ := own_K_of x20 x21 (hw _ (List.mem_of_getElem? (i := 6) rfl)) (hw _ (List.mem_of_getElem? (i := 36) rfl))
  obtain ⟨c11, K11⟩ := own_K_of x16 x17 (hw _ (List.mem_of_getElem? (i := 6) rfl)) (hw _ (List.mem_of_getElem? (i := 31) rfl))
  obtain ⟨c12, K12⟩ := own_K_of x22 x23 (hw _ (List.mem_of_getElem? (i := 6) rfl)) (hw _ (List.mem_of_getElem? (i := 38) rfl))
  obtain ⟨n, o, h1, h2, h3, _, L, rfl, ⟨rfl, N⟩, hq⟩ := rm0 l s _ hw tables_1 i0 s.heap s.heap.size (Nat.le_refl _) c0 K0 c1 K1 c2 K2 c3 K3 c4 K4 c5 K5 c6 K6 c7 K7 c8 K8 c9 K9 c10 K10 c11 K11 c12 K12 p e ha hc hk s m _ below hf ((Spec.applies_iff_loose hf).mp happ).1 ⟨rfl, State.Warmed39.refl s, rfl⟩ trivial
  refine ⟨n, _, h1, h2, h3, hpost _ _ _ _ _ _ ⟨Cond.after_iff.mpr rfl, Cond.after_iff.mpr (eq_i res_at (Term.int_eval (1)) rfl), trivial⟩ ⟨hq.1, hq.2.1, (hq.2.2.sift fun y hy => Or.inr (N y hy)).mono (by decide) (by decide)⟩⟩
theorem main_1_1 : Claimed_1_1 := comes_1 fun _ _ _ _ _ _ h hF => ⟨h.1, hF⟩
theorem main_1_2 : Claimed_1_2 := comes_1 fun _ _ _ _ _ _ h hF => ⟨h.2.1, hF⟩
end Jvm.Pilot.@@N@@
namespace Jvm.Pilot.@@N@@
open Jvm Jvm.ClassFile Sem Op Lib Jvm.Free Jvm.Stand Jvm.Pilot.@@N@@.Jvm.D
/-! MADE BY PROGRAM (witnessworld.py) out of the Statement's table words and the real class files: 12 classes; the members and pool entries that the words name. The judged class is class 1, her method 2. -/
namespace start1
open Jvm.ClassFile
def u (s : String) : CpInfo := .utf8 (stringToUtf16 s)
/-- a pool by its gaps: so many unusable entries, then the entry; so many at the end -/
def gap : Nat → List CpInfo → List CpInfo
  | 0, r => r
  | n + 1, r => .unusable :: gap n r
def poolList (es : List (Nat × CpInfo)) (last : Nat) : List CpInfo := es.foldr (fun e r => gap e.1 (e.2 :: r)) (gap last [])
def pool (es : List (Nat × CpInfo)) (last : Nat) : Array CpInfo := ⟨poolList es last⟩
def fileOf (pool : Array CpInfo) (this : Nat) (attrs : Array Attribute := #[]) (ms : Array MethodInfo := #[]) (fl : Nat := 33) (sup : Nat := 0) (ifs : Array Nat := #[]) (fds : Array FieldInfo := #[]) : ClassFile where
  minorVersion := 0
  majorVersion := 65
  constantPool := pool
  accessFlags := fl
  thisClass := this
  superClass := sup
  interfaces := ifs
  fields := fds
  methods := ms
  attributes := attrs
def plain (name : String) (sup : Option ClassId) : Class where
  name := name
  kind := .ordinary
  loader := none
  accessFlags := 33
  super := sup
  interfaces := #[]
  cf := none
  fields := #[]
  methods := #[]
  instanceTypes := #[]
  staticTypes := #[]
  resolved := #[]
  callSites := []
  init := .initialized
  statics := none
  mirror := none

def pool0 : Array CpInfo := pool [(5, u "<init>"), (0, u "()V"), (1, .class_ 10), (1, u "java/lang/Object")] 113

def k0m0 : Method := { name := "<init>", desc := "()V", sig := { parameters := [], returnType := none }, accessFlags := 1, code := none }
/-- java/lang/Object -/
def k0 : Class := { plain "java/lang/Object" none with
  accessFlags := 33
  interfaces := #[]
  cf := some (fileOf pool0 8 #[] #[{ accessFlags := 1, nameIndex := 5, descriptorIndex := 6, attributes := #[] }] 33 0 #[] #[])
  fields := #[]
  methods := #[k0m0]
  instanceTypes := #[]
  staticTypes := #[]
  resolved := Array.replicate 124 none
  statics := none }

def pool1 : Array CpInfo := pool [(2, .class_ 4), (1, u "java/lang/Object"), (0, u "<init>"), (0, u "()V"), (0, .fieldref 8 9), (0, .class_ 10), (0, .nameAndType 11 12), (0, u "com/example/kaava/kaava/model/Facet"), (0, u "LENGTH"), (0, u "Lcom/example/kaava/kaava/model/Facet;"), (0, .fieldref 8 14), (0, .nameAndType 15 12), (0, u "MIN_LENGTH"), (0, .fieldref 8 17), (0, .nameAndType 18 12), (0, u "MAX_LENGTH"), (0, .fieldref 8 20), (0, .nameAndType 21 12), (0, u "PATTERN"), (0, .fieldref 8 23), (0, .nameAndType 24 12), (0, u "ENUMERATION"), (0, .fieldref 8 26), (0, .nameAndType 27 12), (0, u "WHITE_SPACE"), (0, .fieldref 8 29), (0, .nameAndType 30 12), (0, u "MAX_INCLUSIVE"), (0, .fieldref 8 32), (0, .nameAndType 33 12), (0, u "MAX_EXCLUSIVE"), (0, .fieldref 8 35), (0, .nameAndType 36 12), (0, u "MIN_INCLUSIVE"), (0, .fieldref 8 38), (0, .nameAndType 39 12), (0, u "MIN_EXCLUSIVE"), (0, .fieldref 8 41), (0, .nameAndType 42 12), (0, u "TOTAL_DIGITS"), (0, .fieldref 8 44), (0, .nameAndType 45 12), (0, u "FRACTION_DIGITS"), (0, .fieldref 8 47), (0, .nameAndType 48 12), (0, u "EXPLICIT_TIMEZONE"), (0, .integer 2147483647), (0, .methodref 51 52), (0, .class_ 53), (0, .nameAndType 54 55), (0, u "com/example/kaava/kaava/model/FacetIsBoundPinLaw"), (0, u "facetAt"), (0, u "(I)Lcom/example/kaava/kaava/model/Facet;"), (0, .methodref 8 57), (0, .nameAndType 58 59), (0, u "isBound"), (0, u "()Z"), (3, u "law"), (0, u "(I)Z")] 2

def k1m0 : Method := { name := "<init>", desc := "()V", sig := { parameters := [], returnType := none }, accessFlags := 2, code := none }
def k1c1 : Code := { maxStack := 2, maxLocals := 1, code := method_2_code, exceptionTable := #[], attributes := #[] }
def k1m1 : Method := { name := "facetAt", desc := "(I)Lcom/example/kaava/kaava/model/Facet;", sig := { parameters := [.int], returnType := some (.object "com/example/kaava/kaava/model/Facet") }, accessFlags := 10, code := some k1c1 }
def k1c2 : Code := { maxStack := 2, maxLocals := 4, code := code, exceptionTable := #[], attributes := #[] }
def k1m2 : Method := { name := "law", desc := "(I)Z", sig := { parameters := [.int], returnType := some .boolean }, accessFlags := 9, code := some k1c2 }
/-- com/example/kaava/kaava/model/FacetIsBoundPinLaw -/
def k1 : Class := { plain "com/example/kaava/kaava/model/FacetIsBoundPinLaw" (some 0) with
  accessFlags := 49
  interfaces := #[]
  cf := some (fileOf pool1 51 #[] #[{ accessFlags := 2, nameIndex := 5, descriptorIndex := 6, attributes := #[] }, { accessFlags := 10, nameIndex := 54, descriptorIndex := 55, attributes := #[] }, { accessFlags := 9, nameIndex := 63, descriptorIndex := 64, attributes := #[] }] 49 2 #[] #[])
  fields := #[]
  methods := #[k1m0, k1m1, k1m2]
  instanceTypes := #[]
  staticTypes := #[]
  resolved := Array.replicate 67 none
  statics := none }

def pool2 : Array CpInfo := pool [(1, .class_ 2), (0, u "java/lang/constant/Constable"), (0, .class_ 4), (0, u "java/lang/Object")] 6

/-- java/lang/constant/Constable -/
def k2 : Class := { plain "java/lang/constant/Constable" (some 0) with
  accessFlags := 1537
  interfaces := #[]
  cf := some (fileOf pool2 1 #[] #[] 1537 3 #[] #[])
  fields := #[]
  methods := #[]
  instanceTypes := #[]
  staticTypes := #[]
  resolved := Array.replicate 11 none
  statics := none }

def pool3 : Array CpInfo := pool [(1, .class_ 2), (0, u "java/lang/Comparable"), (0, .class_ 4), (0, u "java/lang/Object")] 7

/-- java/lang/Comparable -/
def k3 : Class := { plain "java/lang/Comparable" (some 0) with
  accessFlags := 1537
  interfaces := #[]
  cf := some (fileOf pool3 1 #[] #[] 1537 3 #[] #[])
  fields := #[]
  methods := #[]
  instanceTypes := #[]
  staticTypes := #[]
  resolved := Array.replicate 12 none
  statics := none }

def pool4 : Array CpInfo := pool [(1, .class_ 2), (0, u "java/io/Serializable"), (0, .class_ 4), (0, u "java/lang/Object")] 2

/-- java/io/Serializable -/
def k4 : Class := { plain "java/io/Serializable" (some 0) with
  accessFlags := 1537
  interfaces := #[]
  cf := some (fileOf pool4 1 #[] #[] 1537 3 #[] #[])
  fields := #[]
  methods := #[]
  instanceTypes := #[]
  staticTypes := #[]
  resolved := Array.replicate 7 none
  statics := none }

def pool5 : Array CpInfo := pool [(2, .class_ 4), (1, u "java/lang/Enum"), (0, u "name"), (0, u "Ljava/lang/String;"), (2, u "ordinal"), (0, u "I"), (1, .class_ 14), (1, u "java/lang/Object"), (4, u "hash"), (86, .class_ 108), (1, u "java/lang/Enum$EnumDesc"), (2, .class_ 112), (0, u "java/lang/constant/Constable"), (0, .class_ 114), (0, u "java/lang/Comparable"), (0, .class_ 116), (0, u "java/io/Serializable")] 87

/-- java/lang/Enum -/
def k5 : Class := { plain "java/lang/Enum" (some 0) with
  accessFlags := 1057
  interfaces := #[2, 3, 4]
  cf := some (fileOf pool5 2 #[.nestMembers #[106]] #[] 1057 12 #[111, 113, 115] #[{ accessFlags := 18, nameIndex := 5, descriptorIndex := 6, attributes := #[] }, { accessFlags := 18, nameIndex := 9, descriptorIndex := 10, attributes := #[] }, { accessFlags := 2, nameIndex := 19, descriptorIndex := 10, attributes := #[] }])
  fields := #[{ name := "name", type := (.object "java/lang/String"), accessFlags := 18, slot := 0, constantValue := 0 }, { name := "ordinal", type := .int, accessFlags := 18, slot := 1, constantValue := 0 }, { name := "hash", type := .int, accessFlags := 2, slot := 2, constantValue := 0 }]
  methods := #[]
  instanceTypes := #[(.object "java/lang/String"), .int, .int]
  staticTypes := #[]
  resolved := Array.replicate 204 none
  statics := none }

def pool6 : Array CpInfo := pool [(1, .class_ 2), (0, u "com/example/kaava/kaava/model/Facet"), (2, u "LENGTH"), (0, u "Lcom/example/kaava/kaava/model/Facet;"), (2, u "MIN_LENGTH"), (2, u "MAX_LENGTH"), (2, u "PATTERN"), (2, u "ENUMERATION"), (2, u "WHITE_SPACE"), (0, .fieldref 1 23), (0, .nameAndType 24 6), (0, u "MAX_INCLUSIVE"), (0, .fieldref 1 26), (0, .nameAndType 27 6), (0, u "MAX_EXCLUSIVE"), (0, .fieldref 1 29), (0, .nameAndType 30 6), (0, u "MIN_INCLUSIVE"), (0, .fieldref 1 32), (0, .nameAndType 33 6), (0, u "MIN_EXCLUSIVE"), (2, u "TOTAL_DIGITS"), (2, u "FRACTION_DIGITS"), (2, u "EXPLICIT_TIMEZONE"), (2, u "$VALUES"), (0, u "[Lcom/example/kaava/kaava/model/Facet;"), (6, .class_ 55), (1, u "java/lang/Enum"), (8, u "localName"), (0, u "Ljava/lang/String;"), (30, u "()Z"), (44, u "isBound")] 198

def k6c0 : Code := { maxStack := 2, maxLocals := 1, code := prog_46_method_8_code, exceptionTable := #[], attributes := #[] }
def k6m0 : Method := { name := "isBound", desc := "()Z", sig := { parameters := [], returnType := some .boolean }, accessFlags := 1, code := some k6c0 }
/-- com/example/kaava/kaava/model/Facet -/
def k6 : Class := { plain "com/example/kaava/kaava/model/Facet" (some 5) with
  accessFlags := 16433
  interfaces := #[]
  cf := some (fileOf pool6 1 #[] #[{ accessFlags := 1, nameIndex := 141, descriptorIndex := 96, attributes := #[] }] 16433 53 #[] #[{ accessFlags := 16409, nameIndex := 5, descriptorIndex := 6, attributes := #[] }, { accessFlags := 16409, nameIndex := 9, descriptorIndex := 6, attributes := #[] }, { accessFlags := 16409, nameIndex := 12, descriptorIndex := 6, attributes := #[] }, { accessFlags := 16409, nameIndex := 15, descriptorIndex := 6, attributes := #[] }, { accessFlags := 16409, nameIndex := 18, descriptorIndex := 6, attributes := #[] }, { accessFlags := 16409, nameIndex := 21, descriptorIndex := 6, attributes := #[] }, { accessFlags := 16409, nameIndex := 24, descriptorIndex := 6, attributes := #[] }, { accessFlags := 16409, nameIndex := 27, descriptorIndex := 6, attributes := #[] }, { accessFlags := 16409, nameIndex := 30, descriptorIndex := 6, attributes := #[] }, { accessFlags := 16409, nameIndex := 33, descriptorIndex := 6, attributes := #[] }, { accessFlags := 16409, nameIndex := 36, descriptorIndex := 6, attributes := #[] }, { accessFlags := 16409, nameIndex := 39, descriptorIndex := 6, attributes := #[] }, { accessFlags := 16409, nameIndex := 42, descriptorIndex := 6, attributes := #[] }, { accessFlags := 18, nameIndex := 64, descriptorIndex := 65, attributes := #[] }, { accessFlags := 4122, nameIndex := 45, descriptorIndex := 46, attributes := #[] }])
  fields := #[{ name := "LENGTH", type := (.object "com/example/kaava/kaava/model/Facet"), accessFlags := 16409, slot := 0, constantValue := 0 }, { name := "MIN_LENGTH", type := (.object "com/example/kaava/kaava/model/Facet"), accessFlags := 16409, slot := 1, constantValue := 0 }, { name := "MAX_LENGTH", type := (.object "com/example/kaava/kaava/model/Facet"), accessFlags := 16409, slot := 2, constantValue := 0 }, { name := "PATTERN", type := (.object "com/example/kaava/kaava/model/Facet"), accessFlags := 16409, slot := 3, constantValue := 0 }, { name := "ENUMERATION", type := (.object "com/example/kaava/kaava/model/Facet"), accessFlags := 16409, slot := 4, constantValue := 0 }, { name := "WHITE_SPACE", type := (.object "com/example/kaava/kaava/model/Facet"), accessFlags := 16409, slot := 5, constantValue := 0 }, { name := "MAX_INCLUSIVE", type := (.object "com/example/kaava/kaava/model/Facet"), accessFlags := 16409, slot := 6, constantValue := 0 }, { name := "MAX_EXCLUSIVE", type := (.object "com/example/kaava/kaava/model/Facet"), accessFlags := 16409, slot := 7, constantValue := 0 }, { name := "MIN_INCLUSIVE", type := (.object "com/example/kaava/kaava/model/Facet"), accessFlags := 16409, slot := 8, constantValue := 0 }, { name := "MIN_EXCLUSIVE", type := (.object "com/example/kaava/kaava/model/Facet"), accessFlags := 16409, slot := 9, constantValue := 0 }, { name := "TOTAL_DIGITS", type := (.object "com/example/kaava/kaava/model/Facet"), accessFlags := 16409, slot := 10, constantValue := 0 }, { name := "FRACTION_DIGITS", type := (.object "com/example/kaava/kaava/model/Facet"), accessFlags := 16409, slot := 11, constantValue := 0 }, { name := "EXPLICIT_TIMEZONE", type := (.object "com/example/kaava/kaava/model/Facet"), accessFlags := 16409, slot := 12, constantValue := 0 }, { name := "localName", type := (.object "java/lang/String"), accessFlags := 18, slot := 3, constantValue := 0 }, { name := "$VALUES", type := (.array (.object "com/example/kaava/kaava/model/Facet")), accessFlags := 4122, slot := 13, constantValue := 0 }]
  methods := #[k6m0]
  instanceTypes := #[(.object "java/lang/String"), .int, .int, (.object "java/lang/String")]
  staticTypes := #[(.object "com/example/kaava/kaava/model/Facet"), (.object "com/example/kaava/kaava/model/Facet"), (.object "com/example/kaava/kaava/model/Facet"), (.object "com/example/kaava/kaava/model/Facet"), (.object "com/example/kaava/kaava/model/Facet"), (.object "com/example/kaava/kaava/model/Facet"), (.object "com/example/kaava/kaava/model/Facet"), (.object "com/example/kaava/kaava/model/Facet"), (.object "com/example/kaava/kaava/model/Facet"), (.object "com/example/kaava/kaava/model/Facet"), (.object "com/example/kaava/kaava/model/Facet"), (.object "com/example/kaava/kaava/model/Facet"), (.object "com/example/kaava/kaava/model/Facet"), (.array (.object "com/example/kaava/kaava/model/Facet"))]
  resolved := Array.replicate 340 none
  statics := some 0 }

def pool7 : Array CpInfo := pool [(1, u "java/lang/Cloneable"), (0, .class_ 1), (0, u "java/lang/Object"), (0, .class_ 3)] 3

/-- java/lang/Cloneable -/
def k7 : Class := { plain "java/lang/Cloneable" (some 0) with
  accessFlags := 1537
  interfaces := #[]
  cf := some (fileOf pool7 2 #[] #[] 1537 4 #[] #[])
  fields := #[]
  methods := #[]
  instanceTypes := #[]
  staticTypes := #[]
  resolved := Array.replicate 8 none
  statics := none }

/-- the primitive byte -/
def k8 : Class := { plain "byte" none with kind := .primitive 'B', accessFlags := 0x411 }
/-- [B -/
def k9 : Class := { plain "[B" (some 0) with kind := .array 8 .byte, interfaces := #[7, 4], accessFlags := 1041 }

/-- the primitive int -/
def k10 : Class := { plain "int" none with kind := .primitive 'I', accessFlags := 0x411 }
/-- [I -/
def k11 : Class := { plain "[I" (some 0) with kind := .array 10 .int, interfaces := #[7, 4], accessFlags := 1041 }

def heap : Heap := #[{ cls := 6, slots := #[.ref 1, .ref 2, .ref 3, .ref 4, .ref 5, .ref 6, .ref 7, .ref 8, .ref 9, .ref 10, .ref 11, .ref 12, .ref 13, .null], vm := .statics 6 },
  { cls := 6, slots := #[.null, .int 0, .int 0, .null], vm := .none },
  { cls := 6, slots := #[.null, .int 1, .int 0, .null], vm := .none },
  { cls := 6, slots := #[.null, .int 2, .int 0, .null], vm := .none },
  { cls := 6, slots := #[.null, .int 3, .int 0, .null], vm := .none },
  { cls := 6, slots := #[.null, .int 4, .int 0, .null], vm := .none },
  { cls := 6, slots := #[.null, .int 5, .int 0, .null], vm := .none },
  { cls := 6, slots := #[.null, .int 6, .int 0, .null], vm := .none },
  { cls := 6, slots := #[.null, .int 7, .int 0, .null], vm := .none },
  { cls := 6, slots := #[.null, .int 8, .int 0, .null], vm := .none },
  { cls := 6, slots := #[.null, .int 9, .int 0, .null], vm := .none },
  { cls := 6, slots := #[.null, .int 10, .int 0, .null], vm := .none },
  { cls := 6, slots := #[.null, .int 11, .int 0, .null], vm := .none },
  { cls := 6, slots := #[.null, .int 12, .int 0, .null], vm := .none }]
def classes : Array Class := #[k0, k1, k2, k3, k4, k5, k6, k7, k8, k9, k10, k11]
def interned : List (Array UInt16 × Addr) := []
def slotsUsed : Nat := 66
def theMethod : MethodId := ⟨1, 2⟩
def args0 : Array Value := #[.int 5]
def aboutOver (below : List Frame) : State where
  vm := { classes := classes, interned := interned.toArray }
  heap := heap
  slotsUsed := slotsUsed
  threads := #[{ frames := .invoking theMethod args0 :: below }]
def below0 : List Frame := [.native { method := ⟨0, 0⟩, args := #[] }]
def about1 : State := aboutOver below0
def p0 : Program := .bare "" "" ""
def e0 : Env := launch0.env 0 0 0
theorem w_frames : about1.frames = Frame.invoking theMethod args0 :: below0 := rfl
set_option maxRecDepth 65536 in
theorem w_args : argsFit about1.vm theMethod args0 = true := by decide +kernel
set_option maxRecDepth 65536 in
theorem w_heap : heapFits about1 = true := by decide +kernel
set_option maxRecDepth 65536 in
theorem w_runnable : about1.curStatus? = some .runnable := by decide +kernel
set_option maxRecDepth 65536 in
theorem w_alone : about1.alone = true := by decide +kernel
set_option maxRecDepth 65536 in
theorem w_named : about1.methodNamed? x = some theMethod := by decide +kernel
set_option maxRecDepth 65536 in
theorem w_hears : about1.hears theMethod below0 = true := by decide +kernel
set_option maxRecDepth 65536 in
theorem w_ripe : about1.ripe theMethod args0 below0 = true := by decide +kernel
theorem w_running : about1.status = .running := rfl
set_option maxRecDepth 65536 in
theorem w_room : about1.hasRoom e0.platform room_1 = true :=
  launch0.hasRoom_least _ room_1 (by decide +kernel) (by decide +kernel) (by decide +kernel) (by decide +kernel) (by decide +kernel) (by decide +kernel)
theorem allAtoms_all (ts : List Jvm.Cond) (a : Array Jvm.Value) (st : Jvm.State) : (allAtoms ts).before a st = ts.all (fun c => c.before a st) := by
  induction ts with
  | nil => rfl
  | cons c t ih =>
    show (Jvm.Cond.and c (allAtoms t)).before a st = _
    rw [Jvm.Cond.before_and, ih, List.all_cons]
def words1 : List Jvm.Cond := Jvm.Cond.code x code maxLocals ret :: tables_1
/-- a 'code' word, met by the world's own term for the bytes: nothing is compared byte by byte -/
theorem code_word {y : MethodName} {bytes : ByteArray} {mx : Nat} {rt : Option FieldType} {a : Array Value} {s : State} {m : MethodId} {meth : Method} {c : Code} (h1 : s.methodNamed? y = some m) (h2 : s.vm.method? m = some meth) (h3 : meth.code = some c) (h4 : c.code = bytes)
    (h5 : (c.maxLocals == mx && c.exceptionTable.isEmpty && decide (c.maxStack ≤ mostOperands) && decide (meth.sig.returnType = rt) && !meth.locks && decide (parseMethodDescriptor y.desc = some meth.sig)) = true) : (Jvm.Cond.code y bytes mx rt).before a s = true := by
  simp only [Bool.and_eq_true, beq_iff_eq, Bool.not_eq_true', decide_eq_true_eq] at h5
  obtain ⟨⟨⟨⟨⟨g1, g2⟩, g3⟩, g4⟩, g5⟩, g6⟩ := h5
  simp [Cond.before, Cond.holds, Cond.value, h1, h2, h3, h4, g1, g2, g3, g4, g5, g6]
def isCode : Jvm.Cond → Bool
  | .code _ _ _ _ => true
  | _ => false
theorem all_split {L : List Jvm.Cond} {P : Jvm.Cond → Bool} (h1 : L.all (fun c => isCode c || P c) = true) (h2 : ∀ c ∈ L.filter isCode, P c = true) : L.all P = true := by
  refine List.all_eq_true.mpr fun c hc => ?_
  have h := List.all_eq_true.mp h1 c hc
  rcases Bool.eq_false_or_eq_true (isCode c) with hi | hi
  · exact h2 c (List.mem_filter.mpr ⟨hc, hi⟩)
  · simpa [hi] using h
set_option maxRecDepth 65536 in
theorem w_c0 : (Jvm.Cond.code x code maxLocals ret).before args0 about1 = true := code_word (m := ⟨1, 2⟩) (meth := k1m2) (c := k1c2) (by decide +kernel) rfl rfl rfl (by decide +kernel)
set_option maxRecDepth 65536 in
theorem w_c1 : (Jvm.Cond.code ({ cls := "com/example/kaava/kaava/model/FacetIsBoundPinLaw", name := "facetAt", desc := "(I)Lcom/example/kaava/kaava/model/Facet;" } : Jvm.MethodName) method_2_code (1 : Nat) (Option.some (Jvm.ClassFile.FieldType.object "com/example/kaava/kaava/model/Facet"))).before args0 about1 = true := code_word (m := ⟨1, 1⟩) (meth := k1m1) (c := k1c1) (by decide +kernel) rfl rfl rfl (by decide +kernel)
set_option maxRecDepth 65536 in
theorem w_c2 : (Jvm.Cond.code ({ cls := "com/example/kaava/kaava/model/Facet", name := "isBound", desc := "()Z" } : Jvm.MethodName) prog_46_method_8_code (1 : Nat) (Option.some Jvm.ClassFile.FieldType.boolean)).before args0 about1 = true := code_word (m := ⟨6, 0⟩) (meth := k6m0) (c := k6c0) (by decide +kernel) rfl rfl rfl (by decide +kernel)
def codes1 : List Jvm.Cond := [Jvm.Cond.code x code maxLocals ret, Jvm.Cond.code ({ cls := "com/example/kaava/kaava/model/FacetIsBoundPinLaw", name := "facetAt", desc := "(I)Lcom/example/kaava/kaava/model/Facet;" } : Jvm.MethodName) method_2_code (1 : Nat) (Option.some (Jvm.ClassFile.FieldType.object "com/example/kaava/kaava/model/Facet")), Jvm.Cond.code ({ cls := "com/example/kaava/kaava/model/Facet", name := "isBound", desc := "()Z" } : Jvm.MethodName) prog_46_method_8_code (1 : Nat) (Option.some Jvm.ClassFile.FieldType.boolean)]
set_option maxRecDepth 65536 in
theorem codes_eq : words1.filter isCode = codes1 := rfl
theorem w_codes : ∀ c ∈ words1.filter isCode, c.before args0 about1 = true := by
  rw [codes_eq]
  intro c hc
  simp only [codes1, List.mem_cons, List.not_mem_nil, or_false] at hc
  rcases hc with rfl | rfl | rfl
  · exact w_c0
  · exact w_c1
  · exact w_c2
set_option maxRecDepth 65536 in
theorem w_t1 : (words1.take 24).all (fun c => isCode c || c.before args0 about1) = true := by decide +kernel
set_option maxRecDepth 65536 in
theorem w_t2 : (words1.drop 24).all (fun c => isCode c || c.before args0 about1) = true := by decide +kernel
theorem w_tables : (allAtoms (Jvm.Cond.code x code maxLocals ret :: tables_1)).before args0 about1 = true := by
  rw [allAtoms_all]
  show words1.all (fun c => c.before args0 about1) = true
  refine all_split ?_ w_codes
  rw [← List.take_append_drop 24 words1, List.all_append, w_t1, w_t2]
  rfl
set_option maxRecDepth 65536 in
theorem w_case : (Jvm.Cond.and given_1 narrow_1).before args0 about1 = true := by decide +kernel
theorem w_applies : (headSpec (Jvm.Cond.code x code maxLocals ret :: tables_1) room_1).applies x e0.platform about1 = true :=
  (Spec.applies_iff w_frames).mpr ⟨w_running, w_runnable, w_alone, w_named, w_hears, w_ripe, w_room, w_tables⟩
theorem atStart : AtStart classFile x code maxLocals ret World_1 tables_1 room_1 Calls_1 rest_1 Pre_1 launch0 p0 e0 about1 theMethod args0 below0 :=
  ⟨lists_1, trivial, launch0.admits_env _ _ _, launch0.least_env, fairChoices_fair.cas, fairChoices_fair.clock, w_frames, w_args, w_heap, w_applies, trivial, trivial, w_case⟩
end start1
theorem witness_1 : WitnessClaimed_1 := ⟨start1.p0, start1.e0, start1.about1, start1.theMethod, start1.args0, start1.below0, start1.atStart⟩
end Jvm.Pilot.@@N@@
