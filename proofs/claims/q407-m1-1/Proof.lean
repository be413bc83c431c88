import JvmDerived
import JvmDerived.Pilot.@@N@@Statement
import JvmDerived.Pilot.@@N@@Code
set_option linter.unusedVariables false
set_option linter.unusedSimpArgs false
namespace Jvm.RoadKit
open Sem ClassFile Op Lib Jvm.Stand Jvm.Free Jvm.LawKit
section OwnKit
variable {p : Program} {l : Launch} {e : Env} {R : Room} {s : State} {m : MethodId} {args : Array Value} {below : List Frame} {meth : Method} {c : Code} {T : State} {locs : List Loc} {cells slots : Nat}
/-- a run that stands in S comes to an end of the invocation, of which Q is said -/
def own_G (tb : Tables) (e : Env) (below : List Frame) (s : State) (Q : Option Value → Heap → List Loc → Prop) (k n : Nat) (S : State) : Prop :=
  ∃ s₂ o, Steps tb e below S s₂ ∧ s₂.status = .running ∧ Ended s₂ below o ∧ ∃ v L, o = .returned v ∧ Q v s₂.heap L ∧ FrameEnd s o s₂ L k n
variable {tb : Tables} {Q : Option Value → Heap → List Loc → Prop} {k n : Nat}
theorem own_go {A B : State} (st : ∀ t, Steps tb e below A t → Steps tb e below B t) (h : own_G tb e below s Q k n A) : own_G tb e below s Q k n B := by
  obtain ⟨s₂, o, h1, h2⟩ := h
  exact ⟨s₂, o, st _ h1, h2⟩
theorem own_ret (X : Stand p l e R s m args below meth c T locs cells slots) {v : Option Value} (hv : meth.sig.returnType = none → v = none) (hlk : meth.locks = false) (hQ : Q v T.heap locs) (hk : cells ≤ k) (hn : slots ≤ n) {S : State}
    (st : ∀ fs, (∀ (f : JFrame) (acts : List Action), f.method = m → f.locked = none → f.entered = [] → (doReturn e (T.setTop f) acts v).1 = T.setFrames fs) → Steps p.tables e below S (T.setFrames fs)) : own_G p.tables e below s Q k n S := by
  obtain ⟨fs, hr, hrun, hended, hW, hsame⟩ := X.leave hv hlk
  exact ⟨_, _, st fs hr, hrun, hended, _, _, rfl, hQ, ⟨_, rfl⟩, hW, hsame.mono hk hn⟩
variable {pc : Nat} {Ls : Array Slot} {rest : List Value}
theorem own_retN (X : Stand p l e R s m args below meth c T locs cells slots) (hx : p.tables.exec = Jvm.exec) (hlk : meth.locks = false) {t : FieldType} {z z' : Int32} (hret : meth.sig.returnType = some t) (ht : t = .boolean ∨ t = .byte ∨ t = .char ∨ t = .short) (hd : decode c.code pc = .ok (.ireturn, 1)) (hz : nar t z = z') (hQ : Q (some (.int z')) T.heap locs) (hk : cells ≤ k) (hn : slots ≤ n) :
    own_G p.tables e below s Q k n (T.setTop (mkF m pc Ls (.int z :: rest))) := by
  subst hz
  exact own_ret X (fun h => by rw [hret] at h; cases h) hlk hQ hk hn fun fs hr => retN X hx hret ht hd hr
theorem own_retI (X : Stand p l e R s m args below meth c T locs cells slots) (hx : p.tables.exec = Jvm.exec) (hlk : meth.locks = false) {z : Int32} (hret : meth.sig.returnType = some .int) (hd : decode c.code pc = .ok (.ireturn, 1)) (hQ : Q (some (.int z)) T.heap locs) (hk : cells ≤ k) (hn : slots ≤ n) :
    own_G p.tables e below s Q k n (T.setTop (mkF m pc Ls (.int z :: rest))) :=
  own_ret X (fun h => by rw [hret] at h; cases h) hlk hQ hk hn fun fs hr => retOut X hx hret rfl (Or.inl ⟨rfl, Or.inl rfl, _, rfl⟩) hd hr
theorem own_retJ (X : Stand p l e R s m args below meth c T locs cells slots) (hx : p.tables.exec = Jvm.exec) (hlk : meth.locks = false) {z : Int64} (hret : meth.sig.returnType = some .long) (hd : decode c.code pc = .ok (.lreturn, 1)) (hQ : Q (some (.long z)) T.heap locs) (hk : cells ≤ k) (hn : slots ≤ n) :
    own_G p.tables e below s Q k n (T.setTop (mkF m pc Ls (.long z :: rest))) :=
  own_ret X (fun h => by rw [hret] at h; cases h) hlk hQ hk hn fun fs hr => retOut X hx hret rfl (Or.inr (Or.inl ⟨rfl, rfl, _, rfl⟩)) hd hr
theorem own_retA (X : Stand p l e R s m args below meth c T locs cells slots) (hx : p.tables.exec = Jvm.exec) (hlk : meth.locks = false) {t : FieldType} {w : Value} (hret : meth.sig.returnType = some t) (ht : t.isReference = true) (hv : w.isRef = true) (hd : decode c.code pc = .ok (.areturn, 1)) (hQ : Q (some w) T.heap locs) (hk : cells ≤ k) (hn : slots ≤ n) :
    own_G p.tables e below s Q k n (T.setTop (mkF m pc Ls (w :: rest))) :=
  own_ret X (fun h => by rw [hret] at h; cases h) hlk hQ hk hn fun fs hr => retOut X hx hret (by rcases ref_cases hv with rfl | ⟨_, rfl⟩ <;> cases t <;> first | rfl | cases ht) (Or.inr (Or.inr (Or.inr (Or.inr ⟨rfl, ht, hv⟩)))) hd hr
theorem own_retV (X : Stand p l e R s m args below meth c T locs cells slots) (hx : p.tables.exec = Jvm.exec) (hlk : meth.locks = false) (hret : meth.sig.returnType = none) (hd : decode c.code pc = .ok (.return_, 1)) (hQ : Q none T.heap locs) (hk : cells ≤ k) (hn : slots ≤ n) :
    own_G p.tables e below s Q k n (T.setTop (mkF m pc Ls [])) :=
  own_ret X (fun _ => rfl) hlk hQ hk hn fun fs hr => X.returnOut hx hret hd hr
end OwnKit
end Jvm.RoadKit
namespace Jvm.Pilot.@@N@@
open Jvm Jvm.ClassFile Sem Op Lib Jvm.Free Jvm.Stand Jvm.LawKit Jvm.RoadKit Bundle Jvm.Pilot.@@N@@.Jvm.D
theorem own_pick (x : Int32) : ((x &&& (2147483647 : Int32)) % (9 : Int32) = 0) ∨ ((x &&& (2147483647 : Int32)) % (9 : Int32) = 1) ∨ ((x &&& (2147483647 : Int32)) % (9 : Int32) = 2) ∨ ((x &&& (2147483647 : Int32)) % (9 : Int32) = 3) ∨ ((x &&& (2147483647 : Int32)) % (9 : Int32) = 4) ∨ ((x &&& (2147483647 : Int32)) % (9 : Int32) = 5) ∨ ((x &&& (2147483647 : Int32)) % (9 : Int32) = 6) ∨ ((x &&& (2147483647 : Int32)) % (9 : Int32) = 7) ∨ ((x &&& (2147483647 : Int32)) % (9 : Int32) = 8) := by
  have h : ¬ ((x &&& (2147483647 : Int32)) < 0) := fun h => absurd ((Jvm.Free.XT.and_neg32 _ _).mp h).2 (by decide)
  rw [Int32.lt_iff_toInt_lt] at h
  have z : (0 : Int32).toInt = 0 := rfl
  have t : (9 : Int32).toInt = 9 := rfl
  have e : ((x &&& (2147483647 : Int32)) % (9 : Int32)).toInt = (x &&& (2147483647 : Int32)).toInt % 9 := by
    rw [Int32.toInt_mod, t, Int.tmod_eq_emod_of_nonneg (by omega)]
  generalize (x &&& (2147483647 : Int32)) % (9 : Int32) = r at *
  have hr : 0 ≤ r.toInt ∧ r.toInt < 9 := by omega
  have g : ∀ k : Int32, r.toInt = k.toInt → r = k := fun k q => Int32.toInt_inj.mp q
  have hc : r.toInt = 0 ∨ r.toInt = 1 ∨ r.toInt = 2 ∨ r.toInt = 3 ∨ r.toInt = 4 ∨ r.toInt = 5 ∨ r.toInt = 6 ∨ r.toInt = 7 ∨ r.toInt = 8 := by omega
  rcases hc with q | q | q | q | q | q | q | q | q
  · exact Or.inl (g 0 q)
  · exact Or.inr (Or.inl (g 1 q))
  · exact Or.inr (Or.inr (Or.inl (g 2 q)))
  · exact Or.inr (Or.inr (Or.inr (Or.inl (g 3 q))))
  · exact Or.inr (Or.inr (Or.inr (Or.inr (Or.inl (g 4 q)))))
  · exact Or.inr (Or.inr (Or.inr (Or.inr (Or.inr (Or.inl (g 5 q))))))
  · exact Or.inr (Or.inr (Or.inr (Or.inr (Or.inr (Or.inr (Or.inl (g 6 q)))))))
  · exact Or.inr (Or.inr (Or.inr (Or.inr (Or.inr (Or.inr (Or.inr (Or.inl (g 7 q))))))))
  · exact Or.inr (Or.inr (Or.inr (Or.inr (Or.inr (Or.inr (Or.inr (Or.inr (g 8 q))))))))
theorem own_narB (x : Int32) : nar .byte (x.toInt8.toInt32) = x.toInt8.toInt32 := by simp [nar]
theorem d1_0_0 : decode prog_92_method_13_code 0 = .ok (.aload_n 0, 1) := by decide +kernel
theorem d1_0_1 : decode prog_92_method_13_code 1 = .ok (.astore_n 1, 1) := by decide +kernel
theorem d1_0_2 : decode prog_92_method_13_code 2 = .ok (.aload_n 1, 1) := by decide +kernel
theorem d1_0_3 : decode prog_92_method_13_code 3 = .ok (.arraylength, 1) := by decide +kernel
theorem d1_0_4 : decode prog_92_method_13_code 4 = .ok (.istore_n 2, 1) := by decide +kernel
theorem d1_0_5 : decode prog_92_method_13_code 5 = .ok (.iconst 0, 1) := by decide +kernel
theorem d1_0_6 : decode prog_92_method_13_code 6 = .ok (.istore_n 3, 1) := by decide +kernel
theorem d1_0_7 : decode prog_92_method_13_code 7 = .ok (.iload_n 3, 1) := by decide +kernel
theorem d1_0_8 : decode prog_92_method_13_code 8 = .ok (.iload_n 2, 1) := by decide +kernel
theorem d1_0_9 : decode prog_92_method_13_code 9 = .ok (.if_icmp .ge 21, 3) := by decide +kernel
theorem d1_0_30 : decode prog_92_method_13_code 30 = .ok (.iconst 1, 1) := by decide +kernel
theorem d1_0_31 : decode prog_92_method_13_code 31 = .ok (.ireturn, 1) := by decide +kernel
theorem pn_com_example_cartulary_cartulary_model_Syntax : plainName "com/example/cartulary/cartulary/model/Syntax" = true := by first | (simp [plainName, overriddenIn]; done) | decide +kernel
theorem ef_1_0 (m : MethodId) (x0 : Addr) : entryFrame m #[(.ref x0)] 5 = mkF m 0 #[.val (.ref x0), .unset, .unset, .unset, .unset] [] := by first | (simp [entryFrame, mkF, argsToLocals, Value.category]; done) | rfl
def Q1_0 (Z : State) (a1 : Addr) (k1 : ClassId) ( r : Int32) (h0 : Heap) (n0 : Nat) (v : Option Value) (h : Heap) (L : List Loc) : Prop := v = some (.int r) ∧ Fr n0 L ∧ h = h0
set_option maxRecDepth 65536 in
set_option maxHeartbeats 40000000 in
theorem rm1_0 (l : Launch) (Z : State) (a0 : Array Value) (hw : ∀ d ∈ tables_1, d.before a0 Z = true) (ws : List Jvm.Cond) (a1 : Addr) (k1 : ClassId) ( r : Int32) (h0 : Heap) (n0 : Nat) (Z0 : n0 ≤ h0.size) (V1 : Arv Z h0 a1 k1 .byte (0 : Int32) [] (.int (0 : Int32))) (hr : (if False then (0 : Int32) else 1) = r) :
    MetFree l (⟨"com/example/cartulary/cartulary/model/Syntax", "isAscii", "([B)Z"⟩ : MethodName) (head1 (Jvm.Cond.code (⟨"com/example/cartulary/cartulary/model/Syntax", "isAscii", "([B)Z"⟩ : MethodName) prog_92_method_13_code 5 (some .boolean) :: ws) ({ frames := 0, cells := 0, slots := 0, locals := 0 } : Room)) (fun a U => a = #[(.ref a1)] ∧ Z.Warmed39 U.vm ∧ U.heap = h0) (fun _ _ _ _ _ => True) (fun _ U o U' => ∃ v L, o = .returned v ∧ Q1_0 Z a1 k1 r h0 n0 v U'.heap L ∧ FrameEnd U o U' L ({ frames := 0, cells := 0, slots := 0, locals := 0 } : Room).cells ({ frames := 0, cells := 0, slots := 0, locals := 0 } : Room).slots) := by
  refine MetFree.of_bodySF (plainFor_of_name pn_com_example_cartulary_cartulary_model_Syntax) hisR ?_
  intro p e s m args below meth c s₁ Bd hml0 hP hK
  obtain ⟨rfl, hZ, hh⟩ := hP
  have hx := Bd.exec
  have hby := Bd.bytes
  have hlk : meth.locks = false := BodyLoose.notSynchronized Bd
  have hml : c.maxLocals = 5 := hml0
  have hown : s.vm.findClass "com/example/cartulary/cartulary/model/Syntax" = some m.cls := findClass_of_methodNamed Bd.named
  have hnm := (name_of_methodNamed Bd.named Bd.method).1
  have X0 : Stand p l e ({ frames := 0, cells := 0, slots := 0, locals := 0 } : Room) s m #[(.ref a1)] below meth c s₁ [] 0 0 := Stand.of_body Bd
  have e0 : s₁.heap = h0 := by rw [← hh, Bd.state]; rfl
  have N0 := Fr.nil n0
  show own_G p.tables e below s (Q1_0 Z a1 k1 r h0 n0) ({ frames := 0, cells := 0, slots := 0, locals := 0 } : Room).cells ({ frames := 0, cells := 0, slots := 0, locals := 0 } : Room).slots (s₁.setTop (entryFrame m #[(.ref a1)] 5))
  refine own_go (fun t k => castTop (ef_1_0 m a1) k) ?_
  show own_G p.tables e below s _ _ _ (s₁.setTop (mkF m 0 #[.val (.ref a1), .unset, .unset, .unset, .unset] []))
  refine own_go (fun t k => XS.aloadN X0.here hx rfl (hb hby d1_0_0) rfl rfl k) ?_
  show own_G p.tables e below s _ _ _ (s₁.setTop (mkF m 1 #[.val (.ref a1), .unset, .unset, .unset, .unset] [(.ref a1)]))
  refine own_go (fun t k => XS.astoreN X0.here hx rfl (hb hby d1_0_1) rfl rfl (l' := #[.val (.ref a1), .val (.ref a1), .unset, .unset, .unset]) rfl k) ?_
  show own_G p.tables e below s _ _ _ (s₁.setTop (mkF m 2 #[.val (.ref a1), .val (.ref a1), .unset, .unset, .unset] []))
  refine own_go (fun t k => XS.aloadN X0.here hx rfl (hb hby d1_0_2) rfl rfl k) ?_
  show own_G p.tables e below s _ _ _ (s₁.setTop (mkF m 3 #[.val (.ref a1), .val (.ref a1), .unset, .unset, .unset] [(.ref a1)]))
  obtain ⟨cl1, Ar1, q1, S1, NN1, HH1, GG1⟩ := id V1
  have hlen1 := len_of S1 NN1
  refine own_go (A := s₁.setTop (mkF m 4 #[.val (.ref a1), .val (.ref a1), .unset, .unset, .unset] [(.int (0 : Int32))])) (fun t k => X0.arraylength hx (by rw [e0]; exact Ar1.1) (State.isArrayOf_alike hZ.alike Ar1.2.1) (g := (mkF m 3 #[.val (.ref a1), .val (.ref a1), .unset, .unset, .unset] [(.ref a1)])) rfl rfl (hb hby d1_0_3) _ (by rw [hlen1]; exact k)) ?_
  show own_G p.tables e below s _ _ _ (s₁.setTop (mkF m 4 #[.val (.ref a1), .val (.ref a1), .unset, .unset, .unset] [(.int (0 : Int32))]))
  refine own_go (fun t k => XS.istoreN X0.here hx rfl (hb hby d1_0_4) rfl (l' := #[.val (.ref a1), .val (.ref a1), .val (.int (0 : Int32)), .unset, .unset]) rfl k) ?_
  show own_G p.tables e below s _ _ _ (s₁.setTop (mkF m 5 #[.val (.ref a1), .val (.ref a1), .val (.int (0 : Int32)), .unset, .unset] []))
  refine own_go (fun t k => XS.iconst X0.here hx rfl (hb hby d1_0_5) k) ?_
  show own_G p.tables e below s _ _ _ (s₁.setTop (mkF m 6 #[.val (.ref a1), .val (.ref a1), .val (.int (0 : Int32)), .unset, .unset] [(.int (0 : Int32))]))
  refine own_go (fun t k => XS.istoreN X0.here hx rfl (hb hby d1_0_6) rfl (l' := #[.val (.ref a1), .val (.ref a1), .val (.int (0 : Int32)), .val (.int (0 : Int32)), .unset]) rfl k) ?_
  show own_G p.tables e below s _ _ _ (s₁.setTop (mkF m 7 #[.val (.ref a1), .val (.ref a1), .val (.int (0 : Int32)), .val (.int (0 : Int32)), .unset] []))
  refine own_go (fun t k => XS.iloadN X0.here hx rfl (hb hby d1_0_7) rfl k) ?_
  show own_G p.tables e below s _ _ _ (s₁.setTop (mkF m 8 #[.val (.ref a1), .val (.ref a1), .val (.int (0 : Int32)), .val (.int (0 : Int32)), .unset] [(.int (0 : Int32))]))
  refine own_go (fun t k => XS.iloadN X0.here hx rfl (hb hby d1_0_8) rfl k) ?_
  show own_G p.tables e below s _ _ _ (s₁.setTop (mkF m 9 #[.val (.ref a1), .val (.ref a1), .val (.int (0 : Int32)), .val (.int (0 : Int32)), .unset] [(.int (0 : Int32)), (.int (0 : Int32))]))
  refine own_go (fun t k => XS.icmpYes X0.here hx rfl (pc0 := 9) (pc' := 30) rfl (hb hby d1_0_9) rfl (by decide) (by decide) (by decide) k) ?_
  show own_G p.tables e below s _ _ _ (s₁.setTop (mkF m 30 #[.val (.ref a1), .val (.ref a1), .val (.int (0 : Int32)), .val (.int (0 : Int32)), .unset] []))
  refine own_go (fun t k => XS.iconst X0.here hx rfl (hb hby d1_0_30) k) ?_
  show own_G p.tables e below s _ _ _ (s₁.setTop (mkF m 31 #[.val (.ref a1), .val (.ref a1), .val (.int (0 : Int32)), .val (.int (0 : Int32)), .unset] [(.int (1 : Int32))]))
  exact own_retN X0 hx hlk (t := .boolean) (z' := (1 : Int32)) Bd.returns (by simp) (hb hby d1_0_31) (rfl) (by rw [e0]; exact ⟨by rw [← hr, if_neg id], N0, rfl⟩) (by decide) (by decide)
theorem d1_1_0 : decode prog_92_method_13_code 0 = .ok (.aload_n 0, 1) := by decide +kernel
theorem d1_1_1 : decode prog_92_method_13_code 1 = .ok (.astore_n 1, 1) := by decide +kernel
theorem d1_1_2 : decode prog_92_method_13_code 2 = .ok (.aload_n 1, 1) := by decide +kernel
theorem d1_1_3 : decode prog_92_method_13_code 3 = .ok (.arraylength, 1) := by decide +kernel
theorem d1_1_4 : decode prog_92_method_13_code 4 = .ok (.istore_n 2, 1) := by decide +kernel
theorem d1_1_5 : decode prog_92_method_13_code 5 = .ok (.iconst 0, 1) := by decide +kernel
theorem d1_1_6 : decode prog_92_method_13_code 6 = .ok (.istore_n 3, 1) := by decide +kernel
theorem d1_1_7 : decode prog_92_method_13_code 7 = .ok (.iload_n 3, 1) := by decide +kernel
theorem d1_1_8 : decode prog_92_method_13_code 8 = .ok (.iload_n 2, 1) := by decide +kernel
theorem d1_1_9 : decode prog_92_method_13_code 9 = .ok (.if_icmp .ge 21, 3) := by decide +kernel
theorem d1_1_12 : decode prog_92_method_13_code 12 = .ok (.aload_n 1, 1) := by decide +kernel
theorem d1_1_13 : decode prog_92_method_13_code 13 = .ok (.iload_n 3, 1) := by decide +kernel
theorem d1_1_14 : decode prog_92_method_13_code 14 = .ok (.baload, 1) := by decide +kernel
theorem d1_1_15 : decode prog_92_method_13_code 15 = .ok (.istore 4, 2) := by decide +kernel
theorem d1_1_17 : decode prog_92_method_13_code 17 = .ok (.iload 4, 2) := by decide +kernel
theorem d1_1_19 : decode prog_92_method_13_code 19 = .ok (.ifCond .ge 5, 3) := by decide +kernel
theorem d1_1_22 : decode prog_92_method_13_code 22 = .ok (.iconst 0, 1) := by decide +kernel
theorem d1_1_23 : decode prog_92_method_13_code 23 = .ok (.ireturn, 1) := by decide +kernel
theorem d1_1_24 : decode prog_92_method_13_code 24 = .ok (.iinc 3 1, 3) := by decide +kernel
theorem d1_1_27 : decode prog_92_method_13_code 27 = .ok (.goto (-20), 3) := by decide +kernel
theorem d1_1_30 : decode prog_92_method_13_code 30 = .ok (.iconst 1, 1) := by decide +kernel
theorem d1_1_31 : decode prog_92_method_13_code 31 = .ok (.ireturn, 1) := by decide +kernel
theorem ef_1_1 (m : MethodId) (x0 : Addr) : entryFrame m #[(.ref x0)] 5 = mkF m 0 #[.val (.ref x0), .unset, .unset, .unset, .unset] [] := by first | (simp [entryFrame, mkF, argsToLocals, Value.category]; done) | rfl
def Q1_1 (Z : State) (a1 : Addr) (k1 : ClassId) (c0 r : Int32) (h0 : Heap) (n0 : Nat) (v : Option Value) (h : Heap) (L : List Loc) : Prop := v = some (.int r) ∧ Fr n0 L ∧ h = h0
set_option maxRecDepth 65536 in
set_option maxHeartbeats 40000000 in
theorem rm1_1 (l : Launch) (Z : State) (a0 : Array Value) (hw : ∀ d ∈ tables_1, d.before a0 Z = true) (ws : List Jvm.Cond) (a1 : Addr) (k1 : ClassId) (c0 r : Int32) (h0 : Heap) (n0 : Nat) (Z0 : n0 ≤ h0.size) (V1 : Arv Z h0 a1 k1 .byte (1 : Int32) [(.int c0)] (.int (0 : Int32))) (hr : (if c0 < (0 : Int32) then (0 : Int32) else 1) = r) :
    MetFree l (⟨"com/example/cartulary/cartulary/model/Syntax", "isAscii", "([B)Z"⟩ : MethodName) (head1 (Jvm.Cond.code (⟨"com/example/cartulary/cartulary/model/Syntax", "isAscii", "([B)Z"⟩ : MethodName) prog_92_method_13_code 5 (some .boolean) :: ws) ({ frames := 0, cells := 0, slots := 0, locals := 0 } : Room)) (fun a U => a = #[(.ref a1)] ∧ Z.Warmed39 U.vm ∧ U.heap = h0) (fun _ _ _ _ _ => True) (fun _ U o U' => ∃ v L, o = .returned v ∧ Q1_1 Z a1 k1 c0 r h0 n0 v U'.heap L ∧ FrameEnd U o U' L ({ frames := 0, cells := 0, slots := 0, locals := 0 } : Room).cells ({ frames := 0, cells := 0, slots := 0, locals := 0 } : Room).slots) := by
  refine MetFree.of_bodySF (plainFor_of_name pn_com_example_cartulary_cartulary_model_Syntax) hisR ?_
  intro p e s m args below meth c s₁ Bd hml0 hP hK
  obtain ⟨rfl, hZ, hh⟩ := hP
  have hx := Bd.exec
  have hby := Bd.bytes
  have hlk : meth.locks = false := BodyLoose.notSynchronized Bd
  have hml : c.maxLocals = 5 := hml0
  have hown : s.vm.findClass "com/example/cartulary/cartulary/model/Syntax" = some m.cls := findClass_of_methodNamed Bd.named
  have hnm := (name_of_methodNamed Bd.named Bd.method).1
  have X0 : Stand p l e ({ frames := 0, cells := 0, slots := 0, locals := 0 } : Room) s m #[(.ref a1)] below meth c s₁ [] 0 0 := Stand.of_body Bd
  have e0 : s₁.heap = h0 := by rw [← hh, Bd.state]; rfl
  have N0 := Fr.nil n0
  show own_G p.tables e below s (Q1_1 Z a1 k1 c0 r h0 n0) ({ frames := 0, cells := 0, slots := 0, locals := 0 } : Room).cells ({ frames := 0, cells := 0, slots := 0, locals := 0 } : Room).slots (s₁.setTop (entryFrame m #[(.ref a1)] 5))
  refine own_go (fun t k => castTop (ef_1_1 m a1) k) ?_
  show own_G p.tables e below s _ _ _ (s₁.setTop (mkF m 0 #[.val (.ref a1), .unset, .unset, .unset, .unset] []))
  refine own_go (fun t k => XS.aloadN X0.here hx rfl (hb hby d1_1_0) rfl rfl k) ?_
  show own_G p.tables e below s _ _ _ (s₁.setTop (mkF m 1 #[.val (.ref a1), .unset, .unset, .unset, .unset] [(.ref a1)]))
  refine own_go (fun t k => XS.astoreN X0.here hx rfl (hb hby d1_1_1) rfl rfl (l' := #[.val (.ref a1), .val (.ref a1), .unset, .unset, .unset]) rfl k) ?_
  show own_G p.tables e below s _ _ _ (s₁.setTop (mkF m 2 #[.val (.ref a1), .val (.ref a1), .unset, .unset, .unset] []))
  refine own_go (fun t k => XS.aloadN X0.here hx rfl (hb hby d1_1_2) rfl rfl k) ?_
  show own_G p.tables e below s _ _ _ (s₁.setTop (mkF m 3 #[.val (.ref a1), .val (.ref a1), .unset, .unset, .unset] [(.ref a1)]))
  obtain ⟨cl2, Ar2, q2, S2, NN2, HH2, GG2⟩ := id V1
  have hlen2 := len_of S2 NN2
  refine own_go (A := s₁.setTop (mkF m 4 #[.val (.ref a1), .val (.ref a1), .unset, .unset, .unset] [(.int (1 : Int32))])) (fun t k => X0.arraylength hx (by rw [e0]; exact Ar2.1) (State.isArrayOf_alike hZ.alike Ar2.2.1) (g := (mkF m 3 #[.val (.ref a1), .val (.ref a1), .unset, .unset, .unset] [(.ref a1)])) rfl rfl (hb hby d1_1_3) _ (by rw [hlen2]; exact k)) ?_
  show own_G p.tables e below s _ _ _ (s₁.setTop (mkF m 4 #[.val (.ref a1), .val (.ref a1), .unset, .unset, .unset] [(.int (1 : Int32))]))
  refine own_go (fun t k => XS.istoreN X0.here hx rfl (hb hby d1_1_4) rfl (l' := #[.val (.ref a1), .val (.ref a1), .val (.int (1 : Int32)), .unset, .unset]) rfl k) ?_
  show own_G p.tables e below s _ _ _ (s₁.setTop (mkF m 5 #[.val (.ref a1), .val (.ref a1), .val (.int (1 : Int32)), .unset, .unset] []))
  refine own_go (fun t k => XS.iconst X0.here hx rfl (hb hby d1_1_5) k) ?_
  show own_G p.tables e below s _ _ _ (s₁.setTop (mkF m 6 #[.val (.ref a1), .val (.ref a1), .val (.int (1 : Int32)), .unset, .unset] [(.int (0 : Int32))]))
  refine own_go (fun t k => XS.istoreN X0.here hx rfl (hb hby d1_1_6) rfl (l' := #[.val (.ref a1), .val (.ref a1), .val (.int (1 : Int32)), .val (.int (0 : Int32)), .unset]) rfl k) ?_
  show own_G p.tables e below s _ _ _ (s₁.setTop (mkF m 7 #[.val (.ref a1), .val (.ref a1), .val (.int (1 : Int32)), .val (.int (0 : Int32)), .unset] []))
  refine own_go (fun t k => XS.iloadN X0.here hx rfl (hb hby d1_1_7) rfl k) ?_
  show own_G p.tables e below s _ _ _ (s₁.setTop (mkF m 8 #[.val (.ref a1), .val (.ref a1), .val (.int (1 : Int32)), .val (.int (0 : Int32)), .unset] [(.int (0 : Int32))]))
  refine own_go (fun t k => XS.iloadN X0.here hx rfl (hb hby d1_1_8) rfl k) ?_
  show own_G p.tables e below s _ _ _ (s₁.setTop (mkF m 9 #[.val (.ref a1), .val (.ref a1), .val (.int (1 : Int32)), .val (.int (0 : Int32)), .unset] [(.int (1 : Int32)), (.int (0 : Int32))]))
  refine own_go (fun t k => XS.icmpNo X0.here hx rfl (hb hby d1_1_9) rfl (by decide) k) ?_
  show own_G p.tables e below s _ _ _ (s₁.setTop (mkF m 12 #[.val (.ref a1), .val (.ref a1), .val (.int (1 : Int32)), .val (.int (0 : Int32)), .unset] []))
  refine own_go (fun t k => XS.aloadN X0.here hx rfl (hb hby d1_1_12) rfl rfl k) ?_
  show own_G p.tables e below s _ _ _ (s₁.setTop (mkF m 13 #[.val (.ref a1), .val (.ref a1), .val (.int (1 : Int32)), .val (.int (0 : Int32)), .unset] [(.ref a1)]))
  refine own_go (fun t k => XS.iloadN X0.here hx rfl (hb hby d1_1_13) rfl k) ?_
  show own_G p.tables e below s _ _ _ (s₁.setTop (mkF m 14 #[.val (.ref a1), .val (.ref a1), .val (.int (1 : Int32)), .val (.int (0 : Int32)), .unset] [(.int (0 : Int32)), (.ref a1)]))
  obtain ⟨cl3, Ar3, q3, S3, NN3, HH3, GG3⟩ := id V1
  have hin3 : ¬ ((0 : Int32) < 0 ∨ cl3.slots.size ≤ ((0 : Int32)).toNatClampNeg) := inb_of S3 ⟨by decide, by decide⟩
  have hat3 : cl3.slots[((0 : Int32)).toNatClampNeg]? = some (.int c0) := Has.at HH3 hin3 rfl
  refine own_go (fun t k => X0.baloadBytes hx (j := (0 : Int32)) (v := (.int c0)) (by rw [e0]; exact Ar3.1) (State.isArrayOf_alike hZ.alike Ar3.2.1) Ar3.2.2 hin3 hat3 (g := (mkF m 14 #[.val (.ref a1), .val (.ref a1), .val (.int (1 : Int32)), .val (.int (0 : Int32)), .unset] [(.int (0 : Int32)), (.ref a1)])) rfl rfl (hb hby d1_1_14) _ k) ?_
  show own_G p.tables e below s _ _ _ (s₁.setTop (mkF m 15 #[.val (.ref a1), .val (.ref a1), .val (.int (1 : Int32)), .val (.int (0 : Int32)), .unset] [(.int c0)]))
  refine own_go (fun t k => XS.istore X0.here hx rfl (hb hby d1_1_15) rfl (l' := #[.val (.ref a1), .val (.ref a1), .val (.int (1 : Int32)), .val (.int (0 : Int32)), .val (.int c0)]) rfl k) ?_
  show own_G p.tables e below s _ _ _ (s₁.setTop (mkF m 17 #[.val (.ref a1), .val (.ref a1), .val (.int (1 : Int32)), .val (.int (0 : Int32)), .val (.int c0)] []))
  refine own_go (fun t k => XS.iload X0.here hx rfl (hb hby d1_1_17) rfl k) ?_
  show own_G p.tables e below s _ _ _ (s₁.setTop (mkF m 19 #[.val (.ref a1), .val (.ref a1), .val (.int (1 : Int32)), .val (.int (0 : Int32)), .val (.int c0)] [(.int c0)]))
  by_cases hn0 : c0 < (0 : Int32)
  · refine own_go (fun t k => XS.ifNo X0.here hx rfl (hb hby d1_1_19) rfl (Jvm.Free.XT.i0_ge_f hn0) k) ?_
    show own_G p.tables e below s _ _ _ (s₁.setTop (mkF m 22 #[.val (.ref a1), .val (.ref a1), .val (.int (1 : Int32)), .val (.int (0 : Int32)), .val (.int c0)] []))
    refine own_go (fun t k => XS.iconst X0.here hx rfl (hb hby d1_1_22) k) ?_
    show own_G p.tables e below s _ _ _ (s₁.setTop (mkF m 23 #[.val (.ref a1), .val (.ref a1), .val (.int (1 : Int32)), .val (.int (0 : Int32)), .val (.int c0)] [(.int (0 : Int32))]))
    exact own_retN X0 hx hlk (t := .boolean) (z' := (0 : Int32)) Bd.returns (by simp) (hb hby d1_1_23) (rfl) (by rw [e0]; exact ⟨by rw [← hr, if_pos (hn0)], N0, rfl⟩) (by decide) (by decide)
  · refine own_go (fun t k => XS.ifYes X0.here hx rfl (pc0 := 19) (pc' := 24) rfl (hb hby d1_1_19) rfl (Jvm.Free.XT.i0_ge_t hn0) (by decide) (by decide) k) ?_
    show own_G p.tables e below s _ _ _ (s₁.setTop (mkF m 24 #[.val (.ref a1), .val (.ref a1), .val (.int (1 : Int32)), .val (.int (0 : Int32)), .val (.int c0)] []))
    refine own_go (fun t k => XS.iinc X0.here hx rfl (hb hby d1_1_24) rfl (l' := #[.val (.ref a1), .val (.ref a1), .val (.int (1 : Int32)), .val (.int (1 : Int32)), .val (.int c0)]) rfl k) ?_
    show own_G p.tables e below s _ _ _ (s₁.setTop (mkF m 27 #[.val (.ref a1), .val (.ref a1), .val (.int (1 : Int32)), .val (.int (1 : Int32)), .val (.int c0)] []))
    refine own_go (fun t k => XS.goto X0.here hx rfl (pc0 := 27) (pc' := 7) rfl (hb hby d1_1_27) (by decide) (by decide) k) ?_
    show own_G p.tables e below s _ _ _ (s₁.setTop (mkF m 7 #[.val (.ref a1), .val (.ref a1), .val (.int (1 : Int32)), .val (.int (1 : Int32)), .val (.int c0)] []))
    refine own_go (fun t k => XS.iloadN X0.here hx rfl (hb hby d1_1_7) rfl k) ?_
    show own_G p.tables e below s _ _ _ (s₁.setTop (mkF m 8 #[.val (.ref a1), .val (.ref a1), .val (.int (1 : Int32)), .val (.int (1 : Int32)), .val (.int c0)] [(.int (1 : Int32))]))
    refine own_go (fun t k => XS.iloadN X0.here hx rfl (hb hby d1_1_8) rfl k) ?_
    show own_G p.tables e below s _ _ _ (s₁.setTop (mkF m 9 #[.val (.ref a1), .val (.ref a1), .val (.int (1 : Int32)), .val (.int (1 : Int32)), .val (.int c0)] [(.int (1 : Int32)), (.int (1 : Int32))]))
    refine own_go (fun t k => XS.icmpYes X0.here hx rfl (pc0 := 9) (pc' := 30) rfl (hb hby d1_1_9) rfl (by decide) (by decide) (by decide) k) ?_
    show own_G p.tables e below s _ _ _ (s₁.setTop (mkF m 30 #[.val (.ref a1), .val (.ref a1), .val (.int (1 : Int32)), .val (.int (1 : Int32)), .val (.int c0)] []))
    refine own_go (fun t k => XS.iconst X0.here hx rfl (hb hby d1_1_30) k) ?_
    show own_G p.tables e below s _ _ _ (s₁.setTop (mkF m 31 #[.val (.ref a1), .val (.ref a1), .val (.int (1 : Int32)), .val (.int (1 : Int32)), .val (.int c0)] [(.int (1 : Int32))]))
    exact own_retN X0 hx hlk (t := .boolean) (z' := (1 : Int32)) Bd.returns (by simp) (hb hby d1_1_31) (rfl) (by rw [e0]; exact ⟨by rw [← hr, if_neg hn0], N0, rfl⟩) (by decide) (by decide)
theorem d1_2_0 : decode prog_92_method_13_code 0 = .ok (.aload_n 0, 1) := by decide +kernel
theorem d1_2_1 : decode prog_92_method_13_code 1 = .ok (.astore_n 1, 1) := by decide +kernel
theorem d1_2_2 : decode prog_92_method_13_code 2 = .ok (.aload_n 1, 1) := by decide +kernel
theorem d1_2_3 : decode prog_92_method_13_code 3 = .ok (.arraylength, 1) := by decide +kernel
theorem d1_2_4 : decode prog_92_method_13_code 4 = .ok (.istore_n 2, 1) := by decide +kernel
theorem d1_2_5 : decode prog_92_method_13_code 5 = .ok (.iconst 0, 1) := by decide +kernel
theorem d1_2_6 : decode prog_92_method_13_code 6 = .ok (.istore_n 3, 1) := by decide +kernel
theorem d1_2_7 : decode prog_92_method_13_code 7 = .ok (.iload_n 3, 1) := by decide +kernel
theorem d1_2_8 : decode prog_92_method_13_code 8 = .ok (.iload_n 2, 1) := by decide +kernel
theorem d1_2_9 : decode prog_92_method_13_code 9 = .ok (.if_icmp .ge 21, 3) := by decide +kernel
theorem d1_2_12 : decode prog_92_method_13_code 12 = .ok (.aload_n 1, 1) := by decide +kernel
theorem d1_2_13 : decode prog_92_method_13_code 13 = .ok (.iload_n 3, 1) := by decide +kernel
theorem d1_2_14 : decode prog_92_method_13_code 14 = .ok (.baload, 1) := by decide +kernel
theorem d1_2_15 : decode prog_92_method_13_code 15 = .ok (.istore 4, 2) := by decide +kernel
theorem d1_2_17 : decode prog_92_method_13_code 17 = .ok (.iload 4, 2) := by decide +kernel
theorem d1_2_19 : decode prog_92_method_13_code 19 = .ok (.ifCond .ge 5, 3) := by decide +kernel
theorem d1_2_22 : decode prog_92_method_13_code 22 = .ok (.iconst 0, 1) := by decide +kernel
theorem d1_2_23 : decode prog_92_method_13_code 23 = .ok (.ireturn, 1) := by decide +kernel
theorem d1_2_24 : decode prog_92_method_13_code 24 = .ok (.iinc 3 1, 3) := by decide +kernel
theorem d1_2_27 : decode prog_92_method_13_code 27 = .ok (.goto (-20), 3) := by decide +kernel
theorem d1_2_30 : decode prog_92_method_13_code 30 = .ok (.iconst 1, 1) := by decide +kernel
theorem d1_2_31 : decode prog_92_method_13_code 31 = .ok (.ireturn, 1) := by decide +kernel
theorem ef_1_2 (m : MethodId) (x0 : Addr) : entryFrame m #[(.ref x0)] 5 = mkF m 0 #[.val (.ref x0), .unset, .unset, .unset, .unset] [] := by first | (simp [entryFrame, mkF, argsToLocals, Value.category]; done) | rfl
def Q1_2 (Z : State) (a1 : Addr) (k1 : ClassId) (c0 c1 r : Int32) (h0 : Heap) (n0 : Nat) (v : Option Value) (h : Heap) (L : List Loc) : Prop := v = some (.int r) ∧ Fr n0 L ∧ h = h0
set_option maxRecDepth 65536 in
set_option maxHeartbeats 40000000 in
theorem rm1_2 (l : Launch) (Z : State) (a0 : Array Value) (hw : ∀ d ∈ tables_1, d.before a0 Z = true) (ws : List Jvm.Cond) (a1 : Addr) (k1 : ClassId) (c0 c1 r : Int32) (h0 : Heap) (n0 : Nat) (Z0 : n0 ≤ h0.size) (V1 : Arv Z h0 a1 k1 .byte (2 : Int32) [(.int c0), (.int c1)] (.int (0 : Int32))) (hr : (if c0 < (0 : Int32) ∨ c1 < (0 : Int32) then (0 : Int32) else 1) = r) :
    MetFree l (⟨"com/example/cartulary/cartulary/model/Syntax", "isAscii", "([B)Z"⟩ : MethodName) (head1 (Jvm.Cond.code (⟨"com/example/cartulary/cartulary/model/Syntax", "isAscii", "([B)Z"⟩ : MethodName) prog_92_method_13_code 5 (some .boolean) :: ws) ({ frames := 0, cells := 0, slots := 0, locals := 0 } : Room)) (fun a U => a = #[(.ref a1)] ∧ Z.Warmed39 U.vm ∧ U.heap = h0) (fun _ _ _ _ _ => True) (fun _ U o U' => ∃ v L, o = .returned v ∧ Q1_2 Z a1 k1 c0 c1 r h0 n0 v U'.heap L ∧ FrameEnd U o U' L ({ frames := 0, cells := 0, slots := 0, locals := 0 } : Room).cells ({ frames := 0, cells := 0, slots := 0, locals := 0 } : Room).slots) := by
  refine MetFree.of_bodySF (plainFor_of_name pn_com_example_cartulary_cartulary_model_Syntax) hisR ?_
  intro p e s m args below meth c s₁ Bd hml0 hP hK
  obtain ⟨rfl, hZ, hh⟩ := hP
  have hx := Bd.exec
  have hby := Bd.bytes
  have hlk : meth.locks = false := BodyLoose.notSynchronized Bd
  have hml : c.maxLocals = 5 := hml0
  have hown : s.vm.findClass "com/example/cartulary/cartulary/model/Syntax" = some m.cls := findClass_of_methodNamed Bd.named
  have hnm := (name_of_methodNamed Bd.named Bd.method).1
  have X0 : Stand p l e ({ frames := 0, cells := 0, slots := 0, locals := 0 } : Room) s m #[(.ref a1)] below meth c s₁ [] 0 0 := Stand.of_body Bd
  have e0 : s₁.heap = h0 := by rw [← hh, Bd.state]; rfl
  have N0 := Fr.nil n0
  show own_G p.tables e below s (Q1_2 Z a1 k1 c0 c1 r h0 n0) ({ frames := 0, cells := 0, slots := 0, locals := 0 } : Room).cells ({ frames := 0, cells := 0, slots := 0, locals := 0 } : Room).slots (s₁.setTop (entryFrame m #[(.ref a1)] 5))
  refine own_go (fun t k => castTop (ef_1_2 m a1) k) ?_
  show own_G p.tables e below s _ _ _ (s₁.setTop (mkF m 0 #[.val (.ref a1), .unset, .unset, .unset, .unset] []))
  refine own_go (fun t k => XS.aloadN X0.here hx rfl (hb hby d1_2_0) rfl rfl k) ?_
  show own_G p.tables e below s _ _ _ (s₁.setTop (mkF m 1 #[.val (.ref a1), .unset, .unset, .unset, .unset] [(.ref a1)]))
  refine own_go (fun t k => XS.astoreN X0.here hx rfl (hb hby d1_2_1) rfl rfl (l' := #[.val (.ref a1), .val (.ref a1), .unset, .unset, .unset]) rfl k) ?_
  show own_G p.tables e below s _ _ _ (s₁.setTop (mkF m 2 #[.val (.ref a1), .val (.ref a1), .unset, .unset, .unset] []))
  refine own_go (fun t k => XS.aloadN X0.here hx rfl (hb hby d1_2_2) rfl rfl k) ?_
  show own_G p.tables e below s _ _ _ (s₁.setTop (mkF m 3 #[.val (.ref a1), .val (.ref a1), .unset, .unset, .unset] [(.ref a1)]))
  obtain ⟨cl4, Ar4, q4, S4, NN4, HH4, GG4⟩ := id V1
  have hlen4 := len_of S4 NN4
  refine own_go (A := s₁.setTop (mkF m 4 #[.val (.ref a1), .val (.ref a1), .unset, .unset, .unset] [(.int (2 : Int32))])) (fun t k => X0.arraylength hx (by rw [e0]; exact Ar4.1) (State.isArrayOf_alike hZ.alike Ar4.2.1) (g := (mkF m 3 #[.val (.ref a1), .val (.ref a1), .unset, .unset, .unset] [(.ref a1)])) rfl rfl (hb hby d1_2_3) _ (by rw [hlen4]; exact k)) ?_
  show own_G p.tables e below s _ _ _ (s₁.setTop (mkF m 4 #[.val (.ref a1), .val (.ref a1), .unset, .unset, .unset] [(.int (2 : Int32))]))
  refine own_go (fun t k => XS.istoreN X0.here hx rfl (hb hby d1_2_4) rfl (l' := #[.val (.ref a1), .val (.ref a1), .val (.int (2 : Int32)), .unset, .unset]) rfl k) ?_
  show own_G p.tables e below s _ _ _ (s₁.setTop (mkF m 5 #[.val (.ref a1), .val (.ref a1), .val (.int (2 : Int32)), .unset, .unset] []))
  refine own_go (fun t k => XS.iconst X0.here hx rfl (hb hby d1_2_5) k) ?_
  show own_G p.tables e below s _ _ _ (s₁.setTop (mkF m 6 #[.val (.ref a1), .val (.ref a1), .val (.int (2 : Int32)), .unset, .unset] [(.int (0 : Int32))]))
  refine own_go (fun t k => XS.istoreN X0.here hx rfl (hb hby d1_2_6) rfl (l' := #[.val (.ref a1), .val (.ref a1), .val (.int (2 : Int32)), .val (.int (0 : Int32)), .unset]) rfl k) ?_
  show own_G p.tables e below s _ _ _ (s₁.setTop (mkF m 7 #[.val (.ref a1), .val (.ref a1), .val (.int (2 : Int32)), .val (.int (0 : Int32)), .unset] []))
  refine own_go (fun t k => XS.iloadN X0.here hx rfl (hb hby d1_2_7) rfl k) ?_
  show own_G p.tables e below s _ _ _ (s₁.setTop (mkF m 8 #[.val (.ref a1), .val (.ref a1), .val (.int (2 : Int32)), .val (.int (0 : Int32)), .unset] [(.int (0 : Int32))]))
  refine own_go (fun t k => XS.iloadN X0.here hx rfl (hb hby d1_2_8) rfl k) ?_
  show own_G p.tables e below s _ _ _ (s₁.setTop (mkF m 9 #[.val (.ref a1), .val (.ref a1), .val (.int (2 : Int32)), .val (.int (0 : Int32)), .unset] [(.int (2 : Int32)), (.int (0 : Int32))]))
  refine own_go (fun t k => XS.icmpNo X0.here hx rfl (hb hby d1_2_9) rfl (by decide) k) ?_
  show own_G p.tables e below s _ _ _ (s₁.setTop (mkF m 12 #[.val (.ref a1), .val (.ref a1), .val (.int (2 : Int32)), .val (.int (0 : Int32)), .unset] []))
  refine own_go (fun t k => XS.aloadN X0.here hx rfl (hb hby d1_2_12) rfl rfl k) ?_
  show own_G p.tables e below s _ _ _ (s₁.setTop (mkF m 13 #[.val (.ref a1), .val (.ref a1), .val (.int (2 : Int32)), .val (.int (0 : Int32)), .unset] [(.ref a1)]))
  refine own_go (fun t k => XS.iloadN X0.here hx rfl (hb hby d1_2_13) rfl k) ?_
  show own_G p.tables e below s _ _ _ (s₁.setTop (mkF m 14 #[.val (.ref a1), .val (.ref a1), .val (.int (2 : Int32)), .val (.int (0 : Int32)), .unset] [(.int (0 : Int32)), (.ref a1)]))
  obtain ⟨cl5, Ar5, q5, S5, NN5, HH5, GG5⟩ := id V1
  have hin5 : ¬ ((0 : Int32) < 0 ∨ cl5.slots.size ≤ ((0 : Int32)).toNatClampNeg) := inb_of S5 ⟨by decide, by decide⟩
  have hat5 : cl5.slots[((0 : Int32)).toNatClampNeg]? = some (.int c0) := Has.at HH5 hin5 rfl
  refine own_go (fun t k => X0.baloadBytes hx (j := (0 : Int32)) (v := (.int c0)) (by rw [e0]; exact Ar5.1) (State.isArrayOf_alike hZ.alike Ar5.2.1) Ar5.2.2 hin5 hat5 (g := (mkF m 14 #[.val (.ref a1), .val (.ref a1), .val (.int (2 : Int32)), .val (.int (0 : Int32)), .unset] [(.int (0 : Int32)), (.ref a1)])) rfl rfl (hb hby d1_2_14) _ k) ?_
  show own_G p.tables e below s _ _ _ (s₁.setTop (mkF m 15 #[.val (.ref a1), .val (.ref a1), .val (.int (2 : Int32)), .val (.int (0 : Int32)), .unset] [(.int c0)]))
  refine own_go (fun t k => XS.istore X0.here hx rfl (hb hby d1_2_15) rfl (l' := #[.val (.ref a1), .val (.ref a1), .val (.int (2 : Int32)), .val (.int (0 : Int32)), .val (.int c0)]) rfl k) ?_
  show own_G p.tables e below s _ _ _ (s₁.setTop (mkF m 17 #[.val (.ref a1), .val (.ref a1), .val (.int (2 : Int32)), .val (.int (0 : Int32)), .val (.int c0)] []))
  refine own_go (fun t k => XS.iload X0.here hx rfl (hb hby d1_2_17) rfl k) ?_
  show own_G p.tables e below s _ _ _ (s₁.setTop (mkF m 19 #[.val (.ref a1), .val (.ref a1), .val (.int (2 : Int32)), .val (.int (0 : Int32)), .val (.int c0)] [(.int c0)]))
  by_cases hn0 : c0 < (0 : Int32)
  · refine own_go (fun t k => XS.ifNo X0.here hx rfl (hb hby d1_2_19) rfl (Jvm.Free.XT.i0_ge_f hn0) k) ?_
    show own_G p.tables e below s _ _ _ (s₁.setTop (mkF m 22 #[.val (.ref a1), .val (.ref a1), .val (.int (2 : Int32)), .val (.int (0 : Int32)), .val (.int c0)] []))
    refine own_go (fun t k => XS.iconst X0.here hx rfl (hb hby d1_2_22) k) ?_
    show own_G p.tables e below s _ _ _ (s₁.setTop (mkF m 23 #[.val (.ref a1), .val (.ref a1), .val (.int (2 : Int32)), .val (.int (0 : Int32)), .val (.int c0)] [(.int (0 : Int32))]))
    exact own_retN X0 hx hlk (t := .boolean) (z' := (0 : Int32)) Bd.returns (by simp) (hb hby d1_2_23) (rfl) (by rw [e0]; exact ⟨by rw [← hr, if_pos (Or.inl hn0)], N0, rfl⟩) (by decide) (by decide)
  · refine own_go (fun t k => XS.ifYes X0.here hx rfl (pc0 := 19) (pc' := 24) rfl (hb hby d1_2_19) rfl (Jvm.Free.XT.i0_ge_t hn0) (by decide) (by decide) k) ?_
    show own_G p.tables e below s _ _ _ (s₁.setTop (mkF m 24 #[.val (.ref a1), .val (.ref a1), .val (.int (2 : Int32)), .val (.int (0 : Int32)), .val (.int c0)] []))
    refine own_go (fun t k => XS.iinc X0.here hx rfl (hb hby d1_2_24) rfl (l' := #[.val (.ref a1), .val (.ref a1), .val (.int (2 : Int32)), .val (.int (1 : Int32)), .val (.int c0)]) rfl k) ?_
    show own_G p.tables e below s _ _ _ (s₁.setTop (mkF m 27 #[.val (.ref a1), .val (.ref a1), .val (.int (2 : Int32)), .val (.int (1 : Int32)), .val (.int c0)] []))
    refine own_go (fun t k => XS.goto X0.here hx rfl (pc0 := 27) (pc' := 7) rfl (hb hby d1_2_27) (by decide) (by decide) k) ?_
    show own_G p.tables e below s _ _ _ (s₁.setTop (mkF m 7 #[.val (.ref a1), .val (.ref a1), .val (.int (2 : Int32)), .val (.int (1 : Int32)), .val (.int c0)] []))
    refine own_go (fun t k => XS.iloadN X0.here hx rfl (hb hby d1_2_7) rfl k) ?_
    show own_G p.tables e below s _ _ _ (s₁.setTop (mkF m 8 #[.val (.ref a1), .val (.ref a1), .val (.int (2 : Int32)), .val (.int (1 : Int32)), .val (.int c0)] [(.int (1 : Int32))]))
    refine own_go (fun t k => XS.iloadN X0.here hx rfl (hb hby d1_2_8) rfl k) ?_
    show own_G p.tables e below s _ _ _ (s₁.setTop (mkF m 9 #[.val (.ref a1), .val (.ref a1), .val (.int (2 : Int32)), .val (.int (1 : Int32)), .val (.int c0)] [(.int (2 : Int32)), (.int (1 : Int32))]))
    refine own_go (fun t k => XS.icmpNo X0.here hx rfl (hb hby d1_2_9) rfl (by decide) k) ?_
    show own_G p.tables e below s _ _ _ (s₁.setTop (mkF m 12 #[.val (.ref a1), .val (.ref a1), .val (.int (2 : Int32)), .val (.int (1 : Int32)), .val (.int c0)] []))
    refine own_go (fun t k => XS.aloadN X0.here hx rfl (hb hby d1_2_12) rfl rfl k) ?_
    show own_G p.tables e below s _ _ _ (s₁.setTop (mkF m 13 #[.val (.ref a1), .val (.ref a1), .val (.int (2 : Int32)), .val (.int (1 : Int32)), .val (.int c0)] [(.ref a1)]))
    refine own_go (fun t k => XS.iloadN X0.here hx rfl (hb hby d1_2_13) rfl k) ?_
    show own_G p.tables e below s _ _ _ (s₁.setTop (mkF m 14 #[.val (.ref a1), .val (.ref a1), .val (.int (2 : Int32)), .val (.int (1 : Int32)), .val (.int c0)] [(.int (1 : Int32)), (.ref a1)]))
    obtain ⟨cl6, Ar6, q6, S6, NN6, HH6, GG6⟩ := id V1
    have hin6 : ¬ ((1 : Int32) < 0 ∨ cl6.slots.size ≤ ((1 : Int32)).toNatClampNeg) := inb_of S6 ⟨by decide, by decide⟩
    have hat6 : cl6.slots[((1 : Int32)).toNatClampNeg]? = some (.int c1) := Has.at HH6 hin6 rfl
    refine own_go (fun t k => X0.baloadBytes hx (j := (1 : Int32)) (v := (.int c1)) (by rw [e0]; exact Ar6.1) (State.isArrayOf_alike hZ.alike Ar6.2.1) Ar6.2.2 hin6 hat6 (g := (mkF m 14 #[.val (.ref a1), .val (.ref a1), .val (.int (2 : Int32)), .val (.int (1 : Int32)), .val (.int c0)] [(.int (1 : Int32)), (.ref a1)])) rfl rfl (hb hby d1_2_14) _ k) ?_
    show own_G p.tables e below s _ _ _ (s₁.setTop (mkF m 15 #[.val (.ref a1), .val (.ref a1), .val (.int (2 : Int32)), .val (.int (1 : Int32)), .val (.int c0)] [(.int c1)]))
    refine own_go (fun t k => XS.istore X0.here hx rfl (hb hby d1_2_15) rfl (l' := #[.val (.ref a1), .val (.ref a1), .val (.int (2 : Int32)), .val (.int (1 : Int32)), .val (.int c1)]) rfl k) ?_
    show own_G p.tables e below s _ _ _ (s₁.setTop (mkF m 17 #[.val (.ref a1), .val (.ref a1), .val (.int (2 : Int32)), .val (.int (1 : Int32)), .val (.int c1)] []))
    refine own_go (fun t k => XS.iload X0.here hx rfl (hb hby d1_2_17) rfl k) ?_
    show own_G p.tables e below s _ _ _ (s₁.setTop (mkF m 19 #[.val (.ref a1), .val (.ref a1), .val (.int (2 : Int32)), .val (.int (1 : Int32)), .val (.int c1)] [(.int c1)]))
    by_cases hn1 : c1 < (0 : Int32)
    · refine own_go (fun t k => XS.ifNo X0.here hx rfl (hb hby d1_2_19) rfl (Jvm.Free.XT.i0_ge_f hn1) k) ?_
      show own_G p.tables e below s _ _ _ (s₁.setTop (mkF m 22 #[.val (.ref a1), .val (.ref a1), .val (.int (2 : Int32)), .val (.int (1 : Int32)), .val (.int c1)] []))
      refine own_go (fun t k => XS.iconst X0.here hx rfl (hb hby d1_2_22) k) ?_
      show own_G p.tables e below s _ _ _ (s₁.setTop (mkF m 23 #[.val (.ref a1), .val (.ref a1), .val (.int (2 : Int32)), .val (.int (1 : Int32)), .val (.int c1)] [(.int (0 : Int32))]))
      exact own_retN X0 hx hlk (t := .boolean) (z' := (0 : Int32)) Bd.returns (by simp) (hb hby d1_2_23) (rfl) (by rw [e0]; exact ⟨by rw [← hr, if_pos (Or.inr (hn1))], N0, rfl⟩) (by decide) (by decide)
    · refine own_go (fun t k => XS.ifYes X0.here hx rfl (pc0 := 19) (pc' := 24) rfl (hb hby d1_2_19) rfl (Jvm.Free.XT.i0_ge_t hn1) (by decide) (by decide) k) ?_
      show own_G p.tables e below s _ _ _ (s₁.setTop (mkF m 24 #[.val (.ref a1), .val (.ref a1), .val (.int (2 : Int32)), .val (.int (1 : Int32)), .val (.int c1)] []))
      refine own_go (fun t k => XS.iinc X0.here hx rfl (hb hby d1_2_24) rfl (l' := #[.val (.ref a1), .val (.ref a1), .val (.int (2 : Int32)), .val (.int (2 : Int32)), .val (.int c1)]) rfl k) ?_
      show own_G p.tables e below s _ _ _ (s₁.setTop (mkF m 27 #[.val (.ref a1), .val (.ref a1), .val (.int (2 : Int32)), .val (.int (2 : Int32)), .val (.int c1)] []))
      refine own_go (fun t k => XS.goto X0.here hx rfl (pc0 := 27) (pc' := 7) rfl (hb hby d1_2_27) (by decide) (by decide) k) ?_
      show own_G p.tables e below s _ _ _ (s₁.setTop (mkF m 7 #[.val (.ref a1), .val (.ref a1), .val (.int (2 : Int32)), .val (.int (2 : Int32)), .val (.int c1)] []))
      refine own_go (fun t k => XS.iloadN X0.here hx rfl (hb hby d1_2_7) rfl k) ?_
      show own_G p.tables e below s _ _ _ (s₁.setTop (mkF m 8 #[.val (.ref a1), .val (.ref a1), .val (.int (2 : Int32)), .val (.int (2 : Int32)), .val (.int c1)] [(.int (2 : Int32))]))
      refine own_go (fun t k => XS.iloadN X0.here hx rfl (hb hby d1_2_8) rfl k) ?_
      show own_G p.tables e below s _ _ _ (s₁.setTop (mkF m 9 #[.val (.ref a1), .val (.ref a1), .val (.int (2 : Int32)), .val (.int (2 : Int32)), .val (.int c1)] [(.int (2 : Int32)), (.int (2 : Int32))]))
      refine own_go (fun t k => XS.icmpYes X0.here hx rfl (pc0 := 9) (pc' := 30) rfl (hb hby d1_2_9) rfl (by decide) (by decide) (by decide) k) ?_
      show own_G p.tables e below s _ _ _ (s₁.setTop (mkF m 30 #[.val (.ref a1), .val (.ref a1), .val (.int (2 : Int32)), .val (.int (2 : Int32)), .val (.int c1)] []))
      refine own_go (fun t k => XS.iconst X0.here hx rfl (hb hby d1_2_30) k) ?_
      show own_G p.tables e below s _ _ _ (s₁.setTop (mkF m 31 #[.val (.ref a1), .val (.ref a1), .val (.int (2 : Int32)), .val (.int (2 : Int32)), .val (.int c1)] [(.int (1 : Int32))]))
      exact own_retN X0 hx hlk (t := .boolean) (z' := (1 : Int32)) Bd.returns (by simp) (hb hby d1_2_31) (rfl) (by rw [e0]; exact ⟨by rw [← hr, if_neg (fun q => q.elim hn0 hn1)], N0, rfl⟩) (by decide) (by decide)
theorem d1_3_0 : decode prog_92_method_13_code 0 = .ok (.aload_n 0, 1) := by decide +kernel
theorem d1_3_1 : decode prog_92_method_13_code 1 = .ok (.astore_n 1, 1) := by decide +kernel
theorem d1_3_2 : decode prog_92_method_13_code 2 = .ok (.aload_n 1, 1) := by decide +kernel
theorem d1_3_3 : decode prog_92_method_13_code 3 = .ok (.arraylength, 1) := by decide +kernel
theorem d1_3_4 : decode prog_92_method_13_code 4 = .ok (.istore_n 2, 1) := by decide +kernel
theorem d1_3_5 : decode prog_92_method_13_code 5 = .ok (.iconst 0, 1) := by decide +kernel
theorem d1_3_6 : decode prog_92_method_13_code 6 = .ok (.istore_n 3, 1) := by decide +kernel
theorem d1_3_7 : decode prog_92_method_13_code 7 = .ok (.iload_n 3, 1) := by decide +kernel
theorem d1_3_8 : decode prog_92_method_13_code 8 = .ok (.iload_n 2, 1) := by decide +kernel
theorem d1_3_9 : decode prog_92_method_13_code 9 = .ok (.if_icmp .ge 21, 3) := by decide +kernel
theorem d1_3_12 : decode prog_92_method_13_code 12 = .ok (.aload_n 1, 1) := by decide +kernel
theorem d1_3_13 : decode prog_92_method_13_code 13 = .ok (.iload_n 3, 1) := by decide +kernel
theorem d1_3_14 : decode prog_92_method_13_code 14 = .ok (.baload, 1) := by decide +kernel
theorem d1_3_15 : decode prog_92_method_13_code 15 = .ok (.istore 4, 2) := by decide +kernel
theorem d1_3_17 : decode prog_92_method_13_code 17 = .ok (.iload 4, 2) := by decide +kernel
theorem d1_3_19 : decode prog_92_method_13_code 19 = .ok (.ifCond .ge 5, 3) := by decide +kernel
theorem d1_3_22 : decode prog_92_method_13_code 22 = .ok (.iconst 0, 1) := by decide +kernel
theorem d1_3_23 : decode prog_92_method_13_code 23 = .ok (.ireturn, 1) := by decide +kernel
theorem d1_3_24 : decode prog_92_method_13_code 24 = .ok (.iinc 3 1, 3) := by decide +kernel
theorem d1_3_27 : decode prog_92_method_13_code 27 = .ok (.goto (-20), 3) := by decide +kernel
theorem d1_3_30 : decode prog_92_method_13_code 30 = .ok (.iconst 1, 1) := by decide +kernel
theorem d1_3_31 : decode prog_92_method_13_code 31 = .ok (.ireturn, 1) := by decide +kernel
theorem ef_1_3 (m : MethodId) (x0 : Addr) : entryFrame m #[(.ref x0)] 5 = mkF m 0 #[.val (.ref x0), .unset, .unset, .unset, .unset] [] := by first | (simp [entryFrame, mkF, argsToLocals, Value.category]; done) | rfl
def Q1_3 (Z : State) (a1 : Addr) (k1 : ClassId) (c0 c1 c2 r : Int32) (h0 : Heap) (n0 : Nat) (v : Option Value) (h : Heap) (L : List Loc) : Prop := v = some (.int r) ∧ Fr n0 L ∧ h = h0
set_option maxRecDepth 65536 in
set_option maxHeartbeats 40000000 in
theorem rm1_3 (l : Launch) (Z : State) (a0 : Array Value) (hw : ∀ d ∈ tables_1, d.before a0 Z = true) (ws : List Jvm.Cond) (a1 : Addr) (k1 : ClassId) (c0 c1 c2 r : Int32) (h0 : Heap) (n0 : Nat) (Z0 : n0 ≤ h0.size) (V1 : Arv Z h0 a1 k1 .byte (3 : Int32) [(.int c0), (.int c1), (.int c2)] (.int (0 : Int32))) (hr : (if c0 < (0 : Int32) ∨ c1 < (0 : Int32) ∨ c2 < (0 : Int32) then (0 : Int32) else 1) = r) :
    MetFree l (⟨"com/example/cartulary/cartulary/model/Syntax", "isAscii", "([B)Z"⟩ : MethodName) (head1 (Jvm.Cond.code (⟨"com/example/cartulary/cartulary/model/Syntax", "isAscii", "([B)Z"⟩ : MethodName) prog_92_method_13_code 5 (some .boolean) :: ws) ({ frames := 0, cells := 0, slots := 0, locals := 0 } : Room)) (fun a U => a = #[(.ref a1)] ∧ Z.Warmed39 U.vm ∧ U.heap = h0) (fun _ _ _ _ _ => True) (fun _ U o U' => ∃ v L, o = .returned v ∧ Q1_3 Z a1 k1 c0 c1 c2 r h0 n0 v U'.heap L ∧ FrameEnd U o U' L ({ frames := 0, cells := 0, slots := 0, locals := 0 } : Room).cells ({ frames := 0, cells := 0, slots := 0, locals := 0 } : Room).slots) := by
  refine MetFree.of_bodySF (plainFor_of_name pn_com_example_cartulary_cartulary_model_Syntax) hisR ?_
  intro p e s m args below meth c s₁ Bd hml0 hP hK
  obtain ⟨rfl, hZ, hh⟩ := hP
  have hx := Bd.exec
  have hby := Bd.bytes
  have hlk : meth.locks = false := BodyLoose.notSynchronized Bd
  have hml : c.maxLocals = 5 := hml0
  have hown : s.vm.findClass "com/example/cartulary/cartulary/model/Syntax" = some m.cls := findClass_of_methodNamed Bd.named
  have hnm := (name_of_methodNamed Bd.named Bd.method).1
  have X0 : Stand p l e ({ frames := 0, cells := 0, slots := 0, locals := 0 } : Room) s m #[(.ref a1)] below meth c s₁ [] 0 0 := Stand.of_body Bd
  have e0 : s₁.heap = h0 := by rw [← hh, Bd.state]; rfl
  have N0 := Fr.nil n0
  show own_G p.tables e below s (Q1_3 Z a1 k1 c0 c1 c2 r h0 n0) ({ frames := 0, cells := 0, slots := 0, locals := 0 } : Room).cells ({ frames := 0, cells := 0, slots := 0, locals := 0 } : Room).slots (s₁.setTop (entryFrame m #[(.ref a1)] 5))
  refine own_go (fun t k => castTop (ef_1_3 m a1) k) ?_
  show own_G p.tables e below s _ _ _ (s₁.setTop (mkF m 0 #[.val (.ref a1), .unset, .unset, .unset, .unset] []))
  refine own_go (fun t k => XS.aloadN X0.here hx rfl (hb hby d1_3_0) rfl rfl k) ?_
  show own_G p.tables e below s _ _ _ (s₁.setTop (mkF m 1 #[.val (.ref a1), .unset, .unset, .unset, .unset] [(.ref a1)]))
  refine own_go (fun t k => XS.astoreN X0.here hx rfl (hb hby d1_3_1) rfl rfl (l' := #[.val (.ref a1), .val (.ref a1), .unset, .unset, .unset]) rfl k) ?_
  show own_G p.tables e below s _ _ _ (s₁.setTop (mkF m 2 #[.val (.ref a1), .val (.ref a1), .unset, .unset, .unset] []))
  refine own_go (fun t k => XS.aloadN X0.here hx rfl (hb hby d1_3_2) rfl rfl k) ?_
  show own_G p.tables e below s _ _ _ (s₁.setTop (mkF m 3 #[.val (.ref a1), .val (.ref a1), .unset, .unset, .unset] [(.ref a1)]))
  obtain ⟨cl7, Ar7, q7, S7, NN7, HH7, GG7⟩ := id V1
  have hlen7 := len_of S7 NN7
  refine own_go (A := s₁.setTop (mkF m 4 #[.val (.ref a1), .val (.ref a1), .unset, .unset, .unset] [(.int (3 : Int32))])) (fun t k => X0.arraylength hx (by rw [e0]; exact Ar7.1) (State.isArrayOf_alike hZ.alike Ar7.2.1) (g := (mkF m 3 #[.val (.ref a1), .val (.ref a1), .unset, .unset, .unset] [(.ref a1)])) rfl rfl (hb hby d1_3_3) _ (by rw [hlen7]; exact k)) ?_
  show own_G p.tables e below s _ _ _ (s₁.setTop (mkF m 4 #[.val (.ref a1), .val (.ref a1), .unset, .unset, .unset] [(.int (3 : Int32))]))
  refine own_go (fun t k => XS.istoreN X0.here hx rfl (hb hby d1_3_4) rfl (l' := #[.val (.ref a1), .val (.ref a1), .val (.int (3 : Int32)), .unset, .unset]) rfl k) ?_
  show own_G p.tables e below s _ _ _ (s₁.setTop (mkF m 5 #[.val (.ref a1), .val (.ref a1), .val (.int (3 : Int32)), .unset, .unset] []))
  refine own_go (fun t k => XS.iconst X0.here hx rfl (hb hby d1_3_5) k) ?_
  show own_G p.tables e below s _ _ _ (s₁.setTop (mkF m 6 #[.val (.ref a1), .val (.ref a1), .val (.int (3 : Int32)), .unset, .unset] [(.int (0 : Int32))]))
  refine own_go (fun t k => XS.istoreN X0.here hx rfl (hb hby d1_3_6) rfl (l' := #[.val (.ref a1), .val (.ref a1), .val (.int (3 : Int32)), .val (.int (0 : Int32)), .unset]) rfl k) ?_
  show own_G p.tables e below s _ _ _ (s₁.setTop (mkF m 7 #[.val (.ref a1), .val (.ref a1), .val (.int (3 : Int32)), .val (.int (0 : Int32)), .unset] []))
  refine own_go (fun t k => XS.iloadN X0.here hx rfl (hb hby d1_3_7) rfl k) ?_
  show own_G p.tables e below s _ _ _ (s₁.setTop (mkF m 8 #[.val (.ref a1), .val (.ref a1), .val (.int (3 : Int32)), .val (.int (0 : Int32)), .unset] [(.int (0 : Int32))]))
  refine own_go (fun t k => XS.iloadN X0.here hx rfl (hb hby d1_3_8) rfl k) ?_
  show own_G p.tables e below s _ _ _ (s₁.setTop (mkF m 9 #[.val (.ref a1), .val (.ref a1), .val (.int (3 : Int32)), .val (.int (0 : Int32)), .unset] [(.int (3 : Int32)), (.int (0 : Int32))]))
  refine own_go (fun t k => XS.icmpNo X0.here hx rfl (hb hby d1_3_9) rfl (by decide) k) ?_
  show own_G p.tables e below s _ _ _ (s₁.setTop (mkF m 12 #[.val (.ref a1), .val (.ref a1), .val (.int (3 : Int32)), .val (.int (0 : Int32)), .unset] []))
  refine own_go (fun t k => XS.aloadN X0.here hx rfl (hb hby d1_3_12) rfl rfl k) ?_
  show own_G p.tables e below s _ _ _ (s₁.setTop (mkF m 13 #[.val (.ref a1), .val (.ref a1), .val (.int (3 : Int32)), .val (.int (0 : Int32)), .unset] [(.ref a1)]))
  refine own_go (fun t k => XS.iloadN X0.here hx rfl (hb hby d1_3_13) rfl k) ?_
  show own_G p.tables e below s _ _ _ (s₁.setTop (mkF m 14 #[.val (.ref a1), .val (.ref a1), .val (.int (3 : Int32)), .val (.int (0 : Int32)), .unset] [(.int (0 : Int32)), (.ref a1)]))
  obtain ⟨cl8, Ar8, q8, S8, NN8, HH8, GG8⟩ := id V1
  have hin8 : ¬ ((0 : Int32) < 0 ∨ cl8.slots.size ≤ ((0 : Int32)).toNatClampNeg) := inb_of S8 ⟨by decide, by decide⟩
  have hat8 : cl8.slots[((0 : Int32)).toNatClampNeg]? = some (.int c0) := Has.at HH8 hin8 rfl
  refine own_go (fun t k => X0.baloadBytes hx (j := (0 : Int32)) (v := (.int c0)) (by rw [e0]; exact Ar8.1) (State.isArrayOf_alike hZ.alike Ar8.2.1) Ar8.2.2 hin8 hat8 (g := (mkF m 14 #[.val (.ref a1), .val (.ref a1), .val (.int (3 : Int32)), .val (.int (0 : Int32)), .unset] [(.int (0 : Int32)), (.ref a1)])) rfl rfl (hb hby d1_3_14) _ k) ?_
  show own_G p.tables e below s _ _ _ (s₁.setTop (mkF m 15 #[.val (.ref a1), .val (.ref a1), .val (.int (3 : Int32)), .val (.int (0 : Int32)), .unset] [(.int c0)]))
  refine own_go (fun t k => XS.istore X0.here hx rfl (hb hby d1_3_15) rfl (l' := #[.val (.ref a1), .val (.ref a1), .val (.int (3 : Int32)), .val (.int (0 : Int32)), .val (.int c0)]) rfl k) ?_
  show own_G p.tables e below s _ _ _ (s₁.setTop (mkF m 17 #[.val (.ref a1), .val (.ref a1), .val (.int (3 : Int32)), .val (.int (0 : Int32)), .val (.int c0)] []))
  refine own_go (fun t k => XS.iload X0.here hx rfl (hb hby d1_3_17) rfl k) ?_
  show own_G p.tables e below s _ _ _ (s₁.setTop (mkF m 19 #[.val (.ref a1), .val (.ref a1), .val (.int (3 : Int32)), .val (.int (0 : Int32)), .val (.int c0)] [(.int c0)]))
  by_cases hn0 : c0 < (0 : Int32)
  · refine own_go (fun t k => XS.ifNo X0.here hx rfl (hb hby d1_3_19) rfl (Jvm.Free.XT.i0_ge_f hn0) k) ?_
    show own_G p.tables e below s _ _ _ (s₁.setTop (mkF m 22 #[.val (.ref a1), .val (.ref a1), .val (.int (3 : Int32)), .val (.int (0 : Int32)), .val (.int c0)] []))
    refine own_go (fun t k => XS.iconst X0.here hx rfl (hb hby d1_3_22) k) ?_
    show own_G p.tables e below s _ _ _ (s₁.setTop (mkF m 23 #[.val (.ref a1), .val (.ref a1), .val (.int (3 : Int32)), .val (.int (0 : Int32)), .val (.int c0)] [(.int (0 : Int32))]))
    exact own_retN X0 hx hlk (t := .boolean) (z' := (0 : Int32)) Bd.returns (by simp) (hb hby d1_3_23) (rfl) (by rw [e0]; exact ⟨by rw [← hr, if_pos (Or.inl hn0)], N0, rfl⟩) (by decide) (by decide)
  · refine own_go (fun t k => XS.ifYes X0.here hx rfl (pc0 := 19) (pc' := 24) rfl (hb hby d1_3_19) rfl (Jvm.Free.XT.i0_ge_t hn0) (by decide) (by decide) k) ?_
    show own_G p.tables e below s _ _ _ (s₁.setTop (mkF m 24 #[.val (.ref a1), .val (.ref a1), .val (.int (3 : Int32)), .val (.int (0 : Int32)), .val (.int c0)] []))
    refine own_go (fun t k => XS.iinc X0.here hx rfl (hb hby d1_3_24) rfl (l' := #[.val (.ref a1), .val (.ref a1), .val (.int (3 : Int32)), .val (.int (1 : Int32)), .val (.int c0)]) rfl k) ?_
    show own_G p.tables e below s _ _ _ (s₁.setTop (mkF m 27 #[.val (.ref a1), .val (.ref a1), .val (.int (3 : Int32)), .val (.int (1 : Int32)), .val (.int c0)] []))
    refine own_go (fun t k => XS.goto X0.here hx rfl (pc0 := 27) (pc' := 7) rfl (hb hby d1_3_27) (by decide) (by decide) k) ?_
    show own_G p.tables e below s _ _ _ (s₁.setTop (mkF m 7 #[.val (.ref a1), .val (.ref a1), .val (.int (3 : Int32)), .val (.int (1 : Int32)), .val (.int c0)] []))
    refine own_go (fun t k => XS.iloadN X0.here hx rfl (hb hby d1_3_7) rfl k) ?_
    show own_G p.tables e below s _ _ _ (s₁.setTop (mkF m 8 #[.val (.ref a1), .val (.ref a1), .val (.int (3 : Int32)), .val (.int (1 : Int32)), .val (.int c0)] [(.int (1 : Int32))]))
    refine own_go (fun t k => XS.iloadN X0.here hx rfl (hb hby d1_3_8) rfl k) ?_
    show own_G p.tables e below s _ _ _ (s₁.setTop (mkF m 9 #[.val (.ref a1), .val (.ref a1), .val (.int (3 : Int32)), .val (.int (1 : Int32)), .val (.int c0)] [(.int (3 : Int32)), (.int (1 : Int32))]))
    refine own_go (fun t k => XS.icmpNo X0.here hx rfl (hb hby d1_3_9) rfl (by decide) k) ?_
    show own_G p.tables e below s _ _ _ (s₁.setTop (mkF m 12 #[.val (.ref a1), .val (.ref a1), .val (.int (3 : Int32)), .val (.int (1 : Int32)), .val (.int c0)] []))
    refine own_go (fun t k => XS.aloadN X0.here hx rfl (hb hby d1_3_12) rfl rfl k) ?_
    show own_G p.tables e below s _ _ _ (s₁.setTop (mkF m 13 #[.val (.ref a1), .val (.ref a1), .val (.int (3 : Int32)), .val (.int (1 : Int32)), .val (.int c0)] [(.ref a1)]))
    refine own_go (fun t k => XS.iloadN X0.here hx rfl (hb hby d1_3_13) rfl k) ?_
    show own_G p.tables e below s _ _ _ (s₁.setTop (mkF m 14 #[.val (.ref a1), .val (.ref a1), .val (.int (3 : Int32)), .val (.int (1 : Int32)), .val (.int c0)] [(.int (1 : Int32)), (.ref a1)]))
    obtain ⟨cl9, Ar9, q9, S9, NN9, HH9, GG9⟩ := id V1
    have hin9 : ¬ ((1 : Int32) < 0 ∨ cl9.slots.size ≤ ((1 : Int32)).toNatClampNeg) := inb_of S9 ⟨by decide, by decide⟩
    have hat9 : cl9.slots[((1 : Int32)).toNatClampNeg]? = some (.int c1) := Has.at HH9 hin9 rfl
    refine own_go (fun t k => X0.baloadBytes hx (j := (1 : Int32)) (v := (.int c1)) (by rw [e0]; exact Ar9.1) (State.isArrayOf_alike hZ.alike Ar9.2.1) Ar9.2.2 hin9 hat9 (g := (mkF m 14 #[.val (.ref a1), .val (.ref a1), .val (.int (3 : Int32)), .val (.int (1 : Int32)), .val (.int c0)] [(.int (1 : Int32)), (.ref a1)])) rfl rfl (hb hby d1_3_14) _ k) ?_
    show own_G p.tables e below s _ _ _ (s₁.setTop (mkF m 15 #[.val (.ref a1), .val (.ref a1), .val (.int (3 : Int32)), .val (.int (1 : Int32)), .val (.int c0)] [(.int c1)]))
    refine own_go (fun t k => XS.istore X0.here hx rfl (hb hby d1_3_15) rfl (l' := #[.val (.ref a1), .val (.ref a1), .val (.int (3 : Int32)), .val (.int (1 : Int32)), .val (.int c1)]) rfl k) ?_
    show own_G p.tables e below s _ _ _ (s₁.setTop (mkF m 17 #[.val (.ref a1), .val (.ref a1), .val (.int (3 : Int32)), .val (.int (1 : Int32)), .val (.int c1)] []))
    refine own_go (fun t k => XS.iload X0.here hx rfl (hb hby d1_3_17) rfl k) ?_
    show own_G p.tables e below s _ _ _ (s₁.setTop (mkF m 19 #[.val (.ref a1), .val (.ref a1), .val (.int (3 : Int32)), .val (.int (1 : Int32)), .val (.int c1)] [(.int c1)]))
    by_cases hn1 : c1 < (0 : Int32)
    · refine own_go (fun t k => XS.ifNo X0.here hx rfl (hb hby d1_3_19) rfl (Jvm.Free.XT.i0_ge_f hn1) k) ?_
      show own_G p.tables e below s _ _ _ (s₁.setTop (mkF m 22 #[.val (.ref a1), .val (.ref a1), .val (.int (3 : Int32)), .val (.int (1 : Int32)), .val (.int c1)] []))
      refine own_go (fun t k => XS.iconst X0.here hx rfl (hb hby d1_3_22) k) ?_
      show own_G p.tables e below s _ _ _ (s₁.setTop (mkF m 23 #[.val (.ref a1), .val (.ref a1), .val (.int (3 : Int32)), .val (.int (1 : Int32)), .val (.int c1)] [(.int (0 : Int32))]))
      exact own_retN X0 hx hlk (t := .boolean) (z' := (0 : Int32)) Bd.returns (by simp) (hb hby d1_3_23) (rfl) (by rw [e0]; exact ⟨by rw [← hr, if_pos (Or.inr (Or.inl hn1))], N0, rfl⟩) (by decide) (by decide)
    · refine own_go (fun t k => XS.ifYes X0.here hx rfl (pc0 := 19) (pc' := 24) rfl (hb hby d1_3_19) rfl (Jvm.Free.XT.i0_ge_t hn1) (by decide) (by decide) k) ?_
      show own_G p.tables e below s _ _ _ (s₁.setTop (mkF m 24 #[.val (.ref a1), .val (.ref a1), .val (.int (3 : Int32)), .val (.int (1 : Int32)), .val (.int c1)] []))
      refine own_go (fun t k => XS.iinc X0.here hx rfl (hb hby d1_3_24) rfl (l' := #[.val (.ref a1), .val (.ref a1), .val (.int (3 : Int32)), .val (.int (2 : Int32)), .val (.int c1)]) rfl k) ?_
      show own_G p.tables e below s _ _ _ (s₁.setTop (mkF m 27 #[.val (.ref a1), .val (.ref a1), .val (.int (3 : Int32)), .val (.int (2 : Int32)), .val (.int c1)] []))
      refine own_go (fun t k => XS.goto X0.here hx rfl (pc0 := 27) (pc' := 7) rfl (hb hby d1_3_27) (by decide) (by decide) k) ?_
      show own_G p.tables e below s _ _ _ (s₁.setTop (mkF m 7 #[.val (.ref a1), .val (.ref a1), .val (.int (3 : Int32)), .val (.int (2 : Int32)), .val (.int c1)] []))
      refine own_go (fun t k => XS.iloadN X0.here hx rfl (hb hby d1_3_7) rfl k) ?_
      show own_G p.tables e below s _ _ _ (s₁.setTop (mkF m 8 #[.val (.ref a1), .val (.ref a1), .val (.int (3 : Int32)), .val (.int (2 : Int32)), .val (.int c1)] [(.int (2 : Int32))]))
      refine own_go (fun t k => XS.iloadN X0.here hx rfl (hb hby d1_3_8) rfl k) ?_
      show own_G p.tables e below s _ _ _ (s₁.setTop (mkF m 9 #[.val (.ref a1), .val (.ref a1), .val (.int (3 : Int32)), .val (.int (2 : Int32)), .val (.int c1)] [(.int (3 : Int32)), (.int (2 : Int32))]))
      refine own_go (fun t k => XS.icmpNo X0.here hx rfl (hb hby d1_3_9) rfl (by decide) k) ?_
      show own_G p.tables e below s _ _ _ (s₁.setTop (mkF m 12 #[.val (.ref a1), .val (.ref a1), .val (.int (3 : Int32)), .val (.int (2 : Int32)), .val (.int c1)] []))
      refine own_go (fun t k => XS.aloadN X0.here hx rfl (hb hby d1_3_12) rfl rfl k) ?_
      show own_G p.tables e below s _ _ _ (s₁.setTop (mkF m 13 #[.val (.ref a1), .val (.ref a1), .val (.int (3 : Int32)), .val (.int (2 : Int32)), .val (.int c1)] [(.ref a1)]))
      refine own_go (fun t k => XS.iloadN X0.here hx rfl (hb hby d1_3_13) rfl k) ?_
      show own_G p.tables e below s _ _ _ (s₁.setTop (mkF m 14 #[.val (.ref a1), .val (.ref a1), .val (.int (3 : Int32)), .val (.int (2 : Int32)), .val (.int c1)] [(.int (2 : Int32)), (.ref a1)]))
      obtain ⟨cl10, Ar10, q10, S10, NN10, HH10, GG10⟩ := id V1
      have hin10 : ¬ ((2 : Int32) < 0 ∨ cl10.slots.size ≤ ((2 : Int32)).toNatClampNeg) := inb_of S10 ⟨by decide, by decide⟩
      have hat10 : cl10.slots[((2 : Int32)).toNatClampNeg]? = some (.int c2) := Has.at HH10 hin10 rfl
      refine own_go (fun t k => X0.baloadBytes hx (j := (2 : Int32)) (v := (.int c2)) (by rw [e0]; exact Ar10.1) (State.isArrayOf_alike hZ.alike Ar10.2.1) Ar10.2.2 hin10 hat10 (g := (mkF m 14 #[.val (.ref a1), .val (.ref a1), .val (.int (3 : Int32)), .val (.int (2 : Int32)), .val (.int c1)] [(.int (2 : Int32)), (.ref a1)])) rfl rfl (hb hby d1_3_14) _ k) ?_
      show own_G p.tables e below s _ _ _ (s₁.setTop (mkF m 15 #[.val (.ref a1), .val (.ref a1), .val (.int (3 : Int32)), .val (.int (2 : Int32)), .val (.int c1)] [(.int c2)]))
      refine own_go (fun t k => XS.istore X0.here hx rfl (hb hby d1_3_15) rfl (l' := #[.val (.ref a1), .val (.ref a1), .val (.int (3 : Int32)), .val (.int (2 : Int32)), .val (.int c2)]) rfl k) ?_
      show own_G p.tables e below s _ _ _ (s₁.setTop (mkF m 17 #[.val (.ref a1), .val (.ref a1), .val (.int (3 : Int32)), .val (.int (2 : Int32)), .val (.int c2)] []))
      refine own_go (fun t k => XS.iload X0.here hx rfl (hb hby d1_3_17) rfl k) ?_
      show own_G p.tables e below s _ _ _ (s₁.setTop (mkF m 19 #[.val (.ref a1), .val (.ref a1), .val (.int (3 : Int32)), .val (.int (2 : Int32)), .val (.int c2)] [(.int c2)]))
      by_cases hn2 : c2 < (0 : Int32)
      · refine own_go (fun t k => XS.ifNo X0.here hx rfl (hb hby d1_3_19) rfl (Jvm.Free.XT.i0_ge_f hn2) k) ?_
        show own_G p.tables e below s _ _ _ (s₁.setTop (mkF m 22 #[.val (.ref a1), .val (.ref a1), .val (.int (3 : Int32)), .val (.int (2 : Int32)), .val (.int c2)] []))
        refine own_go (fun t k => XS.iconst X0.here hx rfl (hb hby d1_3_22) k) ?_
        show own_G p.tables e below s _ _ _ (s₁.setTop (mkF m 23 #[.val (.ref a1), .val (.ref a1), .val (.int (3 : Int32)), .val (.int (2 : Int32)), .val (.int c2)] [(.int (0 : Int32))]))
        exact own_retN X0 hx hlk (t := .boolean) (z' := (0 : Int32)) Bd.returns (by simp) (hb hby d1_3_23) (rfl) (by rw [e0]; exact ⟨by rw [← hr, if_pos (Or.inr (Or.inr (hn2)))], N0, rfl⟩) (by decide) (by decide)
      · refine own_go (fun t k => XS.ifYes X0.here hx rfl (pc0 := 19) (pc' := 24) rfl (hb hby d1_3_19) rfl (Jvm.Free.XT.i0_ge_t hn2) (by decide) (by decide) k) ?_
        show own_G p.tables e below s _ _ _ (s₁.setTop (mkF m 24 #[.val (.ref a1), .val (.ref a1), .val (.int (3 : Int32)), .val (.int (2 : Int32)), .val (.int c2)] []))
        refine own_go (fun t k => XS.iinc X0.here hx rfl (hb hby d1_3_24) rfl (l' := #[.val (.ref a1), .val (.ref a1), .val (.int (3 : Int32)), .val (.int (3 : Int32)), .val (.int c2)]) rfl k) ?_
        show own_G p.tables e below s _ _ _ (s₁.setTop (mkF m 27 #[.val (.ref a1), .val (.ref a1), .val (.int (3 : Int32)), .val (.int (3 : Int32)), .val (.int c2)] []))
        refine own_go (fun t k => XS.goto X0.here hx rfl (pc0 := 27) (pc' := 7) rfl (hb hby d1_3_27) (by decide) (by decide) k) ?_
        show own_G p.tables e below s _ _ _ (s₁.setTop (mkF m 7 #[.val (.ref a1), .val (.ref a1), .val (.int (3 : Int32)), .val (.int (3 : Int32)), .val (.int c2)] []))
        refine own_go (fun t k => XS.iloadN X0.here hx rfl (hb hby d1_3_7) rfl k) ?_
        show own_G p.tables e below s _ _ _ (s₁.setTop (mkF m 8 #[.val (.ref a1), .val (.ref a1), .val (.int (3 : Int32)), .val (.int (3 : Int32)), .val (.int c2)] [(.int (3 : Int32))]))
        refine own_go (fun t k => XS.iloadN X0.here hx rfl (hb hby d1_3_8) rfl k) ?_
        show own_G p.tables e below s _ _ _ (s₁.setTop (mkF m 9 #[.val (.ref a1), .val (.ref a1), .val (.int (3 : Int32)), .val (.int (3 : Int32)), .val (.int c2)] [(.int (3 : Int32)), (.int (3 : Int32))]))
        refine own_go (fun t k => XS.icmpYes X0.here hx rfl (pc0 := 9) (pc' := 30) rfl (hb hby d1_3_9) rfl (by decide) (by decide) (by decide) k) ?_
        show own_G p.tables e below s _ _ _ (s₁.setTop (mkF m 30 #[.val (.ref a1), .val (.ref a1), .val (.int (3 : Int32)), .val (.int (3 : Int32)), .val (.int c2)] []))
        refine own_go (fun t k => XS.iconst X0.here hx rfl (hb hby d1_3_30) k) ?_
        show own_G p.tables e below s _ _ _ (s₁.setTop (mkF m 31 #[.val (.ref a1), .val (.ref a1), .val (.int (3 : Int32)), .val (.int (3 : Int32)), .val (.int c2)] [(.int (1 : Int32))]))
        exact own_retN X0 hx hlk (t := .boolean) (z' := (1 : Int32)) Bd.returns (by simp) (hb hby d1_3_31) (rfl) (by rw [e0]; exact ⟨by rw [← hr, if_neg (fun q => q.elim hn0 (fun q => q.elim hn1 hn2))], N0, rfl⟩) (by decide) (by decide)
theorem d1_4_0 : decode prog_92_method_13_code 0 = .ok (.aload_n 0, 1) := by decide +kernel
theorem d1_4_1 : decode prog_92_method_13_code 1 = .ok (.astore_n 1, 1) := by decide +kernel
theorem d1_4_2 : decode prog_92_method_13_code 2 = .ok (.aload_n 1, 1) := by decide +kernel
theorem d1_4_3 : decode prog_92_method_13_code 3 = .ok (.arraylength, 1) := by decide +kernel
theorem d1_4_4 : decode prog_92_method_13_code 4 = .ok (.istore_n 2, 1) := by decide +kernel
theorem d1_4_5 : decode prog_92_method_13_code 5 = .ok (.iconst 0, 1) := by decide +kernel
theorem d1_4_6 : decode prog_92_method_13_code 6 = .ok (.istore_n 3, 1) := by decide +kernel
theorem d1_4_7 : decode prog_92_method_13_code 7 = .ok (.iload_n 3, 1) := by decide +kernel
theorem d1_4_8 : decode prog_92_method_13_code 8 = .ok (.iload_n 2, 1) := by decide +kernel
theorem d1_4_9 : decode prog_92_method_13_code 9 = .ok (.if_icmp .ge 21, 3) := by decide +kernel
theorem d1_4_12 : decode prog_92_method_13_code 12 = .ok (.aload_n 1, 1) := by decide +kernel
theorem d1_4_13 : decode prog_92_method_13_code 13 = .ok (.iload_n 3, 1) := by decide +kernel
theorem d1_4_14 : decode prog_92_method_13_code 14 = .ok (.baload, 1) := by decide +kernel
theorem d1_4_15 : decode prog_92_method_13_code 15 = .ok (.istore 4, 2) := by decide +kernel
theorem d1_4_17 : decode prog_92_method_13_code 17 = .ok (.iload 4, 2) := by decide +kernel
theorem d1_4_19 : decode prog_92_method_13_code 19 = .ok (.ifCond .ge 5, 3) := by decide +kernel
theorem d1_4_22 : decode prog_92_method_13_code 22 = .ok (.iconst 0, 1) := by decide +kernel
theorem d1_4_23 : decode prog_92_method_13_code 23 = .ok (.ireturn, 1) := by decide +kernel
theorem d1_4_24 : decode prog_92_method_13_code 24 = .ok (.iinc 3 1, 3) := by decide +kernel
theorem d1_4_27 : decode prog_92_method_13_code 27 = .ok (.goto (-20), 3) := by decide +kernel
theorem d1_4_30 : decode prog_92_method_13_code 30 = .ok (.iconst 1, 1) := by decide +kernel
theorem d1_4_31 : decode prog_92_method_13_code 31 = .ok (.ireturn, 1) := by decide +kernel
theorem ef_1_4 (m : MethodId) (x0 : Addr) : entryFrame m #[(.ref x0)] 5 = mkF m 0 #[.val (.ref x0), .unset, .unset, .unset, .unset] [] := by first | (simp [entryFrame, mkF, argsToLocals, Value.category]; done) | rfl
def Q1_4 (Z : State) (a1 : Addr) (k1 : ClassId) (c0 c1 c2 c3 r : Int32) (h0 : Heap) (n0 : Nat) (v : Option Value) (h : Heap) (L : List Loc) : Prop := v = some (.int r) ∧ Fr n0 L ∧ h = h0
set_option maxRecDepth 65536 in
set_option maxHeartbeats 40000000 in
theorem rm1_4 (l : Launch) (Z : State) (a0 : Array Value) (hw : ∀ d ∈ tables_1, d.before a0 Z = true) (ws : List Jvm.Cond) (a1 : Addr) (k1 : ClassId) (c0 c1 c2 c3 r : Int32) (h0 : Heap) (n0 : Nat) (Z0 : n0 ≤ h0.size) (V1 : Arv Z h0 a1 k1 .byte (4 : Int32) [(.int c0), (.int c1), (.int c2), (.int c3)] (.int (0 : Int32))) (hr : (if c0 < (0 : Int32) ∨ c1 < (0 : Int32) ∨ c2 < (0 : Int32) ∨ c3 < (0 : Int32) then (0 : Int32) else 1) = r) :
    MetFree l (⟨"com/example/cartulary/cartulary/model/Syntax", "isAscii", "([B)Z"⟩ : MethodName) (head1 (Jvm.Cond.code (⟨"com/example/cartulary/cartulary/model/Syntax", "isAscii", "([B)Z"⟩ : MethodName) prog_92_method_13_code 5 (some .boolean) :: ws) ({ frames := 0, cells := 0, slots := 0, locals := 0 } : Room)) (fun a U => a = #[(.ref a1)] ∧ Z.Warmed39 U.vm ∧ U.heap = h0) (fun _ _ _ _ _ => True) (fun _ U o U' => ∃ v L, o = .returned v ∧ Q1_4 Z a1 k1 c0 c1 c2 c3 r h0 n0 v U'.heap L ∧ FrameEnd U o U' L ({ frames := 0, cells := 0, slots := 0, locals := 0 } : Room).cells ({ frames := 0, cells := 0, slots := 0, locals := 0 } : Room).slots) := by
  refine MetFree.of_bodySF (plainFor_of_name pn_com_example_cartulary_cartulary_model_Syntax) hisR ?_
  intro p e s m args below meth c s₁ Bd hml0 hP hK
  obtain ⟨rfl, hZ, hh⟩ := hP
  have hx := Bd.exec
  have hby := Bd.bytes
  have hlk : meth.locks = false := BodyLoose.notSynchronized Bd
  have hml : c.maxLocals = 5 := hml0
  have hown : s.vm.findClass "com/example/cartulary/cartulary/model/Syntax" = some m.cls := findClass_of_methodNamed Bd.named
  have hnm := (name_of_methodNamed Bd.named Bd.method).1
  have X0 : Stand p l e ({ frames := 0, cells := 0, slots := 0, locals := 0 } : Room) s m #[(.ref a1)] below meth c s₁ [] 0 0 := Stand.of_body Bd
  have e0 : s₁.heap = h0 := by rw [← hh, Bd.state]; rfl
  have N0 := Fr.nil n0
  show own_G p.tables e below s (Q1_4 Z a1 k1 c0 c1 c2 c3 r h0 n0) ({ frames := 0, cells := 0, slots := 0, locals := 0 } : Room).cells ({ frames := 0, cells := 0, slots := 0, locals := 0 } : Room).slots (s₁.setTop (entryFrame m #[(.ref a1)] 5))
  refine own_go (fun t k => castTop (ef_1_4 m a1) k) ?_
  show own_G p.tables e below s _ _ _ (s₁.setTop (mkF m 0 #[.val (.ref a1), .unset, .unset, .unset, .unset] []))
  refine own_go (fun t k => XS.aloadN X0.here hx rfl (hb hby d1_4_0) rfl rfl k) ?_
  show own_G p.tables e below s _ _ _ (s₁.setTop (mkF m 1 #[.val (.ref a1), .unset, .unset, .unset, .unset] [(.ref a1)]))
  refine own_go (fun t k => XS.astoreN X0.here hx rfl (hb hby d1_4_1) rfl rfl (l' := #[.val (.ref a1), .val (.ref a1), .unset, .unset, .unset]) rfl k) ?_
  show own_G p.tables e below s _ _ _ (s₁.setTop (mkF m 2 #[.val (.ref a1), .val (.ref a1), .unset, .unset, .unset] []))
  refine own_go (fun t k => XS.aloadN X0.here hx rfl (hb hby d1_4_2) rfl rfl k) ?_
  show own_G p.tables e below s _ _ _ (s₁.setTop (mkF m 3 #[.val (.ref a1), .val (.ref a1), .unset, .unset, .unset] [(.ref a1)]))
  obtain ⟨cl11, Ar11, q11, S11, NN11, HH11, GG11⟩ := id V1
  have hlen11 := len_of S11 NN11
  refine own_go (A := s₁.setTop (mkF m 4 #[.val (.ref a1), .val (.ref a1), .unset, .unset, .unset] [(.int (4 : Int32))])) (fun t k => X0.arraylength hx (by rw [e0]; exact Ar11.1) (State.isArrayOf_alike hZ.alike Ar11.2.1) (g := (mkF m 3 #[.val (.ref a1), .val (.ref a1), .unset, .unset, .unset] [(.ref a1)])) rfl rfl (hb hby d1_4_3) _ (by rw [hlen11]; exact k)) ?_
  show own_G p.tables e below s _ _ _ (s₁.setTop (mkF m 4 #[.val (.ref a1), .val (.ref a1), .unset, .unset, .unset] [(.int (4 : Int32))]))
  refine own_go (fun t k => XS.istoreN X0.here hx rfl (hb hby d1_4_4) rfl (l' := #[.val (.ref a1), .val (.ref a1), .val (.int (4 : Int32)), .unset, .unset]) rfl k) ?_
  show own_G p.tables e below s _ _ _ (s₁.setTop (mkF m 5 #[.val (.ref a1), .val (.ref a1), .val (.int (4 : Int32)), .unset, .unset] []))
  refine own_go (fun t k => XS.iconst X0.here hx rfl (hb hby d1_4_5) k) ?_
  show own_G p.tables e below s _ _ _ (s₁.setTop (mkF m 6 #[.val (.ref a1), .val (.ref a1), .val (.int (4 : Int32)), .unset, .unset] [(.int (0 : Int32))]))
  refine own_go (fun t k => XS.istoreN X0.here hx rfl (hb hby d1_4_6) rfl (l' := #[.val (.ref a1), .val (.ref a1), .val (.int (4 : Int32)), .val (.int (0 : Int32)), .unset]) rfl k) ?_
  show own_G p.tables e below s _ _ _ (s₁.setTop (mkF m 7 #[.val (.ref a1), .val (.ref a1), .val (.int (4 : Int32)), .val (.int (0 : Int32)), .unset] []))
  refine own_go (fun t k => XS.iloadN X0.here hx rfl (hb hby d1_4_7) rfl k) ?_
  show own_G p.tables e below s _ _ _ (s₁.setTop (mkF m 8 #[.val (.ref a1), .val (.ref a1), .val (.int (4 : Int32)), .val (.int (0 : Int32)), .unset] [(.int (0 : Int32))]))
  refine own_go (fun t k => XS.iloadN X0.here hx rfl (hb hby d1_4_8) rfl k) ?_
  show own_G p.tables e below s _ _ _ (s₁.setTop (mkF m 9 #[.val (.ref a1), .val (.ref a1), .val (.int (4 : Int32)), .val (.int (0 : Int32)), .unset] [(.int (4 : Int32)), (.int (0 : Int32))]))
  refine own_go (fun t k => XS.icmpNo X0.here hx rfl (hb hby d1_4_9) rfl (by decide) k) ?_
  show own_G p.tables e below s _ _ _ (s₁.setTop (mkF m 12 #[.val (.ref a1), .val (.ref a1), .val (.int (4 : Int32)), .val (.int (0 : Int32)), .unset] []))
  refine own_go (fun t k => XS.aloadN X0.here hx rfl (hb hby d1_4_12) rfl rfl k) ?_
  show own_G p.tables e below s _ _ _ (s₁.setTop (mkF m 13 #[.val (.ref a1), .val (.ref a1), .val (.int (4 : Int32)), .val (.int (0 : Int32)), .unset] [(.ref a1)]))
  refine own_go (fun t k => XS.iloadN X0.here hx rfl (hb hby d1_4_13) rfl k) ?_
  show own_G p.tables e below s _ _ _ (s₁.setTop (mkF m 14 #[.val (.ref a1), .val (.ref a1), .val (.int (4 : Int32)), .val (.int (0 : Int32)), .unset] [(.int (0 : Int32)), (.ref a1)]))
  obtain ⟨cl12, Ar12, q12, S12, NN12, HH12, GG12⟩ := id V1
  have hin12 : ¬ ((0 : Int32) < 0 ∨ cl12.slots.size ≤ ((0 : Int32)).toNatClampNeg) := inb_of S12 ⟨by decide, by decide⟩
  have hat12 : cl12.slots[((0 : Int32)).toNatClampNeg]? = some (.int c0) := Has.at HH12 hin12 rfl
  refine own_go (fun t k => X0.baloadBytes hx (j := (0 : Int32)) (v := (.int c0)) (by rw [e0]; exact Ar12.1) (State.isArrayOf_alike hZ.alike Ar12.2.1) Ar12.2.2 hin12 hat12 (g := (mkF m 14 #[.val (.ref a1), .val (.ref a1), .val (.int (4 : Int32)), .val (.int (0 : Int32)), .unset] [(.int (0 : Int32)), (.ref a1)])) rfl rfl (hb hby d1_4_14) _ k) ?_
  show own_G p.tables e below s _ _ _ (s₁.setTop (mkF m 15 #[.val (.ref a1), .val (.ref a1), .val (.int (4 : Int32)), .val (.int (0 : Int32)), .unset] [(.int c0)]))
  refine own_go (fun t k => XS.istore X0.here hx rfl (hb hby d1_4_15) rfl (l' := #[.val (.ref a1), .val (.ref a1), .val (.int (4 : Int32)), .val (.int (0 : Int32)), .val (.int c0)]) rfl k) ?_
  show own_G p.tables e below s _ _ _ (s₁.setTop (mkF m 17 #[.val (.ref a1), .val (.ref a1), .val (.int (4 : Int32)), .val (.int (0 : Int32)), .val (.int c0)] []))
  refine own_go (fun t k => XS.iload X0.here hx rfl (hb hby d1_4_17) rfl k) ?_
  show own_G p.tables e below s _ _ _ (s₁.setTop (mkF m 19 #[.val (.ref a1), .val (.ref a1), .val (.int (4 : Int32)), .val (.int (0 : Int32)), .val (.int c0)] [(.int c0)]))
  by_cases hn0 : c0 < (0 : Int32)
  · refine own_go (fun t k => XS.ifNo X0.here hx rfl (hb hby d1_4_19) rfl (Jvm.Free.XT.i0_ge_f hn0) k) ?_
    show own_G p.tables e below s _ _ _ (s₁.setTop (mkF m 22 #[.val (.ref a1), .val (.ref a1), .val (.int (4 : Int32)), .val (.int (0 : Int32)), .val (.int c0)] []))
    refine own_go (fun t k => XS.iconst X0.here hx rfl (hb hby d1_4_22) k) ?_
    show own_G p.tables e below s _ _ _ (s₁.setTop (mkF m 23 #[.val (.ref a1), .val (.ref a1), .val (.int (4 : Int32)), .val (.int (0 : Int32)), .val (.int c0)] [(.int (0 : Int32))]))
    exact own_retN X0 hx hlk (t := .boolean) (z' := (0 : Int32)) Bd.returns (by simp) (hb hby d1_4_23) (rfl) (by rw [e0]; exact ⟨by rw [← hr, if_pos (Or.inl hn0)], N0, rfl⟩) (by decide) (by decide)
  · refine own_go (fun t k => XS.ifYes X0.here hx rfl (pc0 := 19) (pc' := 24) rfl (hb hby d1_4_19) rfl (Jvm.Free.XT.i0_ge_t hn0) (by decide) (by decide) k) ?_
    show own_G p.tables e below s _ _ _ (s₁.setTop (mkF m 24 #[.val (.ref a1), .val (.ref a1), .val (.int (4 : Int32)), .val (.int (0 : Int32)), .val (.int c0)] []))
    refine own_go (fun t k => XS.iinc X0.here hx rfl (hb hby d1_4_24) rfl (l' := #[.val (.ref a1), .val (.ref a1), .val (.int (4 : Int32)), .val (.int (1 : Int32)), .val (.int c0)]) rfl k) ?_
    show own_G p.tables e below s _ _ _ (s₁.setTop (mkF m 27 #[.val (.ref a1), .val (.ref a1), .val (.int (4 : Int32)), .val (.int (1 : Int32)), .val (.int c0)] []))
    refine own_go (fun t k => XS.goto X0.here hx rfl (pc0 := 27) (pc' := 7) rfl (hb hby d1_4_27) (by decide) (by decide) k) ?_
    show own_G p.tables e below s _ _ _ (s₁.setTop (mkF m 7 #[.val (.ref a1), .val (.ref a1), .val (.int (4 : Int32)), .val (.int (1 : Int32)), .val (.int c0)] []))
    refine own_go (fun t k => XS.iloadN X0.here hx rfl (hb hby d1_4_7) rfl k) ?_
    show own_G p.tables e below s _ _ _ (s₁.setTop (mkF m 8 #[.val (.ref a1), .val (.ref a1), .val (.int (4 : Int32)), .val (.int (1 : Int32)), .val (.int c0)] [(.int (1 : Int32))]))
    refine own_go (fun t k => XS.iloadN X0.here hx rfl (hb hby d1_4_8) rfl k) ?_
    show own_G p.tables e below s _ _ _ (s₁.setTop (mkF m 9 #[.val (.ref a1), .val (.ref a1), .val (.int (4 : Int32)), .val (.int (1 : Int32)), .val (.int c0)] [(.int (4 : Int32)), (.int (1 : Int32))]))
    refine own_go (fun t k => XS.icmpNo X0.here hx rfl (hb hby d1_4_9) rfl (by decide) k) ?_
    show own_G p.tables e below s _ _ _ (s₁.setTop (mkF m 12 #[.val (.ref a1), .val (.ref a1), .val (.int (4 : Int32)), .val (.int (1 : Int32)), .val (.int c0)] []))
    refine own_go (fun t k => XS.aloadN X0.here hx rfl (hb hby d1_4_12) rfl rfl k) ?_
    show own_G p.tables e below s _ _ _ (s₁.setTop (mkF m 13 #[.val (.ref a1), .val (.ref a1), .val (.int (4 : Int32)), .val (.int (1 : Int32)), .val (.int c0)] [(.ref a1)]))
    refine own_go (fun t k => XS.iloadN X0.here hx rfl (hb hby d1_4_13) rfl k) ?_
    show own_G p.tables e below s _ _ _ (s₁.setTop (mkF m 14 #[.val (.ref a1), .val (.ref a1), .val (.int (4 : Int32)), .val (.int (1 : Int32)), .val (.int c0)] [(.int (1 : Int32)), (.ref a1)]))
    obtain ⟨cl13, Ar13, q13, S13, NN13, HH13, GG13⟩ := id V1
    have hin13 : ¬ ((1 : Int32) < 0 ∨ cl13.slots.size ≤ ((1 : Int32)).toNatClampNeg) := inb_of S13 ⟨by decide, by decide⟩
    have hat13 : cl13.slots[((1 : Int32)).toNatClampNeg]? = some (.int c1) := Has.at HH13 hin13 rfl
    refine own_go (fun t k => X0.baloadBytes hx (j := (1 : Int32)) (v := (.int c1)) (by rw [e0]; exact Ar13.1) (State.isArrayOf_alike hZ.alike Ar13.2.1) Ar13.2.2 hin13 hat13 (g := (mkF m 14 #[.val (.ref a1), .val (.ref a1), .val (.int (4 : Int32)), .val (.int (1 : Int32)), .val (.int c0)] [(.int (1 : Int32)), (.ref a1)])) rfl rfl (hb hby d1_4_14) _ k) ?_
    show own_G p.tables e below s _ _ _ (s₁.setTop (mkF m 15 #[.val (.ref a1), .val (.ref a1), .val (.int (4 : Int32)), .val (.int (1 : Int32)), .val (.int c0)] [(.int c1)]))
    refine own_go (fun t k => XS.istore X0.here hx rfl (hb hby d1_4_15) rfl (l' := #[.val (.ref a1), .val (.ref a1), .val (.int (4 : Int32)), .val (.int (1 : Int32)), .val (.int c1)]) rfl k) ?_
    show own_G p.tables e below s _ _ _ (s₁.setTop (mkF m 17 #[.val (.ref a1), .val (.ref a1), .val (.int (4 : Int32)), .val (.int (1 : Int32)), .val (.int c1)] []))
    refine own_go (fun t k => XS.iload X0.here hx rfl (hb hby d1_4_17) rfl k) ?_
    show own_G p.tables e below s _ _ _ (s₁.setTop (mkF m 19 #[.val (.ref a1), .val (.ref a1), .val (.int (4 : Int32)), .val (.int (1 : Int32)), .val (.int c1)] [(.int c1)]))
    by_cases hn1 : c1 < (0 : Int32)
    · refine own_go (fun t k => XS.ifNo X0.here hx rfl (hb hby d1_4_19) rfl (Jvm.Free.XT.i0_ge_f hn1) k) ?_
      show own_G p.tables e below s _ _ _ (s₁.setTop (mkF m 22 #[.val (.ref a1), .val (.ref a1), .val (.int (4 : Int32)), .val (.int (1 : Int32)), .val (.int c1)] []))
      refine own_go (fun t k => XS.iconst X0.here hx rfl (hb hby d1_4_22) k) ?_
      show own_G p.tables e below s _ _ _ (s₁.setTop (mkF m 23 #[.val (.ref a1), .val (.ref a1), .val (.int (4 : Int32)), .val (.int (1 : Int32)), .val (.int c1)] [(.int (0 : Int32))]))
      exact own_retN X0 hx hlk (t := .boolean) (z' := (0 : Int32)) Bd.returns (by simp) (hb hby d1_4_23) (rfl) (by rw [e0]; exact ⟨by rw [← hr, if_pos (Or.inr (Or.inl hn1))], N0, rfl⟩) (by decide) (by decide)
    · refine own_go (fun t k => XS.ifYes X0.here hx rfl (pc0 := 19) (pc' := 24) rfl (hb hby d1_4_19) rfl (Jvm.Free.XT.i0_ge_t hn1) (by decide) (by decide) k) ?_
      show own_G p.tables e below s _ _ _ (s₁.setTop (mkF m 24 #[.val (.ref a1), .val (.ref a1), .val (.int (4 : Int32)), .val (.int (1 : Int32)), .val (.int c1)] []))
      refine own_go (fun t k => XS.iinc X0.here hx rfl (hb hby d1_4_24) rfl (l' := #[.val (.ref a1), .val (.ref a1), .val (.int (4 : Int32)), .val (.int (2 : Int32)), .val (.int c1)]) rfl k) ?_
      show own_G p.tables e below s _ _ _ (s₁.setTop (mkF m 27 #[.val (.ref a1), .val (.ref a1), .val (.int (4 : Int32)), .val (.int (2 : Int32)), .val (.int c1)] []))
      refine own_go (fun t k => XS.goto X0.here hx rfl (pc0 := 27) (pc' := 7) rfl (hb hby d1_4_27) (by decide) (by decide) k) ?_
      show own_G p.tables e below s _ _ _ (s₁.setTop (mkF m 7 #[.val (.ref a1), .val (.ref a1), .val (.int (4 : Int32)), .val (.int (2 : Int32)), .val (.int c1)] []))
      refine own_go (fun t k => XS.iloadN X0.here hx rfl (hb hby d1_4_7) rfl k) ?_
      show own_G p.tables e below s _ _ _ (s₁.setTop (mkF m 8 #[.val (.ref a1), .val (.ref a1), .val (.int (4 : Int32)), .val (.int (2 : Int32)), .val (.int c1)] [(.int (2 : Int32))]))
      refine own_go (fun t k => XS.iloadN X0.here hx rfl (hb hby d1_4_8) rfl k) ?_
      show own_G p.tables e below s _ _ _ (s₁.setTop (mkF m 9 #[.val (.ref a1), .val (.ref a1), .val (.int (4 : Int32)), .val (.int (2 : Int32)), .val (.int c1)] [(.int (4 : Int32)), (.int (2 : Int32))]))
      refine own_go (fun t k => XS.icmpNo X0.here hx rfl (hb hby d1_4_9) rfl (by decide) k) ?_
      show own_G p.tables e below s _ _ _ (s₁.setTop (mkF m 12 #[.val (.ref a1), .val (.ref a1), .val (.int (4 : Int32)), .val (.int (2 : Int32)), .val (.int c1)] []))
      refine own_go (fun t k => XS.aloadN X0.here hx rfl (hb hby d1_4_12) rfl rfl k) ?_
      show own_G p.tables e below s _ _ _ (s₁.setTop (mkF m 13 #[.val (.ref a1), .val (.ref a1), .val (.int (4 : Int32)), .val (.int (2 : Int32)), .val (.int c1)] [(.ref a1)]))
      refine own_go (fun t k => XS.iloadN X0.here hx rfl (hb hby d1_4_13) rfl k) ?_
      show own_G p.tables e below s _ _ _ (s₁.setTop (mkF m 14 #[.val (.ref a1), .val (.ref a1), .val (.int (4 : Int32)), .val (.int (2 : Int32)), .val (.int c1)] [(.int (2 : Int32)), (.ref a1)]))
      obtain ⟨cl14, Ar14, q14, S14, NN14, HH14, GG14⟩ := id V1
      have hin14 : ¬ ((2 : Int32) < 0 ∨ cl14.slots.size ≤ ((2 : Int32)).toNatClampNeg) := inb_of S14 ⟨by decide, by decide⟩
      have hat14 : cl14.slots[((2 : Int32)).toNatClampNeg]? = some (.int c2) := Has.at HH14 hin14 rfl
      refine own_go (fun t k => X0.baloadBytes hx (j := (2 : Int32)) (v := (.int c2)) (by rw [e0]; exact Ar14.1) (State.isArrayOf_alike hZ.alike Ar14.2.1) Ar14.2.2 hin14 hat14 (g := (mkF m 14 #[.val (.ref a1), .val (.ref a1), .val (.int (4 : Int32)), .val (.int (2 : Int32)), .val (.int c1)] [(.int (2 : Int32)), (.ref a1)])) rfl rfl (hb hby d1_4_14) _ k) ?_
      show own_G p.tables e below s _ _ _ (s₁.setTop (mkF m 15 #[.val (.ref a1), .val (.ref a1), .val (.int (4 : Int32)), .val (.int (2 : Int32)), .val (.int c1)] [(.int c2)]))
      refine own_go (fun t k => XS.istore X0.here hx rfl (hb hby d1_4_15) rfl (l' := #[.val (.ref a1), .val (.ref a1), .val (.int (4 : Int32)), .val (.int (2 : Int32)), .val (.int c2)]) rfl k) ?_
      show own_G p.tables e below s _ _ _ (s₁.setTop (mkF m 17 #[.val (.ref a1), .val (.ref a1), .val (.int (4 : Int32)), .val (.int (2 : Int32)), .val (.int c2)] []))
      refine own_go (fun t k => XS.iload X0.here hx rfl (hb hby d1_4_17) rfl k) ?_
      show own_G p.tables e below s _ _ _ (s₁.setTop (mkF m 19 #[.val (.ref a1), .val (.ref a1), .val (.int (4 : Int32)), .val (.int (2 : Int32)), .val (.int c2)] [(.int c2)]))
      by_cases hn2 : c2 < (0 : Int32)
      · refine own_go (fun t k => XS.ifNo X0.here hx rfl (hb hby d1_4_19) rfl (Jvm.Free.XT.i0_ge_f hn2) k) ?_
        show own_G p.tables e below s _ _ _ (s₁.setTop (mkF m 22 #[.val (.ref a1), .val (.ref a1), .val (.int (4 : Int32)), .val (.int (2 : Int32)), .val (.int c2)] []))
        refine own_go (fun t k => XS.iconst X0.here hx rfl (hb hby d1_4_22) k) ?_
        show own_G p.tables e below s _ _ _ (s₁.setTop (mkF m 23 #[.val (.ref a1), .val (.ref a1), .val (.int (4 : Int32)), .val (.int (2 : Int32)), .val (.int c2)] [(.int (0 : Int32))]))
        exact own_retN X0 hx hlk (t := .boolean) (z' := (0 : Int32)) Bd.returns (by simp) (hb hby d1_4_23) (rfl) (by rw [e0]; exact ⟨by rw [← hr, if_pos (Or.inr (Or.inr (Or.inl hn2)))], N0, rfl⟩) (by decide) (by decide)
      · refine own_go (fun t k => XS.ifYes X0.here hx rfl (pc0 := 19) (pc' := 24) rfl (hb hby d1_4_19) rfl (Jvm.Free.XT.i0_ge_t hn2) (by decide) (by decide) k) ?_
        show own_G p.tables e below s _ _ _ (s₁.setTop (mkF m 24 #[.val (.ref a1), .val (.ref a1), .val (.int (4 : Int32)), .val (.int (2 : Int32)), .val (.int c2)] []))
        refine own_go (fun t k => XS.iinc X0.here hx rfl (hb hby d1_4_24) rfl (l' := #[.val (.ref a1), .val (.ref a1), .val (.int (4 : Int32)), .val (.int (3 : Int32)), .val (.int c2)]) rfl k) ?_
        show own_G p.tables e below s _ _ _ (s₁.setTop (mkF m 27 #[.val (.ref a1), .val (.ref a1), .val (.int (4 : Int32)), .val (.int (3 : Int32)), .val (.int c2)] []))
        refine own_go (fun t k => XS.goto X0.here hx rfl (pc0 := 27) (pc' := 7) rfl (hb hby d1_4_27) (by decide) (by decide) k) ?_
        show own_G p.tables e below s _ _ _ (s₁.setTop (mkF m 7 #[.val (.ref a1), .val (.ref a1), .val (.int (4 : Int32)), .val (.int (3 : Int32)), .val (.int c2)] []))
        refine own_go (fun t k => XS.iloadN X0.here hx rfl (hb hby d1_4_7) rfl k) ?_
        show own_G p.tables e below s _ _ _ (s₁.setTop (mkF m 8 #[.val (.ref a1), .val (.ref a1), .val (.int (4 : Int32)), .val (.int (3 : Int32)), .val (.int c2)] [(.int (3 : Int32))]))
        refine own_go (fun t k => XS.iloadN X0.here hx rfl (hb hby d1_4_8) rfl k) ?_
        show own_G p.tables e below s _ _ _ (s₁.setTop (mkF m 9 #[.val (.ref a1), .val (.ref a1), .val (.int (4 : Int32)), .val (.int (3 : Int32)), .val (.int c2)] [(.int (4 : Int32)), (.int (3 : Int32))]))
        refine own_go (fun t k => XS.icmpNo X0.here hx rfl (hb hby d1_4_9) rfl (by decide) k) ?_
        show own_G p.tables e below s _ _ _ (s₁.setTop (mkF m 12 #[.val (.ref a1), .val (.ref a1), .val (.int (4 : Int32)), .val (.int (3 : Int32)), .val (.int c2)] []))
        refine own_go (fun t k => XS.aloadN X0.here hx rfl (hb hby d1_4_12) rfl rfl k) ?_
        show own_G p.tables e below s _ _ _ (s₁.setTop (mkF m 13 #[.val (.ref a1), .val (.ref a1), .val (.int (4 : Int32)), .val (.int (3 : Int32)), .val (.int c2)] [(.ref a1)]))
        refine own_go (fun t k => XS.iloadN X0.here hx rfl (hb hby d1_4_13) rfl k) ?_
        show own_G p.tables e below s _ _ _ (s₁.setTop (mkF m 14 #[.val (.ref a1), .val (.ref a1), .val (.int (4 : Int32)), .val (.int (3 : Int32)), .val (.int c2)] [(.int (3 : Int32)), (.ref a1)]))
        obtain ⟨cl15, Ar15, q15, S15, NN15, HH15, GG15⟩ := id V1
        have hin15 : ¬ ((3 : Int32) < 0 ∨ cl15.slots.size ≤ ((3 : Int32)).toNatClampNeg) := inb_of S15 ⟨by decide, by decide⟩
        have hat15 : cl15.slots[((3 : Int32)).toNatClampNeg]? = some (.int c3) := Has.at HH15 hin15 rfl
        refine own_go (fun t k => X0.baloadBytes hx (j := (3 : Int32)) (v := (.int c3)) (by rw [e0]; exact Ar15.1) (State.isArrayOf_alike hZ.alike Ar15.2.1) Ar15.2.2 hin15 hat15 (g := (mkF m 14 #[.val (.ref a1), .val (.ref a1), .val (.int (4 : Int32)), .val (.int (3 : Int32)), .val (.int c2)] [(.int (3 : Int32)), (.ref a1)])) rfl rfl (hb hby d1_4_14) _ k) ?_
        show own_G p.tables e below s _ _ _ (s₁.setTop (mkF m 15 #[.val (.ref a1), .val (.ref a1), .val (.int (4 : Int32)), .val (.int (3 : Int32)), .val (.int c2)] [(.int c3)]))
        refine own_go (fun t k => XS.istore X0.here hx rfl (hb hby d1_4_15) rfl (l' := #[.val (.ref a1), .val (.ref a1), .val (.int (4 : Int32)), .val (.int (3 : Int32)), .val (.int c3)]) rfl k) ?_
        show own_G p.tables e below s _ _ _ (s₁.setTop (mkF m 17 #[.val (.ref a1), .val (.ref a1), .val (.int (4 : Int32)), .val (.int (3 : Int32)), .val (.int c3)] []))
        refine own_go (fun t k => XS.iload X0.here hx rfl (hb hby d1_4_17) rfl k) ?_
        show own_G p.tables e below s _ _ _ (s₁.setTop (mkF m 19 #[.val (.ref a1), .val (.ref a1), .val (.int (4 : Int32)), .val (.int (3 : Int32)), .val (.int c3)] [(.int c3)]))
        by_cases hn3 : c3 < (0 : Int32)
        · refine own_go (fun t k => XS.ifNo X0.here hx rfl (hb hby d1_4_19) rfl (Jvm.Free.XT.i0_ge_f hn3) k) ?_
          show own_G p.tables e below s _ _ _ (s₁.setTop (mkF m 22 #[.val (.ref a1), .val (.ref a1), .val (.int (4 : Int32)), .val (.int (3 : Int32)), .val (.int c3)] []))
          refine own_go (fun t k => XS.iconst X0.here hx rfl (hb hby d1_4_22) k) ?_
          show own_G p.tables e below s _ _ _ (s₁.setTop (mkF m 23 #[.val (.ref a1), .val (.ref a1), .val (.int (4 : Int32)), .val (.int (3 : Int32)), .val (.int c3)] [(.int (0 : Int32))]))
          exact own_retN X0 hx hlk (t := .boolean) (z' := (0 : Int32)) Bd.returns (by simp) (hb hby d1_4_23) (rfl) (by rw [e0]; exact ⟨by rw [← hr, if_pos (Or.inr (Or.inr (Or.inr (hn3))))], N0, rfl⟩) (by decide) (by decide)
        · refine own_go (fun t k => XS.ifYes X0.here hx rfl (pc0 := 19) (pc' := 24) rfl (hb hby d1_4_19) rfl (Jvm.Free.XT.i0_ge_t hn3) (by decide) (by decide) k) ?_
          show own_G p.tables e below s _ _ _ (s₁.setTop (mkF m 24 #[.val (.ref a1), .val (.ref a1), .val (.int (4 : Int32)), .val (.int (3 : Int32)), .val (.int c3)] []))
          refine own_go (fun t k => XS.iinc X0.here hx rfl (hb hby d1_4_24) rfl (l' := #[.val (.ref a1), .val (.ref a1), .val (.int (4 : Int32)), .val (.int (4 : Int32)), .val (.int c3)]) rfl k) ?_
          show own_G p.tables e below s _ _ _ (s₁.setTop (mkF m 27 #[.val (.ref a1), .val (.ref a1), .val (.int (4 : Int32)), .val (.int (4 : Int32)), .val (.int c3)] []))
          refine own_go (fun t k => XS.goto X0.here hx rfl (pc0 := 27) (pc' := 7) rfl (hb hby d1_4_27) (by decide) (by decide) k) ?_
          show own_G p.tables e below s _ _ _ (s₁.setTop (mkF m 7 #[.val (.ref a1), .val (.ref a1), .val (.int (4 : Int32)), .val (.int (4 : Int32)), .val (.int c3)] []))
          refine own_go (fun t k => XS.iloadN X0.here hx rfl (hb hby d1_4_7) rfl k) ?_
          show own_G p.tables e below s _ _ _ (s₁.setTop (mkF m 8 #[.val (.ref a1), .val (.ref a1), .val (.int (4 : Int32)), .val (.int (4 : Int32)), .val (.int c3)] [(.int (4 : Int32))]))
          refine own_go (fun t k => XS.iloadN X0.here hx rfl (hb hby d1_4_8) rfl k) ?_
          show own_G p.tables e below s _ _ _ (s₁.setTop (mkF m 9 #[.val (.ref a1), .val (.ref a1), .val (.int (4 : Int32)), .val (.int (4 : Int32)), .val (.int c3)] [(.int (4 : Int32)), (.int (4 : Int32))]))
          refine own_go (fun t k => XS.icmpYes X0.here hx rfl (pc0 := 9) (pc' := 30) rfl (hb hby d1_4_9) rfl (by decide) (by decide) (by decide) k) ?_
          show own_G p.tables e below s _ _ _ (s₁.setTop (mkF m 30 #[.val (.ref a1), .val (.ref a1), .val (.int (4 : Int32)), .val (.int (4 : Int32)), .val (.int c3)] []))
          refine own_go (fun t k => XS.iconst X0.here hx rfl (hb hby d1_4_30) k) ?_
          show own_G p.tables e below s _ _ _ (s₁.setTop (mkF m 31 #[.val (.ref a1), .val (.ref a1), .val (.int (4 : Int32)), .val (.int (4 : Int32)), .val (.int c3)] [(.int (1 : Int32))]))
          exact own_retN X0 hx hlk (t := .boolean) (z' := (1 : Int32)) Bd.returns (by simp) (hb hby d1_4_31) (rfl) (by rw [e0]; exact ⟨by rw [← hr, if_neg (fun q => q.elim hn0 (fun q => q.elim hn1 (fun q => q.elim hn2 hn3)))], N0, rfl⟩) (by decide) (by decide)
theorem d1_5_0 : decode prog_92_method_13_code 0 = .ok (.aload_n 0, 1) := by decide +kernel
theorem d1_5_1 : decode prog_92_method_13_code 1 = .ok (.astore_n 1, 1) := by decide +kernel
theorem d1_5_2 : decode prog_92_method_13_code 2 = .ok (.aload_n 1, 1) := by decide +kernel
theorem d1_5_3 : decode prog_92_method_13_code 3 = .ok (.arraylength, 1) := by decide +kernel
theorem d1_5_4 : decode prog_92_method_13_code 4 = .ok (.istore_n 2, 1) := by decide +kernel
theorem d1_5_5 : decode prog_92_method_13_code 5 = .ok (.iconst 0, 1) := by decide +kernel
theorem d1_5_6 : decode prog_92_method_13_code 6 = .ok (.istore_n 3, 1) := by decide +kernel
theorem d1_5_7 : decode prog_92_method_13_code 7 = .ok (.iload_n 3, 1) := by decide +kernel
theorem d1_5_8 : decode prog_92_method_13_code 8 = .ok (.iload_n 2, 1) := by decide +kernel
theorem d1_5_9 : decode prog_92_method_13_code 9 = .ok (.if_icmp .ge 21, 3) := by decide +kernel
theorem d1_5_12 : decode prog_92_method_13_code 12 = .ok (.aload_n 1, 1) := by decide +kernel
theorem d1_5_13 : decode prog_92_method_13_code 13 = .ok (.iload_n 3, 1) := by decide +kernel
theorem d1_5_14 : decode prog_92_method_13_code 14 = .ok (.baload, 1) := by decide +kernel
theorem d1_5_15 : decode prog_92_method_13_code 15 = .ok (.istore 4, 2) := by decide +kernel
theorem d1_5_17 : decode prog_92_method_13_code 17 = .ok (.iload 4, 2) := by decide +kernel
theorem d1_5_19 : decode prog_92_method_13_code 19 = .ok (.ifCond .ge 5, 3) := by decide +kernel
theorem d1_5_22 : decode prog_92_method_13_code 22 = .ok (.iconst 0, 1) := by decide +kernel
theorem d1_5_23 : decode prog_92_method_13_code 23 = .ok (.ireturn, 1) := by decide +kernel
theorem d1_5_24 : decode prog_92_method_13_code 24 = .ok (.iinc 3 1, 3) := by decide +kernel
theorem d1_5_27 : decode prog_92_method_13_code 27 = .ok (.goto (-20), 3) := by decide +kernel
theorem d1_5_30 : decode prog_92_method_13_code 30 = .ok (.iconst 1, 1) := by decide +kernel
theorem d1_5_31 : decode prog_92_method_13_code 31 = .ok (.ireturn, 1) := by decide +kernel
theorem ef_1_5 (m : MethodId) (x0 : Addr) : entryFrame m #[(.ref x0)] 5 = mkF m 0 #[.val (.ref x0), .unset, .unset, .unset, .unset] [] := by first | (simp [entryFrame, mkF, argsToLocals, Value.category]; done) | rfl
def Q1_5 (Z : State) (a1 : Addr) (k1 : ClassId) (c0 c1 c2 c3 c4 r : Int32) (h0 : Heap) (n0 : Nat) (v : Option Value) (h : Heap) (L : List Loc) : Prop := v = some (.int r) ∧ Fr n0 L ∧ h = h0
set_option maxRecDepth 65536 in
set_option maxHeartbeats 40000000 in
theorem rm1_5 (l : Launch) (Z : State) (a0 : Array Value) (hw : ∀ d ∈ tables_1, d.before a0 Z = true) (ws : List Jvm.Cond) (a1 : Addr) (k1 : ClassId) (c0 c1 c2 c3 c4 r : Int32) (h0 : Heap) (n0 : Nat) (Z0 : n0 ≤ h0.size) (V1 : Arv Z h0 a1 k1 .byte (5 : Int32) [(.int c0), (.int c1), (.int c2), (.int c3), (.int c4)] (.int (0 : Int32))) (hr : (if c0 < (0 : Int32) ∨ c1 < (0 : Int32) ∨ c2 < (0 : Int32) ∨ c3 < (0 : Int32) ∨ c4 < (0 : Int32) then (0 : Int32) else 1) = r) :
    MetFree l (⟨"com/example/cartulary/cartulary/model/Syntax", "isAscii", "([B)Z"⟩ : MethodName) (head1 (Jvm.Cond.code (⟨"com/example/cartulary/cartulary/model/Syntax", "isAscii", "([B)Z"⟩ : MethodName) prog_92_method_13_code 5 (some .boolean) :: ws) ({ frames := 0, cells := 0, slots := 0, locals := 0 } : Room)) (fun a U => a = #[(.ref a1)] ∧ Z.Warmed39 U.vm ∧ U.heap = h0) (fun _ _ _ _ _ => True) (fun _ U o U' => ∃ v L, o = .returned v ∧ Q1_5 Z a1 k1 c0 c1 c2 c3 c4 r h0 n0 v U'.heap L ∧ FrameEnd U o U' L ({ frames := 0, cells := 0, slots := 0, locals := 0 } : Room).cells ({ frames := 0, cells := 0, slots := 0, locals := 0 } : Room).slots) := by
  refine MetFree.of_bodySF (plainFor_of_name pn_com_example_cartulary_cartulary_model_Syntax) hisR ?_
  intro p e s m args below meth c s₁ Bd hml0 hP hK
  obtain ⟨rfl, hZ, hh⟩ := hP
  have hx := Bd.exec
  have hby := Bd.bytes
  have hlk : meth.locks = false := BodyLoose.notSynchronized Bd
  have hml : c.maxLocals = 5 := hml0
  have hown : s.vm.findClass "com/example/cartulary/cartulary/model/Syntax" = some m.cls := findClass_of_methodNamed Bd.named
  have hnm := (name_of_methodNamed Bd.named Bd.method).1
  have X0 : Stand p l e ({ frames := 0, cells := 0, slots := 0, locals := 0 } : Room) s m #[(.ref a1)] below meth c s₁ [] 0 0 := Stand.of_body Bd
  have e0 : s₁.heap = h0 := by rw [← hh, Bd.state]; rfl
  have N0 := Fr.nil n0
  show own_G p.tables e below s (Q1_5 Z a1 k1 c0 c1 c2 c3 c4 r h0 n0) ({ frames := 0, cells := 0, slots := 0, locals := 0 } : Room).cells ({ frames := 0, cells := 0, slots := 0, locals := 0 } : Room).slots (s₁.setTop (entryFrame m #[(.ref a1)] 5))
  refine own_go (fun t k => castTop (ef_1_5 m a1) k) ?_
  show own_G p.tables e below s _ _ _ (s₁.setTop (mkF m 0 #[.val (.ref a1), .unset, .unset, .unset, .unset] []))
  refine own_go (fun t k => XS.aloadN X0.here hx rfl (hb hby d1_5_0) rfl rfl k) ?_
  show own_G p.tables e below s _ _ _ (s₁.setTop (mkF m 1 #[.val (.ref a1), .unset, .unset, .unset, .unset] [(.ref a1)]))
  refine own_go (fun t k => XS.astoreN X0.here hx rfl (hb hby d1_5_1) rfl rfl (l' := #[.val (.ref a1), .val (.ref a1), .unset, .unset, .unset]) rfl k) ?_
  show own_G p.tables e below s _ _ _ (s₁.setTop (mkF m 2 #[.val (.ref a1), .val (.ref a1), .unset, .unset, .unset] []))
  refine own_go (fun t k => XS.aloadN X0.here hx rfl (hb hby d1_5_2) rfl rfl k) ?_
  show own_G p.tables e below s _ _ _ (s₁.setTop (mkF m 3 #[.val (.ref a1), .val (.ref a1), .unset, .unset, .unset] [(.ref a1)]))
  obtain ⟨cl16, Ar16, q16, S16, NN16, HH16, GG16⟩ := id V1
  have hlen16 := len_of S16 NN16
  refine own_go (A := s₁.setTop (mkF m 4 #[.val (.ref a1), .val (.ref a1), .unset, .unset, .unset] [(.int (5 : Int32))])) (fun t k => X0.arraylength hx (by rw [e0]; exact Ar16.1) (State.isArrayOf_alike hZ.alike Ar16.2.1) (g := (mkF m 3 #[.val (.ref a1), .val (.ref a1), .unset, .unset, .unset] [(.ref a1)])) rfl rfl (hb hby d1_5_3) _ (by rw [hlen16]; exact k)) ?_
  show own_G p.tables e below s _ _ _ (s₁.setTop (mkF m 4 #[.val (.ref a1), .val (.ref a1), .unset, .unset, .unset] [(.int (5 : Int32))]))
  refine own_go (fun t k => XS.istoreN X0.here hx rfl (hb hby d1_5_4) rfl (l' := #[.val (.ref a1), .val (.ref a1), .val (.int (5 : Int32)), .unset, .unset]) rfl k) ?_
  show own_G p.tables e below s _ _ _ (s₁.setTop (mkF m 5 #[.val (.ref a1), .val (.ref a1), .val (.int (5 : Int32)), .unset, .unset] []))
  refine own_go (fun t k => XS.iconst X0.here hx rfl (hb hby d1_5_5) k) ?_
  show own_G p.tables e below s _ _ _ (s₁.setTop (mkF m 6 #[.val (.ref a1), .val (.ref a1), .val (.int (5 : Int32)), .unset, .unset] [(.int (0 : Int32))]))
  refine own_go (fun t k => XS.istoreN X0.here hx rfl (hb hby d1_5_6) rfl (l' := #[.val (.ref a1), .val (.ref a1), .val (.int (5 : Int32)), .val (.int (0 : Int32)), .unset]) rfl k) ?_
  show own_G p.tables e below s _ _ _ (s₁.setTop (mkF m 7 #[.val (.ref a1), .val (.ref a1), .val (.int (5 : Int32)), .val (.int (0 : Int32)), .unset] []))
  refine own_go (fun t k => XS.iloadN X0.here hx rfl (hb hby d1_5_7) rfl k) ?_
  show own_G p.tables e below s _ _ _ (s₁.setTop (mkF m 8 #[.val (.ref a1), .val (.ref a1), .val (.int (5 : Int32)), .val (.int (0 : Int32)), .unset] [(.int (0 : Int32))]))
  refine own_go (fun t k => XS.iloadN X0.here hx rfl (hb hby d1_5_8) rfl k) ?_
  show own_G p.tables e below s _ _ _ (s₁.setTop (mkF m 9 #[.val (.ref a1), .val (.ref a1), .val (.int (5 : Int32)), .val (.int (0 : Int32)), .unset] [(.int (5 : Int32)), (.int (0 : Int32))]))
  refine own_go (fun t k => XS.icmpNo X0.here hx rfl (hb hby d1_5_9) rfl (by decide) k) ?_
  show own_G p.tables e below s _ _ _ (s₁.setTop (mkF m 12 #[.val (.ref a1), .val (.ref a1), .val (.int (5 : Int32)), .val (.int (0 : Int32)), .unset] []))
  refine own_go (fun t k => XS.aloadN X0.here hx rfl (hb hby d1_5_12) rfl rfl k) ?_
  show own_G p.tables e below s _ _ _ (s₁.setTop (mkF m 13 #[.val (.ref a1), .val (.ref a1), .val (.int (5 : Int32)), .val (.int (0 : Int32)), .unset] [(.ref a1)]))
  refine own_go (fun t k => XS.iloadN X0.here hx rfl (hb hby d1_5_13) rfl k) ?_
  show own_G p.tables e below s _ _ _ (s₁.setTop (mkF m 14 #[.val (.ref a1), .val (.ref a1), .val (.int (5 : Int32)), .val (.int (0 : Int32)), .unset] [(.int (0 : Int32)), (.ref a1)]))
  obtain ⟨cl17, Ar17, q17, S17, NN17, HH17, GG17⟩ := id V1
  have hin17 : ¬ ((0 : Int32) < 0 ∨ cl17.slots.size ≤ ((0 : Int32)).toNatClampNeg) := inb_of S17 ⟨by decide, by decide⟩
  have hat17 : cl17.slots[((0 : Int32)).toNatClampNeg]? = some (.int c0) := Has.at HH17 hin17 rfl
  refine own_go (fun t k => X0.baloadBytes hx (j := (0 : Int32)) (v := (.int c0)) (by rw [e0]; exact Ar17.1) (State.isArrayOf_alike hZ.alike Ar17.2.1) Ar17.2.2 hin17 hat17 (g := (mkF m 14 #[.val (.ref a1), .val (.ref a1), .val (.int (5 : Int32)), .val (.int (0 : Int32)), .unset] [(.int (0 : Int32)), (.ref a1)])) rfl rfl (hb hby d1_5_14) _ k) ?_
  show own_G p.tables e below s _ _ _ (s₁.setTop (mkF m 15 #[.val (.ref a1), .val (.ref a1), .val (.int (5 : Int32)), .val (.int (0 : Int32)), .unset] [(.int c0)]))
  refine own_go (fun t k => XS.istore X0.here hx rfl (hb hby d1_5_15) rfl (l' := #[.val (.ref a1), .val (.ref a1), .val (.int (5 : Int32)), .val (.int (0 : Int32)), .val (.int c0)]) rfl k) ?_
  show own_G p.tables e below s _ _ _ (s₁.setTop (mkF m 17 #[.val (.ref a1), .val (.ref a1), .val (.int (5 : Int32)), .val (.int (0 : Int32)), .val (.int c0)] []))
  refine own_go (fun t k => XS.iload X0.here hx rfl (hb hby d1_5_17) rfl k) ?_
  show own_G p.tables e below s _ _ _ (s₁.setTop (mkF m 19 #[.val (.ref a1), .val (.ref a1), .val (.int (5 : Int32)), .val (.int (0 : Int32)), .val (.int c0)] [(.int c0)]))
  by_cases hn0 : c0 < (0 : Int32)
  · refine own_go (fun t k => XS.ifNo X0.here hx rfl (hb hby d1_5_19) rfl (Jvm.Free.XT.i0_ge_f hn0) k) ?_
    show own_G p.tables e below s _ _ _ (s₁.setTop (mkF m 22 #[.val (.ref a1), .val (.ref a1), .val (.int (5 : Int32)), .val (.int (0 : Int32)), .val (.int c0)] []))
    refine own_go (fun t k => XS.iconst X0.here hx rfl (hb hby d1_5_22) k) ?_
    show own_G p.tables e below s _ _ _ (s₁.setTop (mkF m 23 #[.val (.ref a1), .val (.ref a1), .val (.int (5 : Int32)), .val (.int (0 : Int32)), .val (.int c0)] [(.int (0 : Int32))]))
    exact own_retN X0 hx hlk (t := .boolean) (z' := (0 : Int32)) Bd.returns (by simp) (hb hby d1_5_23) (rfl) (by rw [e0]; exact ⟨by rw [← hr, if_pos (Or.inl hn0)], N0, rfl⟩) (by decide) (by decide)
  · refine own_go (fun t k => XS.ifYes X0.here hx rfl (pc0 := 19) (pc' := 24) rfl (hb hby d1_5_19) rfl (Jvm.Free.XT.i0_ge_t hn0) (by decide) (by decide) k) ?_
    show own_G p.tables e below s _ _ _ (s₁.setTop (mkF m 24 #[.val (.ref a1), .val (.ref a1), .val (.int (5 : Int32)), .val (.int (0 : Int32)), .val (.int c0)] []))
    refine own_go (fun t k => XS.iinc X0.here hx rfl (hb hby d1_5_24) rfl (l' := #[.val (.ref a1), .val (.ref a1), .val (.int (5 : Int32)), .val (.int (1 : Int32)), .val (.int c0)]) rfl k) ?_
    show own_G p.tables e below s _ _ _ (s₁.setTop (mkF m 27 #[.val (.ref a1), .val (.ref a1), .val (.int (5 : Int32)), .val (.int (1 : Int32)), .val (.int c0)] []))
    refine own_go (fun t k => XS.goto X0.here hx rfl (pc0 := 27) (pc' := 7) rfl (hb hby d1_5_27) (by decide) (by decide) k) ?_
    show own_G p.tables e below s _ _ _ (s₁.setTop (mkF m 7 #[.val (.ref a1), .val (.ref a1), .val (.int (5 : Int32)), .val (.int (1 : Int32)), .val (.int c0)] []))
    refine own_go (fun t k => XS.iloadN X0.here hx rfl (hb hby d1_5_7) rfl k) ?_
    show own_G p.tables e below s _ _ _ (s₁.setTop (mkF m 8 #[.val (.ref a1), .val (.ref a1), .val (.int (5 : Int32)), .val (.int (1 : Int32)), .val (.int c0)] [(.int (1 : Int32))]))
    refine own_go (fun t k => XS.iloadN X0.here hx rfl (hb hby d1_5_8) rfl k) ?_
    show own_G p.tables e below s _ _ _ (s₁.setTop (mkF m 9 #[.val (.ref a1), .val (.ref a1), .val (.int (5 : Int32)), .val (.int (1 : Int32)), .val (.int c0)] [(.int (5 : Int32)), (.int (1 : Int32))]))
    refine own_go (fun t k => XS.icmpNo X0.here hx rfl (hb hby d1_5_9) rfl (by decide) k) ?_
    show own_G p.tables e below s _ _ _ (s₁.setTop (mkF m 12 #[.val (.ref a1), .val (.ref a1), .val (.int (5 : Int32)), .val (.int (1 : Int32)), .val (.int c0)] []))
    refine own_go (fun t k => XS.aloadN X0.here hx rfl (hb hby d1_5_12) rfl rfl k) ?_
    show own_G p.tables e below s _ _ _ (s₁.setTop (mkF m 13 #[.val (.ref a1), .val (.ref a1), .val (.int (5 : Int32)), .val (.int (1 : Int32)), .val (.int c0)] [(.ref a1)]))
    refine own_go (fun t k => XS.iloadN X0.here hx rfl (hb hby d1_5_13) rfl k) ?_
    show own_G p.tables e below s _ _ _ (s₁.setTop (mkF m 14 #[.val (.ref a1), .val (.ref a1), .val (.int (5 : Int32)), .val (.int (1 : Int32)), .val (.int c0)] [(.int (1 : Int32)), (.ref a1)]))
    obtain ⟨cl18, Ar18, q18, S18, NN18, HH18, GG18⟩ := id V1
    have hin18 : ¬ ((1 : Int32) < 0 ∨ cl18.slots.size ≤ ((1 : Int32)).toNatClampNeg) := inb_of S18 ⟨by decide, by decide⟩
    have hat18 : cl18.slots[((1 : Int32)).toNatClampNeg]? = some (.int c1) := Has.at HH18 hin18 rfl
    refine own_go (fun t k => X0.baloadBytes hx (j := (1 : Int32)) (v := (.int c1)) (by rw [e0]; exact Ar18.1) (State.isArrayOf_alike hZ.alike Ar18.2.1) Ar18.2.2 hin18 hat18 (g := (mkF m 14 #[.val (.ref a1), .val (.ref a1), .val (.int (5 : Int32)), .val (.int (1 : Int32)), .val (.int c0)] [(.int (1 : Int32)), (.ref a1)])) rfl rfl (hb hby d1_5_14) _ k) ?_
    show own_G p.tables e below s _ _ _ (s₁.setTop (mkF m 15 #[.val (.ref a1), .val (.ref a1), .val (.int (5 : Int32)), .val (.int (1 : Int32)), .val (.int c0)] [(.int c1)]))
    refine own_go (fun t k => XS.istore X0.here hx rfl (hb hby d1_5_15) rfl (l' := #[.val (.ref a1), .val (.ref a1), .val (.int (5 : Int32)), .val (.int (1 : Int32)), .val (.int c1)]) rfl k) ?_
    show own_G p.tables e below s _ _ _ (s₁.setTop (mkF m 17 #[.val (.ref a1), .val (.ref a1), .val (.int (5 : Int32)), .val (.int (1 : Int32)), .val (.int c1)] []))
    refine own_go (fun t k => XS.iload X0.here hx rfl (hb hby d1_5_17) rfl k) ?_
    show own_G p.tables e below s _ _ _ (s₁.setTop (mkF m 19 #[.val (.ref a1), .val (.ref a1), .val (.int (5 : Int32)), .val (.int (1 : Int32)), .val (.int c1)] [(.int c1)]))
    by_cases hn1 : c1 < (0 : Int32)
    · refine own_go (fun t k => XS.ifNo X0.here hx rfl (hb hby d1_5_19) rfl (Jvm.Free.XT.i0_ge_f hn1) k) ?_
      show own_G p.tables e below s _ _ _ (s₁.setTop (mkF m 22 #[.val (.ref a1), .val (.ref a1), .val (.int (5 : Int32)), .val (.int (1 : Int32)), .val (.int c1)] []))
      refine own_go (fun t k => XS.iconst X0.here hx rfl (hb hby d1_5_22) k) ?_
      show own_G p.tables e below s _ _ _ (s₁.setTop (mkF m 23 #[.val (.ref a1), .val (.ref a1), .val (.int (5 : Int32)), .val (.int (1 : Int32)), .val (.int c1)] [(.int (0 : Int32))]))
      exact own_retN X0 hx hlk (t := .boolean) (z' := (0 : Int32)) Bd.returns (by simp) (hb hby d1_5_23) (rfl) (by rw [e0]; exact ⟨by rw [← hr, if_pos (Or.inr (Or.inl hn1))], N0, rfl⟩) (by decide) (by decide)
    · refine own_go (fun t k => XS.ifYes X0.here hx rfl (pc0 := 19) (pc' := 24) rfl (hb hby d1_5_19) rfl (Jvm.Free.XT.i0_ge_t hn1) (by decide) (by decide) k) ?_
      show own_G p.tables e below s _ _ _ (s₁.setTop (mkF m 24 #[.val (.ref a1), .val (.ref a1), .val (.int (5 : Int32)), .val (.int (1 : Int32)), .val (.int c1)] []))
      refine own_go (fun t k => XS.iinc X0.here hx rfl (hb hby d1_5_24) rfl (l' := #[.val (.ref a1), .val (.ref a1), .val (.int (5 : Int32)), .val (.int (2 : Int32)), .val (.int c1)]) rfl k) ?_
      show own_G p.tables e below s _ _ _ (s₁.setTop (mkF m 27 #[.val (.ref a1), .val (.ref a1), .val (.int (5 : Int32)), .val (.int (2 : Int32)), .val (.int c1)] []))
      refine own_go (fun t k => XS.goto X0.here hx rfl (pc0 := 27) (pc' := 7) rfl (hb hby d1_5_27) (by decide) (by decide) k) ?_
      show own_G p.tables e below s _ _ _ (s₁.setTop (mkF m 7 #[.val (.ref a1), .val (.ref a1), .val (.int (5 : Int32)), .val (.int (2 : Int32)), .val (.int c1)] []))
      refine own_go (fun t k => XS.iloadN X0.here hx rfl (hb hby d1_5_7) rfl k) ?_
      show own_G p.tables e below s _ _ _ (s₁.setTop (mkF m 8 #[.val (.ref a1), .val (.ref a1), .val (.int (5 : Int32)), .val (.int (2 : Int32)), .val (.int c1)] [(.int (2 : Int32))]))
      refine own_go (fun t k => XS.iloadN X0.here hx rfl (hb hby d1_5_8) rfl k) ?_
      show own_G p.tables e below s _ _ _ (s₁.setTop (mkF m 9 #[.val (.ref a1), .val (.ref a1), .val (.int (5 : Int32)), .val (.int (2 : Int32)), .val (.int c1)] [(.int (5 : Int32)), (.int (2 : Int32))]))
      refine own_go (fun t k => XS.icmpNo X0.here hx rfl (hb hby d1_5_9) rfl (by decide) k) ?_
      show own_G p.tables e below s _ _ _ (s₁.setTop (mkF m 12 #[.val (.ref a1), .val (.ref a1), .val (.int (5 : Int32)), .val (.int (2 : Int32)), .val (.int c1)] []))
      refine own_go (fun t k => XS.aloadN X0.here hx rfl (hb hby d1_5_12) rfl rfl k) ?_
      show own_G p.tables e below s _ _ _ (s₁.setTop (mkF m 13 #[.val (.ref a1), .val (.ref a1), .val (.int (5 : Int32)), .val (.int (2 : Int32)), .val (.int c1)] [(.ref a1)]))
      refine own_go (fun t k => XS.iloadN X0.here hx rfl (hb hby d1_5_13) rfl k) ?_
      show own_G p.tables e below s _ _ _ (s₁.setTop (mkF m 14 #[.val (.ref a1), .val (.ref a1), .val (.int (5 : Int32)), .val (.int (2 : Int32)), .val (.int c1)] [(.int (2 : Int32)), (.ref a1)]))
      obtain ⟨cl19, Ar19, q19, S19, NN19, HH19, GG19⟩ := id V1
      have hin19 : ¬ ((2 : Int32) < 0 ∨ cl19.slots.size ≤ ((2 : Int32)).toNatClampNeg) := inb_of S19 ⟨by decide, by decide⟩
      have hat19 : cl19.slots[((2 : Int32)).toNatClampNeg]? = some (.int c2) := Has.at HH19 hin19 rfl
      refine own_go (fun t k => X0.baloadBytes hx (j := (2 : Int32)) (v := (.int c2)) (by rw [e0]; exact Ar19.1) (State.isArrayOf_alike hZ.alike Ar19.2.1) Ar19.2.2 hin19 hat19 (g := (mkF m 14 #[.val (.ref a1), .val (.ref a1), .val (.int (5 : Int32)), .val (.int (2 : Int32)), .val (.int c1)] [(.int (2 : Int32)), (.ref a1)])) rfl rfl (hb hby d1_5_14) _ k) ?_
      show own_G p.tables e below s _ _ _ (s₁.setTop (mkF m 15 #[.val (.ref a1), .val (.ref a1), .val (.int (5 : Int32)), .val (.int (2 : Int32)), .val (.int c1)] [(.int c2)]))
      refine own_go (fun t k => XS.istore X0.here hx rfl (hb hby d1_5_15) rfl (l' := #[.val (.ref a1), .val (.ref a1), .val (.int (5 : Int32)), .val (.int (2 : Int32)), .val (.int c2)]) rfl k) ?_
      show own_G p.tables e below s _ _ _ (s₁.setTop (mkF m 17 #[.val (.ref a1), .val (.ref a1), .val (.int (5 : Int32)), .val (.int (2 : Int32)), .val (.int c2)] []))
      refine own_go (fun t k => XS.iload X0.here hx rfl (hb hby d1_5_17) rfl k) ?_
      show own_G p.tables e below s _ _ _ (s₁.setTop (mkF m 19 #[.val (.ref a1), .val (.ref a1), .val (.int (5 : Int32)), .val (.int (2 : Int32)), .val (.int c2)] [(.int c2)]))
      by_cases hn2 : c2 < (0 : Int32)
      · refine own_go (fun t k => XS.ifNo X0.here hx rfl (hb hby d1_5_19) rfl (Jvm.Free.XT.i0_ge_f hn2) k) ?_
        show own_G p.tables e below s _ _ _ (s₁.setTop (mkF m 22 #[.val (.ref a1), .val (.ref a1), .val (.int (5 : Int32)), .val (.int (2 : Int32)), .val (.int c2)] []))
        refine own_go (fun t k => XS.iconst X0.here hx rfl (hb hby d1_5_22) k) ?_
        show own_G p.tables e below s _ _ _ (s₁.setTop (mkF m 23 #[.val (.ref a1), .val (.ref a1), .val (.int (5 : Int32)), .val (.int (2 : Int32)), .val (.int c2)] [(.int (0 : Int32))]))
        exact own_retN X0 hx hlk (t := .boolean) (z' := (0 : Int32)) Bd.returns (by simp) (hb hby d1_5_23) (rfl) (by rw [e0]; exact ⟨by rw [← hr, if_pos (Or.inr (Or.inr (Or.inl hn2)))], N0, rfl⟩) (by decide) (by decide)
      · refine own_go (fun t k => XS.ifYes X0.here hx rfl (pc0 := 19) (pc' := 24) rfl (hb hby d1_5_19) rfl (Jvm.Free.XT.i0_ge_t hn2) (by decide) (by decide) k) ?_
        show own_G p.tables e below s _ _ _ (s₁.setTop (mkF m 24 #[.val (.ref a1), .val (.ref a1), .val (.int (5 : Int32)), .val (.int (2 : Int32)), .val (.int c2)] []))
        refine own_go (fun t k => XS.iinc X0.here hx rfl (hb hby d1_5_24) rfl (l' := #[.val (.ref a1), .val (.ref a1), .val (.int (5 : Int32)), .val (.int (3 : Int32)), .val (.int c2)]) rfl k) ?_
        show own_G p.tables e below s _ _ _ (s₁.setTop (mkF m 27 #[.val (.ref a1), .val (.ref a1), .val (.int (5 : Int32)), .val (.int (3 : Int32)), .val (.int c2)] []))
        refine own_go (fun t k => XS.goto X0.here hx rfl (pc0 := 27) (pc' := 7) rfl (hb hby d1_5_27) (by decide) (by decide) k) ?_
        show own_G p.tables e below s _ _ _ (s₁.setTop (mkF m 7 #[.val (.ref a1), .val (.ref a1), .val (.int (5 : Int32)), .val (.int (3 : Int32)), .val (.int c2)] []))
        refine own_go (fun t k => XS.iloadN X0.here hx rfl (hb hby d1_5_7) rfl k) ?_
        show own_G p.tables e below s _ _ _ (s₁.setTop (mkF m 8 #[.val (.ref a1), .val (.ref a1), .val (.int (5 : Int32)), .val (.int (3 : Int32)), .val (.int c2)] [(.int (3 : Int32))]))
        refine own_go (fun t k => XS.iloadN X0.here hx rfl (hb hby d1_5_8) rfl k) ?_
        show own_G p.tables e below s _ _ _ (s₁.setTop (mkF m 9 #[.val (.ref a1), .val (.ref a1), .val (.int (5 : Int32)), .val (.int (3 : Int32)), .val (.int c2)] [(.int (5 : Int32)), (.int (3 : Int32))]))
        refine own_go (fun t k => XS.icmpNo X0.here hx rfl (hb hby d1_5_9) rfl (by decide) k) ?_
        show own_G p.tables e below s _ _ _ (s₁.setTop (mkF m 12 #[.val (.ref a1), .val (.ref a1), .val (.int (5 : Int32)), .val (.int (3 : Int32)), .val (.int c2)] []))
        refine own_go (fun t k => XS.aloadN X0.here hx rfl (hb hby d1_5_12) rfl rfl k) ?_
        show own_G p.tables e below s _ _ _ (s₁.setTop (mkF m 13 #[.val (.ref a1), .val (.ref a1), .val (.int (5 : Int32)), .val (.int (3 : Int32)), .val (.int c2)] [(.ref a1)]))
        refine own_go (fun t k => XS.iloadN X0.here hx rfl (hb hby d1_5_13) rfl k) ?_
        show own_G p.tables e below s _ _ _ (s₁.setTop (mkF m 14 #[.val (.ref a1), .val (.ref a1), .val (.int (5 : Int32)), .val (.int (3 : Int32)), .val (.int c2)] [(.int (3 : Int32)), (.ref a1)]))
        obtain ⟨cl20, Ar20, q20, S20, NN20, HH20, GG20⟩ := id V1
        have hin20 : ¬ ((3 : Int32) < 0 ∨ cl20.slots.size ≤ ((3 : Int32)).toNatClampNeg) := inb_of S20 ⟨by decide, by decide⟩
        have hat20 : cl20.slots[((3 : Int32)).toNatClampNeg]? = some (.int c3) := Has.at HH20 hin20 rfl
        refine own_go (fun t k => X0.baloadBytes hx (j := (3 : Int32)) (v := (.int c3)) (by rw [e0]; exact Ar20.1) (State.isArrayOf_alike hZ.alike Ar20.2.1) Ar20.2.2 hin20 hat20 (g := (mkF m 14 #[.val (.ref a1), .val (.ref a1), .val (.int (5 : Int32)), .val (.int (3 : Int32)), .val (.int c2)] [(.int (3 : Int32)), (.ref a1)])) rfl rfl (hb hby d1_5_14) _ k) ?_
        show own_G p.tables e below s _ _ _ (s₁.setTop (mkF m 15 #[.val (.ref a1), .val (.ref a1), .val (.int (5 : Int32)), .val (.int (3 : Int32)), .val (.int c2)] [(.int c3)]))
        refine own_go (fun t k => XS.istore X0.here hx rfl (hb hby d1_5_15) rfl (l' := #[.val (.ref a1), .val (.ref a1), .val (.int (5 : Int32)), .val (.int (3 : Int32)), .val (.int c3)]) rfl k) ?_
        show own_G p.tables e below s _ _ _ (s₁.setTop (mkF m 17 #[.val (.ref a1), .val (.ref a1), .val (.int (5 : Int32)), .val (.int (3 : Int32)), .val (.int c3)] []))
        refine own_go (fun t k => XS.iload X0.here hx rfl (hb hby d1_5_17) rfl k) ?_
        show own_G p.tables e below s _ _ _ (s₁.setTop (mkF m 19 #[.val (.ref a1), .val (.ref a1), .val (.int (5 : Int32)), .val (.int (3 : Int32)), .val (.int c3)] [(.int c3)]))
        by_cases hn3 : c3 < (0 : Int32)
        · refine own_go (fun t k => XS.ifNo X0.here hx rfl (hb hby d1_5_19) rfl (Jvm.Free.XT.i0_ge_f hn3) k) ?_
          show own_G p.tables e below s _ _ _ (s₁.setTop (mkF m 22 #[.val (.ref a1), .val (.ref a1), .val (.int (5 : Int32)), .val (.int (3 : Int32)), .val (.int c3)] []))
          refine own_go (fun t k => XS.iconst X0.here hx rfl (hb hby d1_5_22) k) ?_
          show own_G p.tables e below s _ _ _ (s₁.setTop (mkF m 23 #[.val (.ref a1), .val (.ref a1), .val (.int (5 : Int32)), .val (.int (3 : Int32)), .val (.int c3)] [(.int (0 : Int32))]))
          exact own_retN X0 hx hlk (t := .boolean) (z' := (0 : Int32)) Bd.returns (by simp) (hb hby d1_5_23) (rfl) (by rw [e0]; exact ⟨by rw [← hr, if_pos (Or.inr (Or.inr (Or.inr (Or.inl hn3))))], N0, rfl⟩) (by decide) (by decide)
        · refine own_go (fun t k => XS.ifYes X0.here hx rfl (pc0 := 19) (pc' := 24) rfl (hb hby d1_5_19) rfl (Jvm.Free.XT.i0_ge_t hn3) (by decide) (by decide) k) ?_
          show own_G p.tables e below s _ _ _ (s₁.setTop (mkF m 24 #[.val (.ref a1), .val (.ref a1), .val (.int (5 : Int32)), .val (.int (3 : Int32)), .val (.int c3)] []))
          refine own_go (fun t k => XS.iinc X0.here hx rfl (hb hby d1_5_24) rfl (l' := #[.val (.ref a1), .val (.ref a1), .val (.int (5 : Int32)), .val (.int (4 : Int32)), .val (.int c3)]) rfl k) ?_
          show own_G p.tables e below s _ _ _ (s₁.setTop (mkF m 27 #[.val (.ref a1), .val (.ref a1), .val (.int (5 : Int32)), .val (.int (4 : Int32)), .val (.int c3)] []))
          refine own_go (fun t k => XS.goto X0.here hx rfl (pc0 := 27) (pc' := 7) rfl (hb hby d1_5_27) (by decide) (by decide) k) ?_
          show own_G p.tables e below s _ _ _ (s₁.setTop (mkF m 7 #[.val (.ref a1), .val (.ref a1), .val (.int (5 : Int32)), .val (.int (4 : Int32)), .val (.int c3)] []))
          refine own_go (fun t k => XS.iloadN X0.here hx rfl (hb hby d1_5_7) rfl k) ?_
          show own_G p.tables e below s _ _ _ (s₁.setTop (mkF m 8 #[.val (.ref a1), .val (.ref a1), .val (.int (5 : Int32)), .val (.int (4 : Int32)), .val (.int c3)] [(.int (4 : Int32))]))
          refine own_go (fun t k => XS.iloadN X0.here hx rfl (hb hby d1_5_8) rfl k) ?_
          show own_G p.tables e below s _ _ _ (s₁.setTop (mkF m 9 #[.val (.ref a1), .val (.ref a1), .val (.int (5 : Int32)), .val (.int (4 : Int32)), .val (.int c3)] [(.int (5 : Int32)), (.int (4 : Int32))]))
          refine own_go (fun t k => XS.icmpNo X0.here hx rfl (hb hby d1_5_9) rfl (by decide) k) ?_
          show own_G p.tables e below s _ _ _ (s₁.setTop (mkF m 12 #[.val (.ref a1), .val (.ref a1), .val (.int (5 : Int32)), .val (.int (4 : Int32)), .val (.int c3)] []))
          refine own_go (fun t k => XS.aloadN X0.here hx rfl (hb hby d1_5_12) rfl rfl k) ?_
          show own_G p.tables e below s _ _ _ (s₁.setTop (mkF m 13 #[.val (.ref a1), .val (.ref a1), .val (.int (5 : Int32)), .val (.int (4 : Int32)), .val (.int c3)] [(.ref a1)]))
          refine own_go (fun t k => XS.iloadN X0.here hx rfl (hb hby d1_5_13) rfl k) ?_
          show own_G p.tables e below s _ _ _ (s₁.setTop (mkF m 14 #[.val (.ref a1), .val (.ref a1), .val (.int (5 : Int32)), .val (.int (4 : Int32)), .val (.int c3)] [(.int (4 : Int32)), (.ref a1)]))
          obtain ⟨cl21, Ar21, q21, S21, NN21, HH21, GG21⟩ := id V1
          have hin21 : ¬ ((4 : Int32) < 0 ∨ cl21.slots.size ≤ ((4 : Int32)).toNatClampNeg) := inb_of S21 ⟨by decide, by decide⟩
          have hat21 : cl21.slots[((4 : Int32)).toNatClampNeg]? = some (.int c4) := Has.at HH21 hin21 rfl
          refine own_go (fun t k => X0.baloadBytes hx (j := (4 : Int32)) (v := (.int c4)) (by rw [e0]; exact Ar21.1) (State.isArrayOf_alike hZ.alike Ar21.2.1) Ar21.2.2 hin21 hat21 (g := (mkF m 14 #[.val (.ref a1), .val (.ref a1), .val (.int (5 : Int32)), .val (.int (4 : Int32)), .val (.int c3)] [(.int (4 : Int32)), (.ref a1)])) rfl rfl (hb hby d1_5_14) _ k) ?_
          show own_G p.tables e below s _ _ _ (s₁.setTop (mkF m 15 #[.val (.ref a1), .val (.ref a1), .val (.int (5 : Int32)), .val (.int (4 : Int32)), .val (.int c3)] [(.int c4)]))
          refine own_go (fun t k => XS.istore X0.here hx rfl (hb hby d1_5_15) rfl (l' := #[.val (.ref a1), .val (.ref a1), .val (.int (5 : Int32)), .val (.int (4 : Int32)), .val (.int c4)]) rfl k) ?_
          show own_G p.tables e below s _ _ _ (s₁.setTop (mkF m 17 #[.val (.ref a1), .val (.ref a1), .val (.int (5 : Int32)), .val (.int (4 : Int32)), .val (.int c4)] []))
          refine own_go (fun t k => XS.iload X0.here hx rfl (hb hby d1_5_17) rfl k) ?_
          show own_G p.tables e below s _ _ _ (s₁.setTop (mkF m 19 #[.val (.ref a1), .val (.ref a1), .val (.int (5 : Int32)), .val (.int (4 : Int32)), .val (.int c4)] [(.int c4)]))
          by_cases hn4 : c4 < (0 : Int32)
          · refine own_go (fun t k => XS.ifNo X0.here hx rfl (hb hby d1_5_19) rfl (Jvm.Free.XT.i0_ge_f hn4) k) ?_
            show own_G p.tables e below s _ _ _ (s₁.setTop (mkF m 22 #[.val (.ref a1), .val (.ref a1), .val (.int (5 : Int32)), .val (.int (4 : Int32)), .val (.int c4)] []))
            refine own_go (fun t k => XS.iconst X0.here hx rfl (hb hby d1_5_22) k) ?_
            show own_G p.tables e below s _ _ _ (s₁.setTop (mkF m 23 #[.val (.ref a1), .val (.ref a1), .val (.int (5 : Int32)), .val (.int (4 : Int32)), .val (.int c4)] [(.int (0 : Int32))]))
            exact own_retN X0 hx hlk (t := .boolean) (z' := (0 : Int32)) Bd.returns (by simp) (hb hby d1_5_23) (rfl) (by rw [e0]; exact ⟨by rw [← hr, if_pos (Or.inr (Or.inr (Or.inr (Or.inr (hn4)))))], N0, rfl⟩) (by decide) (by decide)
          · refine own_go (fun t k => XS.ifYes X0.here hx rfl (pc0 := 19) (pc' := 24) rfl (hb hby d1_5_19) rfl (Jvm.Free.XT.i0_ge_t hn4) (by decide) (by decide) k) ?_
            show own_G p.tables e below s _ _ _ (s₁.setTop (mkF m 24 #[.val (.ref a1), .val (.ref a1), .val (.int (5 : Int32)), .val (.int (4 : Int32)), .val (.int c4)] []))
            refine own_go (fun t k => XS.iinc X0.here hx rfl (hb hby d1_5_24) rfl (l' := #[.val (.ref a1), .val (.ref a1), .val (.int (5 : Int32)), .val (.int (5 : Int32)), .val (.int c4)]) rfl k) ?_
            show own_G p.tables e below s _ _ _ (s₁.setTop (mkF m 27 #[.val (.ref a1), .val (.ref a1), .val (.int (5 : Int32)), .val (.int (5 : Int32)), .val (.int c4)] []))
            refine own_go (fun t k => XS.goto X0.here hx rfl (pc0 := 27) (pc' := 7) rfl (hb hby d1_5_27) (by decide) (by decide) k) ?_
            show own_G p.tables e below s _ _ _ (s₁.setTop (mkF m 7 #[.val (.ref a1), .val (.ref a1), .val (.int (5 : Int32)), .val (.int (5 : Int32)), .val (.int c4)] []))
            refine own_go (fun t k => XS.iloadN X0.here hx rfl (hb hby d1_5_7) rfl k) ?_
            show own_G p.tables e below s _ _ _ (s₁.setTop (mkF m 8 #[.val (.ref a1), .val (.ref a1), .val (.int (5 : Int32)), .val (.int (5 : Int32)), .val (.int c4)] [(.int (5 : Int32))]))
            refine own_go (fun t k => XS.iloadN X0.here hx rfl (hb hby d1_5_8) rfl k) ?_
            show own_G p.tables e below s _ _ _ (s₁.setTop (mkF m 9 #[.val (.ref a1), .val (.ref a1), .val (.int (5 : Int32)), .val (.int (5 : Int32)), .val (.int c4)] [(.int (5 : Int32)), (.int (5 : Int32))]))
            refine own_go (fun t k => XS.icmpYes X0.here hx rfl (pc0 := 9) (pc' := 30) rfl (hb hby d1_5_9) rfl (by decide) (by decide) (by decide) k) ?_
            show own_G p.tables e below s _ _ _ (s₁.setTop (mkF m 30 #[.val (.ref a1), .val (.ref a1), .val (.int (5 : Int32)), .val (.int (5 : Int32)), .val (.int c4)] []))
            refine own_go (fun t k => XS.iconst X0.here hx rfl (hb hby d1_5_30) k) ?_
            show own_G p.tables e below s _ _ _ (s₁.setTop (mkF m 31 #[.val (.ref a1), .val (.ref a1), .val (.int (5 : Int32)), .val (.int (5 : Int32)), .val (.int c4)] [(.int (1 : Int32))]))
            exact own_retN X0 hx hlk (t := .boolean) (z' := (1 : Int32)) Bd.returns (by simp) (hb hby d1_5_31) (rfl) (by rw [e0]; exact ⟨by rw [← hr, if_neg (fun q => q.elim hn0 (fun q => q.elim hn1 (fun q => q.elim hn2 (fun q => q.elim hn3 hn4))))], N0, rfl⟩) (by decide) (by decide)
theorem d1_6_0 : decode prog_92_method_13_code 0 = .ok (.aload_n 0, 1) := by decide +kernel
theorem d1_6_1 : decode prog_92_method_13_code 1 = .ok (.astore_n 1, 1) := by decide +kernel
theorem d1_6_2 : decode prog_92_method_13_code 2 = .ok (.aload_n 1, 1) := by decide +kernel
theorem d1_6_3 : decode prog_92_method_13_code 3 = .ok (.arraylength, 1) := by decide +kernel
theorem d1_6_4 : decode prog_92_method_13_code 4 = .ok (.istore_n 2, 1) := by decide +kernel
theorem d1_6_5 : decode prog_92_method_13_code 5 = .ok (.iconst 0, 1) := by decide +kernel
theorem d1_6_6 : decode prog_92_method_13_code 6 = .ok (.istore_n 3, 1) := by decide +kernel
theorem d1_6_7 : decode prog_92_method_13_code 7 = .ok (.iload_n 3, 1) := by decide +kernel
theorem d1_6_8 : decode prog_92_method_13_code 8 = .ok (.iload_n 2, 1) := by decide +kernel
theorem d1_6_9 : decode prog_92_method_13_code 9 = .ok (.if_icmp .ge 21, 3) := by decide +kernel
theorem d1_6_12 : decode prog_92_method_13_code 12 = .ok (.aload_n 1, 1) := by decide +kernel
theorem d1_6_13 : decode prog_92_method_13_code 13 = .ok (.iload_n 3, 1) := by decide +kernel
theorem d1_6_14 : decode prog_92_method_13_code 14 = .ok (.baload, 1) := by decide +kernel
theorem d1_6_15 : decode prog_92_method_13_code 15 = .ok (.istore 4, 2) := by decide +kernel
theorem d1_6_17 : decode prog_92_method_13_code 17 = .ok (.iload 4, 2) := by decide +kernel
theorem d1_6_19 : decode prog_92_method_13_code 19 = .ok (.ifCond .ge 5, 3) := by decide +kernel
theorem d1_6_22 : decode prog_92_method_13_code 22 = .ok (.iconst 0, 1) := by decide +kernel
theorem d1_6_23 : decode prog_92_method_13_code 23 = .ok (.ireturn, 1) := by decide +kernel
theorem d1_6_24 : decode prog_92_method_13_code 24 = .ok (.iinc 3 1, 3) := by decide +kernel
theorem d1_6_27 : decode prog_92_method_13_code 27 = .ok (.goto (-20), 3) := by decide +kernel
theorem d1_6_30 : decode prog_92_method_13_code 30 = .ok (.iconst 1, 1) := by decide +kernel
theorem d1_6_31 : decode prog_92_method_13_code 31 = .ok (.ireturn, 1) := by decide +kernel
theorem ef_1_6 (m : MethodId) (x0 : Addr) : entryFrame m #[(.ref x0)] 5 = mkF m 0 #[.val (.ref x0), .unset, .unset, .unset, .unset] [] := by first | (simp [entryFrame, mkF, argsToLocals, Value.category]; done) | rfl
def Q1_6 (Z : State) (a1 : Addr) (k1 : ClassId) (c0 c1 c2 c3 c4 c5 r : Int32) (h0 : Heap) (n0 : Nat) (v : Option Value) (h : Heap) (L : List Loc) : Prop := v = some (.int r) ∧ Fr n0 L ∧ h = h0
set_option maxRecDepth 65536 in
set_option maxHeartbeats 40000000 in
theorem rm1_6 (l : Launch) (Z : State) (a0 : Array Value) (hw : ∀ d ∈ tables_1, d.before a0 Z = true) (ws : List Jvm.Cond) (a1 : Addr) (k1 : ClassId) (c0 c1 c2 c3 c4 c5 r : Int32) (h0 : Heap) (n0 : Nat) (Z0 : n0 ≤ h0.size) (V1 : Arv Z h0 a1 k1 .byte (6 : Int32) [(.int c0), (.int c1), (.int c2), (.int c3), (.int c4), (.int c5)] (.int (0 : Int32))) (hr : (if c0 < (0 : Int32) ∨ c1 < (0 : Int32) ∨ c2 < (0 : Int32) ∨ c3 < (0 : Int32) ∨ c4 < (0 : Int32) ∨ c5 < (0 : Int32) then (0 : Int32) else 1) = r) :
    MetFree l (⟨"com/example/cartulary/cartulary/model/Syntax", "isAscii", "([B)Z"⟩ : MethodName) (head1 (Jvm.Cond.code (⟨"com/example/cartulary/cartulary/model/Syntax", "isAscii", "([B)Z"⟩ : MethodName) prog_92_method_13_code 5 (some .boolean) :: ws) ({ frames := 0, cells := 0, slots := 0, locals := 0 } : Room)) (fun a U => a = #[(.ref a1)] ∧ Z.Warmed39 U.vm ∧ U.heap = h0) (fun _ _ _ _ _ => True) (fun _ U o U' => ∃ v L, o = .returned v ∧ Q1_6 Z a1 k1 c0 c1 c2 c3 c4 c5 r h0 n0 v U'.heap L ∧ FrameEnd U o U' L ({ frames := 0, cells := 0, slots := 0, locals := 0 } : Room).cells ({ frames := 0, cells := 0, slots := 0, locals := 0 } : Room).slots) := by
  refine MetFree.of_bodySF (plainFor_of_name pn_com_example_cartulary_cartulary_model_Syntax) hisR ?_
  intro p e s m args below meth c s₁ Bd hml0 hP hK
  obtain ⟨rfl, hZ, hh⟩ := hP
  have hx := Bd.exec
  have hby := Bd.bytes
  have hlk : meth.locks = false := BodyLoose.notSynchronized Bd
  have hml : c.maxLocals = 5 := hml0
  have hown : s.vm.findClass "com/example/cartulary/cartulary/model/Syntax" = some m.cls := findClass_of_methodNamed Bd.named
  have hnm := (name_of_methodNamed Bd.named Bd.method).1
  have X0 : Stand p l e ({ frames := 0, cells := 0, slots := 0, locals := 0 } : Room) s m #[(.ref a1)] below meth c s₁ [] 0 0 := Stand.of_body Bd
  have e0 : s₁.heap = h0 := by rw [← hh, Bd.state]; rfl
  have N0 := Fr.nil n0
  show own_G p.tables e below s (Q1_6 Z a1 k1 c0 c1 c2 c3 c4 c5 r h0 n0) ({ frames := 0, cells := 0, slots := 0, locals := 0 } : Room).cells ({ frames := 0, cells := 0, slots := 0, locals := 0 } : Room).slots (s₁.setTop (entryFrame m #[(.ref a1)] 5))
  refine own_go (fun t k => castTop (ef_1_6 m a1) k) ?_
  show own_G p.tables e below s _ _ _ (s₁.setTop (mkF m 0 #[.val (.ref a1), .unset, .unset, .unset, .unset] []))
  refine own_go (fun t k => XS.aloadN X0.here hx rfl (hb hby d1_6_0) rfl rfl k) ?_
  show own_G p.tables e below s _ _ _ (s₁.setTop (mkF m 1 #[.val (.ref a1), .unset, .unset, .unset, .unset] [(.ref a1)]))
  refine own_go (fun t k => XS.astoreN X0.here hx rfl (hb hby d1_6_1) rfl rfl (l' := #[.val (.ref a1), .val (.ref a1), .unset, .unset, .unset]) rfl k) ?_
  show own_G p.tables e below s _ _ _ (s₁.setTop (mkF m 2 #[.val (.ref a1), .val (.ref a1), .unset, .unset, .unset] []))
  refine own_go (fun t k => XS.aloadN X0.here hx rfl (hb hby d1_6_2) rfl rfl k) ?_
  show own_G p.tables e below s _ _ _ (s₁.setTop (mkF m 3 #[.val (.ref a1), .val (.ref a1), .unset, .unset, .unset] [(.ref a1)]))
  obtain ⟨cl22, Ar22, q22, S22, NN22, HH22, GG22⟩ := id V1
  have hlen22 := len_of S22 NN22
  refine own_go (A := s₁.setTop (mkF m 4 #[.val (.ref a1), .val (.ref a1), .unset, .unset, .unset] [(.int (6 : Int32))])) (fun t k => X0.arraylength hx (by rw [e0]; exact Ar22.1) (State.isArrayOf_alike hZ.alike Ar22.2.1) (g := (mkF m 3 #[.val (.ref a1), .val (.ref a1), .unset, .unset, .unset] [(.ref a1)])) rfl rfl (hb hby d1_6_3) _ (by rw [hlen22]; exact k)) ?_
  show own_G p.tables e below s _ _ _ (s₁.setTop (mkF m 4 #[.val (.ref a1), .val (.ref a1), .unset, .unset, .unset] [(.int (6 : Int32))]))
  refine own_go (fun t k => XS.istoreN X0.here hx rfl (hb hby d1_6_4) rfl (l' := #[.val (.ref a1), .val (.ref a1), .val (.int (6 : Int32)), .unset, .unset]) rfl k) ?_
  show own_G p.tables e below s _ _ _ (s₁.setTop (mkF m 5 #[.val (.ref a1), .val (.ref a1), .val (.int (6 : Int32)), .unset, .unset] []))
  refine own_go (fun t k => XS.iconst X0.here hx rfl (hb hby d1_6_5) k) ?_
  show own_G p.tables e below s _ _ _ (s₁.setTop (mkF m 6 #[.val (.ref a1), .val (.ref a1), .val (.int (6 : Int32)), .unset, .unset] [(.int (0 : Int32))]))
  refine own_go (fun t k => XS.istoreN X0.here hx rfl (hb hby d1_6_6) rfl (l' := #[.val (.ref a1), .val (.ref a1), .val (.int (6 : Int32)), .val (.int (0 : Int32)), .unset]) rfl k) ?_
  show own_G p.tables e below s _ _ _ (s₁.setTop (mkF m 7 #[.val (.ref a1), .val (.ref a1), .val (.int (6 : Int32)), .val (.int (0 : Int32)), .unset] []))
  refine own_go (fun t k => XS.iloadN X0.here hx rfl (hb hby d1_6_7) rfl k) ?_
  show own_G p.tables e below s _ _ _ (s₁.setTop (mkF m 8 #[.val (.ref a1), .val (.ref a1), .val (.int (6 : Int32)), .val (.int (0 : Int32)), .unset] [(.int (0 : Int32))]))
  refine own_go (fun t k => XS.iloadN X0.here hx rfl (hb hby d1_6_8) rfl k) ?_
  show own_G p.tables e below s _ _ _ (s₁.setTop (mkF m 9 #[.val (.ref a1), .val (.ref a1), .val (.int (6 : Int32)), .val (.int (0 : Int32)), .unset] [(.int (6 : Int32)), (.int (0 : Int32))]))
  refine own_go (fun t k => XS.icmpNo X0.here hx rfl (hb hby d1_6_9) rfl (by decide) k) ?_
  show own_G p.tables e below s _ _ _ (s₁.setTop (mkF m 12 #[.val (.ref a1), .val (.ref a1), .val (.int (6 : Int32)), .val (.int (0 : Int32)), .unset] []))
  refine own_go (fun t k => XS.aloadN X0.here hx rfl (hb hby d1_6_12) rfl rfl k) ?_
  show own_G p.tables e below s _ _ _ (s₁.setTop (mkF m 13 #[.val (.ref a1), .val (.ref a1), .val (.int (6 : Int32)), .val (.int (0 : Int32)), .unset] [(.ref a1)]))
  refine own_go (fun t k => XS.iloadN X0.here hx rfl (hb hby d1_6_13) rfl k) ?_
  show own_G p.tables e below s _ _ _ (s₁.setTop (mkF m 14 #[.val (.ref a1), .val (.ref a1), .val (.int (6 : Int32)), .val (.int (0 : Int32)), .unset] [(.int (0 : Int32)), (.ref a1)]))
  obtain ⟨cl23, Ar23, q23, S23, NN23, HH23, GG23⟩ := id V1
  have hin23 : ¬ ((0 : Int32) < 0 ∨ cl23.slots.size ≤ ((0 : Int32)).toNatClampNeg) := inb_of S23 ⟨by decide, by decide⟩
  have hat23 : cl23.slots[((0 : Int32)).toNatClampNeg]? = some (.int c0) := Has.at HH23 hin23 rfl
  refine own_go (fun t k => X0.baloadBytes hx (j := (0 : Int32)) (v := (.int c0)) (by rw [e0]; exact Ar23.1) (State.isArrayOf_alike hZ.alike Ar23.2.1) Ar23.2.2 hin23 hat23 (g := (mkF m 14 #[.val (.ref a1), .val (.ref a1), .val (.int (6 : Int32)), .val (.int (0 : Int32)), .unset] [(.int (0 : Int32)), (.ref a1)])) rfl rfl (hb hby d1_6_14) _ k) ?_
  show own_G p.tables e below s _ _ _ (s₁.setTop (mkF m 15 #[.val (.ref a1), .val (.ref a1), .val (.int (6 : Int32)), .val (.int (0 : Int32)), .unset] [(.int c0)]))
  refine own_go (fun t k => XS.istore X0.here hx rfl (hb hby d1_6_15) rfl (l' := #[.val (.ref a1), .val (.ref a1), .val (.int (6 : Int32)), .val (.int (0 : Int32)), .val (.int c0)]) rfl k) ?_
  show own_G p.tables e below s _ _ _ (s₁.setTop (mkF m 17 #[.val (.ref a1), .val (.ref a1), .val (.int (6 : Int32)), .val (.int (0 : Int32)), .val (.int c0)] []))
  refine own_go (fun t k => XS.iload X0.here hx rfl (hb hby d1_6_17) rfl k) ?_
  show own_G p.tables e below s _ _ _ (s₁.setTop (mkF m 19 #[.val (.ref a1), .val (.ref a1), .val (.int (6 : Int32)), .val (.int (0 : Int32)), .val (.int c0)] [(.int c0)]))
  by_cases hn0 : c0 < (0 : Int32)
  · refine own_go (fun t k => XS.ifNo X0.here hx rfl (hb hby d1_6_19) rfl (Jvm.Free.XT.i0_ge_f hn0) k) ?_
    show own_G p.tables e below s _ _ _ (s₁.setTop (mkF m 22 #[.val (.ref a1), .val (.ref a1), .val (.int (6 : Int32)), .val (.int (0 : Int32)), .val (.int c0)] []))
    refine own_go (fun t k => XS.iconst X0.here hx rfl (hb hby d1_6_22) k) ?_
    show own_G p.tables e below s _ _ _ (s₁.setTop (mkF m 23 #[.val (.ref a1), .val (.ref a1), .val (.int (6 : Int32)), .val (.int (0 : Int32)), .val (.int c0)] [(.int (0 : Int32))]))
    exact own_retN X0 hx hlk (t := .boolean) (z' := (0 : Int32)) Bd.returns (by simp) (hb hby d1_6_23) (rfl) (by rw [e0]; exact ⟨by rw [← hr, if_pos (Or.inl hn0)], N0, rfl⟩) (by decide) (by decide)
  · refine own_go (fun t k => XS.ifYes X0.here hx rfl (pc0 := 19) (pc' := 24) rfl (hb hby d1_6_19) rfl (Jvm.Free.XT.i0_ge_t hn0) (by decide) (by decide) k) ?_
    show own_G p.tables e below s _ _ _ (s₁.setTop (mkF m 24 #[.val (.ref a1), .val (.ref a1), .val (.int (6 : Int32)), .val (.int (0 : Int32)), .val (.int c0)] []))
    refine own_go (fun t k => XS.iinc X0.here hx rfl (hb hby d1_6_24) rfl (l' := #[.val (.ref a1), .val (.ref a1), .val (.int (6 : Int32)), .val (.int (1 : Int32)), .val (.int c0)]) rfl k) ?_
    show own_G p.tables e below s _ _ _ (s₁.setTop (mkF m 27 #[.val (.ref a1), .val (.ref a1), .val (.int (6 : Int32)), .val (.int (1 : Int32)), .val (.int c0)] []))
    refine own_go (fun t k => XS.goto X0.here hx rfl (pc0 := 27) (pc' := 7) rfl (hb hby d1_6_27) (by decide) (by decide) k) ?_
    show own_G p.tables e below s _ _ _ (s₁.setTop (mkF m 7 #[.val (.ref a1), .val (.ref a1), .val (.int (6 : Int32)), .val (.int (1 : Int32)), .val (.int c0)] []))
    refine own_go (fun t k => XS.iloadN X0.here hx rfl (hb hby d1_6_7) rfl k) ?_
    show own_G p.tables e below s _ _ _ (s₁.setTop (mkF m 8 #[.val (.ref a1), .val (.ref a1), .val (.int (6 : Int32)), .val (.int (1 : Int32)), .val (.int c0)] [(.int (1 : Int32))]))
    refine own_go (fun t k => XS.iloadN X0.here hx rfl (hb hby d1_6_8) rfl k) ?_
    show own_G p.tables e below s _ _ _ (s₁.setTop (mkF m 9 #[.val (.ref a1), .val (.ref a1), .val (.int (6 : Int32)), .val (.int (1 : Int32)), .val (.int c0)] [(.int (6 : Int32)), (.int (1 : Int32))]))
    refine own_go (fun t k => XS.icmpNo X0.here hx rfl (hb hby d1_6_9) rfl (by decide) k) ?_
    show own_G p.tables e below s _ _ _ (s₁.setTop (mkF m 12 #[.val (.ref a1), .val (.ref a1), .val (.int (6 : Int32)), .val (.int (1 : Int32)), .val (.int c0)] []))
    refine own_go (fun t k => XS.aloadN X0.here hx rfl (hb hby d1_6_12) rfl rfl k) ?_
    show own_G p.tables e below s _ _ _ (s₁.setTop (mkF m 13 #[.val (.ref a1), .val (.ref a1), .val (.int (6 : Int32)), .val (.int (1 : Int32)), .val (.int c0)] [(.ref a1)]))
    refine own_go (fun t k => XS.iloadN X0.here hx rfl (hb hby d1_6_13) rfl k) ?_
    show own_G p.tables e below s _ _ _ (s₁.setTop (mkF m 14 #[.val (.ref a1), .val (.ref a1), .val (.int (6 : Int32)), .val (.int (1 : Int32)), .val (.int c0)] [(.int (1 : Int32)), (.ref a1)]))
    obtain ⟨cl24, Ar24, q24, S24, NN24, HH24, GG24⟩ := id V1
    have hin24 : ¬ ((1 : Int32) < 0 ∨ cl24.slots.size ≤ ((1 : Int32)).toNatClampNeg) := inb_of S24 ⟨by decide, by decide⟩
    have hat24 : cl24.slots[((1 : Int32)).toNatClampNeg]? = some (.int c1) := Has.at HH24 hin24 rfl
    refine own_go (fun t k => X0.baloadBytes hx (j := (1 : Int32)) (v := (.int c1)) (by rw [e0]; exact Ar24.1) (State.isArrayOf_alike hZ.alike Ar24.2.1) Ar24.2.2 hin24 hat24 (g := (mkF m 14 #[.val (.ref a1), .val (.ref a1), .val (.int (6 : Int32)), .val (.int (1 : Int32)), .val (.int c0)] [(.int (1 : Int32)), (.ref a1)])) rfl rfl (hb hby d1_6_14) _ k) ?_
    show own_G p.tables e below s _ _ _ (s₁.setTop (mkF m 15 #[.val (.ref a1), .val (.ref a1), .val (.int (6 : Int32)), .val (.int (1 : Int32)), .val (.int c0)] [(.int c1)]))
    refine own_go (fun t k => XS.istore X0.here hx rfl (hb hby d1_6_15) rfl (l' := #[.val (.ref a1), .val (.ref a1), .val (.int (6 : Int32)), .val (.int (1 : Int32)), .val (.int c1)]) rfl k) ?_
    show own_G p.tables e below s _ _ _ (s₁.setTop (mkF m 17 #[.val (.ref a1), .val (.ref a1), .val (.int (6 : Int32)), .val (.int (1 : Int32)), .val (.int c1)] []))
    refine own_go (fun t k => XS.iload X0.here hx rfl (hb hby d1_6_17) rfl k) ?_
    show own_G p.tables e below s _ _ _ (s₁.setTop (mkF m 19 #[.val (.ref a1), .val (.ref a1), .val (.int (6 : Int32)), .val (.int (1 : Int32)), .val (.int c1)] [(.int c1)]))
    by_cases hn1 : c1 < (0 : Int32)
    · refine own_go (fun t k => XS.ifNo X0.here hx rfl (hb hby d1_6_19) rfl (Jvm.Free.XT.i0_ge_f hn1) k) ?_
      show own_G p.tables e below s _ _ _ (s₁.setTop (mkF m 22 #[.val (.ref a1), .val (.ref a1), .val (.int (6 : Int32)), .val (.int (1 : Int32)), .val (.int c1)] []))
      refine own_go (fun t k => XS.iconst X0.here hx rfl (hb hby d1_6_22) k) ?_
      show own_G p.tables e below s _ _ _ (s₁.setTop (mkF m 23 #[.val (.ref a1), .val (.ref a1), .val (.int (6 : Int32)), .val (.int (1 : Int32)), .val (.int c1)] [(.int (0 : Int32))]))
      exact own_retN X0 hx hlk (t := .boolean) (z' := (0 : Int32)) Bd.returns (by simp) (hb hby d1_6_23) (rfl) (by rw [e0]; exact ⟨by rw [← hr, if_pos (Or.inr (Or.inl hn1))], N0, rfl⟩) (by decide) (by decide)
    · refine own_go (fun t k => XS.ifYes X0.here hx rfl (pc0 := 19) (pc' := 24) rfl (hb hby d1_6_19) rfl (Jvm.Free.XT.i0_ge_t hn1) (by decide) (by decide) k) ?_
      show own_G p.tables e below s _ _ _ (s₁.setTop (mkF m 24 #[.val (.ref a1), .val (.ref a1), .val (.int (6 : Int32)), .val (.int (1 : Int32)), .val (.int c1)] []))
      refine own_go (fun t k => XS.iinc X0.here hx rfl (hb hby d1_6_24) rfl (l' := #[.val (.ref a1), .val (.ref a1), .val (.int (6 : Int32)), .val (.int (2 : Int32)), .val (.int c1)]) rfl k) ?_
      show own_G p.tables e below s _ _ _ (s₁.setTop (mkF m 27 #[.val (.ref a1), .val (.ref a1), .val (.int (6 : Int32)), .val (.int (2 : Int32)), .val (.int c1)] []))
      refine own_go (fun t k => XS.goto X0.here hx rfl (pc0 := 27) (pc' := 7) rfl (hb hby d1_6_27) (by decide) (by decide) k) ?_
      show own_G p.tables e below s _ _ _ (s₁.setTop (mkF m 7 #[.val (.ref a1), .val (.ref a1), .val (.int (6 : Int32)), .val (.int (2 : Int32)), .val (.int c1)] []))
      refine own_go (fun t k => XS.iloadN X0.here hx rfl (hb hby d1_6_7) rfl k) ?_
      show own_G p.tables e below s _ _ _ (s₁.setTop (mkF m 8 #[.val (.ref a1), .val (.ref a1), .val (.int (6 : Int32)), .val (.int (2 : Int32)), .val (.int c1)] [(.int (2 : Int32))]))
      refine own_go (fun t k => XS.iloadN X0.here hx rfl (hb hby d1_6_8) rfl k) ?_
      show own_G p.tables e below s _ _ _ (s₁.setTop (mkF m 9 #[.val (.ref a1), .val (.ref a1), .val (.int (6 : Int32)), .val (.int (2 : Int32)), .val (.int c1)] [(.int (6 : Int32)), (.int (2 : Int32))]))
      refine own_go (fun t k => XS.icmpNo X0.here hx rfl (hb hby d1_6_9) rfl (by decide) k) ?_
      show own_G p.tables e below s _ _ _ (s₁.setTop (mkF m 12 #[.val (.ref a1), .val (.ref a1), .val (.int (6 : Int32)), .val (.int (2 : Int32)), .val (.int c1)] []))
      refine own_go (fun t k => XS.aloadN X0.here hx rfl (hb hby d1_6_12) rfl rfl k) ?_
      show own_G p.tables e below s _ _ _ (s₁.setTop (mkF m 13 #[.val (.ref a1), .val (.ref a1), .val (.int (6 : Int32)), .val (.int (2 : Int32)), .val (.int c1)] [(.ref a1)]))
      refine own_go (fun t k => XS.iloadN X0.here hx rfl (hb hby d1_6_13) rfl k) ?_
      show own_G p.tables e below s _ _ _ (s₁.setTop (mkF m 14 #[.val (.ref a1), .val (.ref a1), .val (.int (6 : Int32)), .val (.int (2 : Int32)), .val (.int c1)] [(.int (2 : Int32)), (.ref a1)]))
      obtain ⟨cl25, Ar25, q25, S25, NN25, HH25, GG25⟩ := id V1
      have hin25 : ¬ ((2 : Int32) < 0 ∨ cl25.slots.size ≤ ((2 : Int32)).toNatClampNeg) := inb_of S25 ⟨by decide, by decide⟩
      have hat25 : cl25.slots[((2 : Int32)).toNatClampNeg]? = some (.int c2) := Has.at HH25 hin25 rfl
      refine own_go (fun t k => X0.baloadBytes hx (j := (2 : Int32)) (v := (.int c2)) (by rw [e0]; exact Ar25.1) (State.isArrayOf_alike hZ.alike Ar25.2.1) Ar25.2.2 hin25 hat25 (g := (mkF m 14 #[.val (.ref a1), .val (.ref a1), .val (.int (6 : Int32)), .val (.int (2 : Int32)), .val (.int c1)] [(.int (2 : Int32)), (.ref a1)])) rfl rfl (hb hby d1_6_14) _ k) ?_
      show own_G p.tables e below s _ _ _ (s₁.setTop (mkF m 15 #[.val (.ref a1), .val (.ref a1), .val (.int (6 : Int32)), .val (.int (2 : Int32)), .val (.int c1)] [(.int c2)]))
      refine own_go (fun t k => XS.istore X0.here hx rfl (hb hby d1_6_15) rfl (l' := #[.val (.ref a1), .val (.ref a1), .val (.int (6 : Int32)), .val (.int (2 : Int32)), .val (.int c2)]) rfl k) ?_
      show own_G p.tables e below s _ _ _ (s₁.setTop (mkF m 17 #[.val (.ref a1), .val (.ref a1), .val (.int (6 : Int32)), .val (.int (2 : Int32)), .val (.int c2)] []))
      refine own_go (fun t k => XS.iload X0.here hx rfl (hb hby d1_6_17) rfl k) ?_
      show own_G p.tables e below s _ _ _ (s₁.setTop (mkF m 19 #[.val (.ref a1), .val (.ref a1), .val (.int (6 : Int32)), .val (.int (2 : Int32)), .val (.int c2)] [(.int c2)]))
      by_cases hn2 : c2 < (0 : Int32)
      · refine own_go (fun t k => XS.ifNo X0.here hx rfl (hb hby d1_6_19) rfl (Jvm.Free.XT.i0_ge_f hn2) k) ?_
        show own_G p.tables e below s _ _ _ (s₁.setTop (mkF m 22 #[.val (.ref a1), .val (.ref a1), .val (.int (6 : Int32)), .val (.int (2 : Int32)), .val (.int c2)] []))
        refine own_go (fun t k => XS.iconst X0.here hx rfl (hb hby d1_6_22) k) ?_
        show own_G p.tables e below s _ _ _ (s₁.setTop (mkF m 23 #[.val (.ref a1), .val (.ref a1), .val (.int (6 : Int32)), .val (.int (2 : Int32)), .val (.int c2)] [(.int (0 : Int32))]))
        exact own_retN X0 hx hlk (t := .boolean) (z' := (0 : Int32)) Bd.returns (by simp) (hb hby d1_6_23) (rfl) (by rw [e0]; exact ⟨by rw [← hr, if_pos (Or.inr (Or.inr (Or.inl hn2)))], N0, rfl⟩) (by decide) (by decide)
      · refine own_go (fun t k => XS.ifYes X0.here hx rfl (pc0 := 19) (pc' := 24) rfl (hb hby d1_6_19) rfl (Jvm.Free.XT.i0_ge_t hn2) (by decide) (by decide) k) ?_
        show own_G p.tables e below s _ _ _ (s₁.setTop (mkF m 24 #[.val (.ref a1), .val (.ref a1), .val (.int (6 : Int32)), .val (.int (2 : Int32)), .val (.int c2)] []))
        refine own_go (fun t k => XS.iinc X0.here hx rfl (hb hby d1_6_24) rfl (l' := #[.val (.ref a1), .val (.ref a1), .val (.int (6 : Int32)), .val (.int (3 : Int32)), .val (.int c2)]) rfl k) ?_
        show own_G p.tables e below s _ _ _ (s₁.setTop (mkF m 27 #[.val (.ref a1), .val (.ref a1), .val (.int (6 : Int32)), .val (.int (3 : Int32)), .val (.int c2)] []))
        refine own_go (fun t k => XS.goto X0.here hx rfl (pc0 := 27) (pc' := 7) rfl (hb hby d1_6_27) (by decide) (by decide) k) ?_
        show own_G p.tables e below s _ _ _ (s₁.setTop (mkF m 7 #[.val (.ref a1), .val (.ref a1), .val (.int (6 : Int32)), .val (.int (3 : Int32)), .val (.int c2)] []))
        refine own_go (fun t k => XS.iloadN X0.here hx rfl (hb hby d1_6_7) rfl k) ?_
        show own_G p.tables e below s _ _ _ (s₁.setTop (mkF m 8 #[.val (.ref a1), .val (.ref a1), .val (.int (6 : Int32)), .val (.int (3 : Int32)), .val (.int c2)] [(.int (3 : Int32))]))
        refine own_go (fun t k => XS.iloadN X0.here hx rfl (hb hby d1_6_8) rfl k) ?_
        show own_G p.tables e below s _ _ _ (s₁.setTop (mkF m 9 #[.val (.ref a1), .val (.ref a1), .val (.int (6 : Int32)), .val (.int (3 : Int32)), .val (.int c2)] [(.int (6 : Int32)), (.int (3 : Int32))]))
        refine own_go (fun t k => XS.icmpNo X0.here hx rfl (hb hby d1_6_9) rfl (by decide) k) ?_
        show own_G p.tables e below s _ _ _ (s₁.setTop (mkF m 12 #[.val (.ref a1), .val (.ref a1), .val (.int (6 : Int32)), .val (.int (3 : Int32)), .val (.int c2)] []))
        refine own_go (fun t k => XS.aloadN X0.here hx rfl (hb hby d1_6_12) rfl rfl k) ?_
        show own_G p.tables e below s _ _ _ (s₁.setTop (mkF m 13 #[.val (.ref a1), .val (.ref a1), .val (.int (6 : Int32)), .val (.int (3 : Int32)), .val (.int c2)] [(.ref a1)]))
        refine own_go (fun t k => XS.iloadN X0.here hx rfl (hb hby d1_6_13) rfl k) ?_
        show own_G p.tables e below s _ _ _ (s₁.setTop (mkF m 14 #[.val (.ref a1), .val (.ref a1), .val (.int (6 : Int32)), .val (.int (3 : Int32)), .val (.int c2)] [(.int (3 : Int32)), (.ref a1)]))
        obtain ⟨cl26, Ar26, q26, S26, NN26, HH26, GG26⟩ := id V1
        have hin26 : ¬ ((3 : Int32) < 0 ∨ cl26.slots.size ≤ ((3 : Int32)).toNatClampNeg) := inb_of S26 ⟨by decide, by decide⟩
        have hat26 : cl26.slots[((3 : Int32)).toNatClampNeg]? = some (.int c3) := Has.at HH26 hin26 rfl
        refine own_go (fun t k => X0.baloadBytes hx (j := (3 : Int32)) (v := (.int c3)) (by rw [e0]; exact Ar26.1) (State.isArrayOf_alike hZ.alike Ar26.2.1) Ar26.2.2 hin26 hat26 (g := (mkF m 14 #[.val (.ref a1), .val (.ref a1), .val (.int (6 : Int32)), .val (.int (3 : Int32)), .val (.int c2)] [(.int (3 : Int32)), (.ref a1)])) rfl rfl (hb hby d1_6_14) _ k) ?_
        show own_G p.tables e below s _ _ _ (s₁.setTop (mkF m 15 #[.val (.ref a1), .val (.ref a1), .val (.int (6 : Int32)), .val (.int (3 : Int32)), .val (.int c2)] [(.int c3)]))
        refine own_go (fun t k => XS.istore X0.here hx rfl (hb hby d1_6_15) rfl (l' := #[.val (.ref a1), .val (.ref a1), .val (.int (6 : Int32)), .val (.int (3 : Int32)), .val (.int c3)]) rfl k) ?_
        show own_G p.tables e below s _ _ _ (s₁.setTop (mkF m 17 #[.val (.ref a1), .val (.ref a1), .val (.int (6 : Int32)), .val (.int (3 : Int32)), .val (.int c3)] []))
        refine own_go (fun t k => XS.iload X0.here hx rfl (hb hby d1_6_17) rfl k) ?_
        show own_G p.tables e below s _ _ _ (s₁.setTop (mkF m 19 #[.val (.ref a1), .val (.ref a1), .val (.int (6 : Int32)), .val (.int (3 : Int32)), .val (.int c3)] [(.int c3)]))
        by_cases hn3 : c3 < (0 : Int32)
        · refine own_go (fun t k => XS.ifNo X0.here hx rfl (hb hby d1_6_19) rfl (Jvm.Free.XT.i0_ge_f hn3) k) ?_
          show own_G p.tables e below s _ _ _ (s₁.setTop (mkF m 22 #[.val (.ref a1), .val (.ref a1), .val (.int (6 : Int32)), .val (.int (3 : Int32)), .val (.int c3)] []))
          refine own_go (fun t k => XS.iconst X0.here hx rfl (hb hby d1_6_22) k) ?_
          show own_G p.tables e below s _ _ _ (s₁.setTop (mkF m 23 #[.val (.ref a1), .val (.ref a1), .val (.int (6 : Int32)), .val (.int (3 : Int32)), .val (.int c3)] [(.int (0 : Int32))]))
          exact own_retN X0 hx hlk (t := .boolean) (z' := (0 : Int32)) Bd.returns (by simp) (hb hby d1_6_23) (rfl) (by rw [e0]; exact ⟨by rw [← hr, if_pos (Or.inr (Or.inr (Or.inr (Or.inl hn3))))], N0, rfl⟩) (by decide) (by decide)
        · refine own_go (fun t k => XS.ifYes X0.here hx rfl (pc0 := 19) (pc' := 24) rfl (hb hby d1_6_19) rfl (Jvm.Free.XT.i0_ge_t hn3) (by decide) (by decide) k) ?_
          show own_G p.tables e below s _ _ _ (s₁.setTop (mkF m 24 #[.val (.ref a1), .val (.ref a1), .val (.int (6 : Int32)), .val (.int (3 : Int32)), .val (.int c3)] []))
          refine own_go (fun t k => XS.iinc X0.here hx rfl (hb hby d1_6_24) rfl (l' := #[.val (.ref a1), .val (.ref a1), .val (.int (6 : Int32)), .val (.int (4 : Int32)), .val (.int c3)]) rfl k) ?_
          show own_G p.tables e below s _ _ _ (s₁.setTop (mkF m 27 #[.val (.ref a1), .val (.ref a1), .val (.int (6 : Int32)), .val (.int (4 : Int32)), .val (.int c3)] []))
          refine own_go (fun t k => XS.goto X0.here hx rfl (pc0 := 27) (pc' := 7) rfl (hb hby d1_6_27) (by decide) (by decide) k) ?_
          show own_G p.tables e below s _ _ _ (s₁.setTop (mkF m 7 #[.val (.ref a1), .val (.ref a1), .val (.int (6 : Int32)), .val (.int (4 : Int32)), .val (.int c3)] []))
          refine own_go (fun t k => XS.iloadN X0.here hx rfl (hb hby d1_6_7) rfl k) ?_
          show own_G p.tables e below s _ _ _ (s₁.setTop (mkF m 8 #[.val (.ref a1), .val (.ref a1), .val (.int (6 : Int32)), .val (.int (4 : Int32)), .val (.int c3)] [(.int (4 : Int32))]))
          refine own_go (fun t k => XS.iloadN X0.here hx rfl (hb hby d1_6_8) rfl k) ?_
          show own_G p.tables e below s _ _ _ (s₁.setTop (mkF m 9 #[.val (.ref a1), .val (.ref a1), .val (.int (6 : Int32)), .val (.int (4 : Int32)), .val (.int c3)] [(.int (6 : Int32)), (.int (4 : Int32))]))
          refine own_go (fun t k => XS.icmpNo X0.here hx rfl (hb hby d1_6_9) rfl (by decide) k) ?_
          show own_G p.tables e below s _ _ _ (s₁.setTop (mkF m 12 #[.val (.ref a1), .val (.ref a1), .val (.int (6 : Int32)), .val (.int (4 : Int32)), .val (.int c3)] []))
          refine own_go (fun t k => XS.aloadN X0.here hx rfl (hb hby d1_6_12) rfl rfl k) ?_
          show own_G p.tables e below s _ _ _ (s₁.setTop (mkF m 13 #[.val (.ref a1), .val (.ref a1), .val (.int (6 : Int32)), .val (.int (4 : Int32)), .val (.int c3)] [(.ref a1)]))
          refine own_go (fun t k => XS.iloadN X0.here hx rfl (hb hby d1_6_13) rfl k) ?_
          show own_G p.tables e below s _ _ _ (s₁.setTop (mkF m 14 #[.val (.ref a1), .val (.ref a1), .val (.int (6 : Int32)), .val (.int (4 : Int32)), .val (.int c3)] [(.int (4 : Int32)), (.ref a1)]))
          obtain ⟨cl27, Ar27, q27, S27, NN27, HH27, GG27⟩ := id V1
          have hin27 : ¬ ((4 : Int32) < 0 ∨ cl27.slots.size ≤ ((4 : Int32)).toNatClampNeg) := inb_of S27 ⟨by decide, by decide⟩
          have hat27 : cl27.slots[((4 : Int32)).toNatClampNeg]? = some (.int c4) := Has.at HH27 hin27 rfl
          refine own_go (fun t k => X0.baloadBytes hx (j := (4 : Int32)) (v := (.int c4)) (by rw [e0]; exact Ar27.1) (State.isArrayOf_alike hZ.alike Ar27.2.1) Ar27.2.2 hin27 hat27 (g := (mkF m 14 #[.val (.ref a1), .val (.ref a1), .val (.int (6 : Int32)), .val (.int (4 : Int32)), .val (.int c3)] [(.int (4 : Int32)), (.ref a1)])) rfl rfl (hb hby d1_6_14) _ k) ?_
          show own_G p.tables e below s _ _ _ (s₁.setTop (mkF m 15 #[.val (.ref a1), .val (.ref a1), .val (.int (6 : Int32)), .val (.int (4 : Int32)), .val (.int c3)] [(.int c4)]))
          refine own_go (fun t k => XS.istore X0.here hx rfl (hb hby d1_6_15) rfl (l' := #[.val (.ref a1), .val (.ref a1), .val (.int (6 : Int32)), .val (.int (4 : Int32)), .val (.int c4)]) rfl k) ?_
          show own_G p.tables e below s _ _ _ (s₁.setTop (mkF m 17 #[.val (.ref a1), .val (.ref a1), .val (.int (6 : Int32)), .val (.int (4 : Int32)), .val (.int c4)] []))
          refine own_go (fun t k => XS.iload X0.here hx rfl (hb hby d1_6_17) rfl k) ?_
          show own_G p.tables e below s _ _ _ (s₁.setTop (mkF m 19 #[.val (.ref a1), .val (.ref a1), .val (.int (6 : Int32)), .val (.int (4 : Int32)), .val (.int c4)] [(.int c4)]))
          by_cases hn4 : c4 < (0 : Int32)
          · refine own_go (fun t k => XS.ifNo X0.here hx rfl (hb hby d1_6_19) rfl (Jvm.Free.XT.i0_ge_f hn4) k) ?_
            show own_G p.tables e below s _ _ _ (s₁.setTop (mkF m 22 #[.val (.ref a1), .val (.ref a1), .val (.int (6 : Int32)), .val (.int (4 : Int32)), .val (.int c4)] []))
            refine own_go (fun t k => XS.iconst X0.here hx rfl (hb hby d1_6_22) k) ?_
            show own_G p.tables e below s _ _ _ (s₁.setTop (mkF m 23 #[.val (.ref a1), .val (.ref a1), .val (.int (6 : Int32)), .val (.int (4 : Int32)), .val (.int c4)] [(.int (0 : Int32))]))
            exact own_retN X0 hx hlk (t := .boolean) (z' := (0 : Int32)) Bd.returns (by simp) (hb hby d1_6_23) (rfl) (by rw [e0]; exact ⟨by rw [← hr, if_pos (Or.inr (Or.inr (Or.inr (Or.inr (Or.inl hn4)))))], N0, rfl⟩) (by decide) (by decide)
          · refine own_go (fun t k => XS.ifYes X0.here hx rfl (pc0 := 19) (pc' := 24) rfl (hb hby d1_6_19) rfl (Jvm.Free.XT.i0_ge_t hn4) (by decide) (by decide) k) ?_
            show own_G p.tables e below s _ _ _ (s₁.setTop (mkF m 24 #[.val (.ref a1), .val (.ref a1), .val (.int (6 : Int32)), .val (.int (4 : Int32)), .val (.int c4)] []))
            refine own_go (fun t k => XS.iinc X0.here hx rfl (hb hby d1_6_24) rfl (l' := #[.val (.ref a1), .val (.ref a1), .val (.int (6 : Int32)), .val (.int (5 : Int32)), .val (.int c4)]) rfl k) ?_
            show own_G p.tables e below s _ _ _ (s₁.setTop (mkF m 27 #[.val (.ref a1), .val (.ref a1), .val (.int (6 : Int32)), .val (.int (5 : Int32)), .val (.int c4)] []))
            refine own_go (fun t k => XS.goto X0.here hx rfl (pc0 := 27) (pc' := 7) rfl (hb hby d1_6_27) (by decide) (by decide) k) ?_
            show own_G p.tables e below s _ _ _ (s₁.setTop (mkF m 7 #[.val (.ref a1), .val (.ref a1), .val (.int (6 : Int32)), .val (.int (5 : Int32)), .val (.int c4)] []))
            refine own_go (fun t k => XS.iloadN X0.here hx rfl (hb hby d1_6_7) rfl k) ?_
            show own_G p.tables e below s _ _ _ (s₁.setTop (mkF m 8 #[.val (.ref a1), .val (.ref a1), .val (.int (6 : Int32)), .val (.int (5 : Int32)), .val (.int c4)] [(.int (5 : Int32))]))
            refine own_go (fun t k => XS.iloadN X0.here hx rfl (hb hby d1_6_8) rfl k) ?_
            show own_G p.tables e below s _ _ _ (s₁.setTop (mkF m 9 #[.val (.ref a1), .val (.ref a1), .val (.int (6 : Int32)), .val (.int (5 : Int32)), .val (.int c4)] [(.int (6 : Int32)), (.int (5 : Int32))]))
            refine own_go (fun t k => XS.icmpNo X0.here hx rfl (hb hby d1_6_9) rfl (by decide) k) ?_
            show own_G p.tables e below s _ _ _ (s₁.setTop (mkF m 12 #[.val (.ref a1), .val (.ref a1), .val (.int (6 : Int32)), .val (.int (5 : Int32)), .val (.int c4)] []))
            refine own_go (fun t k => XS.aloadN X0.here hx rfl (hb hby d1_6_12) rfl rfl k) ?_
            show own_G p.tables e below s _ _ _ (s₁.setTop (mkF m 13 #[.val (.ref a1), .val (.ref a1), .val (.int (6 : Int32)), .val (.int (5 : Int32)), .val (.int c4)] [(.ref a1)]))
            refine own_go (fun t k => XS.iloadN X0.here hx rfl (hb hby d1_6_13) rfl k) ?_
            show own_G p.tables e below s _ _ _ (s₁.setTop (mkF m 14 #[.val (.ref a1), .val (.ref a1), .val (.int (6 : Int32)), .val (.int (5 : Int32)), .val (.int c4)] [(.int (5 : Int32)), (.ref a1)]))
            obtain ⟨cl28, Ar28, q28, S28, NN28, HH28, GG28⟩ := id V1
            have hin28 : ¬ ((5 : Int32) < 0 ∨ cl28.slots.size ≤ ((5 : Int32)).toNatClampNeg) := inb_of S28 ⟨by decide, by decide⟩
            have hat28 : cl28.slots[((5 : Int32)).toNatClampNeg]? = some (.int c5) := Has.at HH28 hin28 rfl
            refine own_go (fun t k => X0.baloadBytes hx (j := (5 : Int32)) (v := (.int c5)) (by rw [e0]; exact Ar28.1) (State.isArrayOf_alike hZ.alike Ar28.2.1) Ar28.2.2 hin28 hat28 (g := (mkF m 14 #[.val (.ref a1), .val (.ref a1), .val (.int (6 : Int32)), .val (.int (5 : Int32)), .val (.int c4)] [(.int (5 : Int32)), (.ref a1)])) rfl rfl (hb hby d1_6_14) _ k) ?_
            show own_G p.tables e below s _ _ _ (s₁.setTop (mkF m 15 #[.val (.ref a1), .val (.ref a1), .val (.int (6 : Int32)), .val (.int (5 : Int32)), .val (.int c4)] [(.int c5)]))
            refine own_go (fun t k => XS.istore X0.here hx rfl (hb hby d1_6_15) rfl (l' := #[.val (.ref a1), .val (.ref a1), .val (.int (6 : Int32)), .val (.int (5 : Int32)), .val (.int c5)]) rfl k) ?_
            show own_G p.tables e below s _ _ _ (s₁.setTop (mkF m 17 #[.val (.ref a1), .val (.ref a1), .val (.int (6 : Int32)), .val (.int (5 : Int32)), .val (.int c5)] []))
            refine own_go (fun t k => XS.iload X0.here hx rfl (hb hby d1_6_17) rfl k) ?_
            show own_G p.tables e below s _ _ _ (s₁.setTop (mkF m 19 #[.val (.ref a1), .val (.ref a1), .val (.int (6 : Int32)), .val (.int (5 : Int32)), .val (.int c5)] [(.int c5)]))
            by_cases hn5 : c5 < (0 : Int32)
            · refine own_go (fun t k => XS.ifNo X0.here hx rfl (hb hby d1_6_19) rfl (Jvm.Free.XT.i0_ge_f hn5) k) ?_
              show own_G p.tables e below s _ _ _ (s₁.setTop (mkF m 22 #[.val (.ref a1), .val (.ref a1), .val (.int (6 : Int32)), .val (.int (5 : Int32)), .val (.int c5)] []))
              refine own_go (fun t k => XS.iconst X0.here hx rfl (hb hby d1_6_22) k) ?_
              show own_G p.tables e below s _ _ _ (s₁.setTop (mkF m 23 #[.val (.ref a1), .val (.ref a1), .val (.int (6 : Int32)), .val (.int (5 : Int32)), .val (.int c5)] [(.int (0 : Int32))]))
              exact own_retN X0 hx hlk (t := .boolean) (z' := (0 : Int32)) Bd.returns (by simp) (hb hby d1_6_23) (rfl) (by rw [e0]; exact ⟨by rw [← hr, if_pos (Or.inr (Or.inr (Or.inr (Or.inr (Or.inr (hn5))))))], N0, rfl⟩) (by decide) (by decide)
            · refine own_go (fun t k => XS.ifYes X0.here hx rfl (pc0 := 19) (pc' := 24) rfl (hb hby d1_6_19) rfl (Jvm.Free.XT.i0_ge_t hn5) (by decide) (by decide) k) ?_
              show own_G p.tables e below s _ _ _ (s₁.setTop (mkF m 24 #[.val (.ref a1), .val (.ref a1), .val (.int (6 : Int32)), .val (.int (5 : Int32)), .val (.int c5)] []))
              refine own_go (fun t k => XS.iinc X0.here hx rfl (hb hby d1_6_24) rfl (l' := #[.val (.ref a1), .val (.ref a1), .val (.int (6 : Int32)), .val (.int (6 : Int32)), .val (.int c5)]) rfl k) ?_
              show own_G p.tables e below s _ _ _ (s₁.setTop (mkF m 27 #[.val (.ref a1), .val (.ref a1), .val (.int (6 : Int32)), .val (.int (6 : Int32)), .val (.int c5)] []))
              refine own_go (fun t k => XS.goto X0.here hx rfl (pc0 := 27) (pc' := 7) rfl (hb hby d1_6_27) (by decide) (by decide) k) ?_
              show own_G p.tables e below s _ _ _ (s₁.setTop (mkF m 7 #[.val (.ref a1), .val (.ref a1), .val (.int (6 : Int32)), .val (.int (6 : Int32)), .val (.int c5)] []))
              refine own_go (fun t k => XS.iloadN X0.here hx rfl (hb hby d1_6_7) rfl k) ?_
              show own_G p.tables e below s _ _ _ (s₁.setTop (mkF m 8 #[.val (.ref a1), .val (.ref a1), .val (.int (6 : Int32)), .val (.int (6 : Int32)), .val (.int c5)] [(.int (6 : Int32))]))
              refine own_go (fun t k => XS.iloadN X0.here hx rfl (hb hby d1_6_8) rfl k) ?_
              show own_G p.tables e below s _ _ _ (s₁.setTop (mkF m 9 #[.val (.ref a1), .val (.ref a1), .val (.int (6 : Int32)), .val (.int (6 : Int32)), .val (.int c5)] [(.int (6 : Int32)), (.int (6 : Int32))]))
              refine own_go (fun t k => XS.icmpYes X0.here hx rfl (pc0 := 9) (pc' := 30) rfl (hb hby d1_6_9) rfl (by decide) (by decide) (by decide) k) ?_
              show own_G p.tables e below s _ _ _ (s₁.setTop (mkF m 30 #[.val (.ref a1), .val (.ref a1), .val (.int (6 : Int32)), .val (.int (6 : Int32)), .val (.int c5)] []))
              refine own_go (fun t k => XS.iconst X0.here hx rfl (hb hby d1_6_30) k) ?_
              show own_G p.tables e below s _ _ _ (s₁.setTop (mkF m 31 #[.val (.ref a1), .val (.ref a1), .val (.int (6 : Int32)), .val (.int (6 : Int32)), .val (.int c5)] [(.int (1 : Int32))]))
              exact own_retN X0 hx hlk (t := .boolean) (z' := (1 : Int32)) Bd.returns (by simp) (hb hby d1_6_31) (rfl) (by rw [e0]; exact ⟨by rw [← hr, if_neg (fun q => q.elim hn0 (fun q => q.elim hn1 (fun q => q.elim hn2 (fun q => q.elim hn3 (fun q => q.elim hn4 hn5)))))], N0, rfl⟩) (by decide) (by decide)
theorem d1_7_0 : decode prog_92_method_13_code 0 = .ok (.aload_n 0, 1) := by decide +kernel
theorem d1_7_1 : decode prog_92_method_13_code 1 = .ok (.astore_n 1, 1) := by decide +kernel
theorem d1_7_2 : decode prog_92_method_13_code 2 = .ok (.aload_n 1, 1) := by decide +kernel
theorem d1_7_3 : decode prog_92_method_13_code 3 = .ok (.arraylength, 1) := by decide +kernel
theorem d1_7_4 : decode prog_92_method_13_code 4 = .ok (.istore_n 2, 1) := by decide +kernel
theorem d1_7_5 : decode prog_92_method_13_code 5 = .ok (.iconst 0, 1) := by decide +kernel
theorem d1_7_6 : decode prog_92_method_13_code 6 = .ok (.istore_n 3, 1) := by decide +kernel
theorem d1_7_7 : decode prog_92_method_13_code 7 = .ok (.iload_n 3, 1) := by decide +kernel
theorem d1_7_8 : decode prog_92_method_13_code 8 = .ok (.iload_n 2, 1) := by decide +kernel
theorem d1_7_9 : decode prog_92_method_13_code 9 = .ok (.if_icmp .ge 21, 3) := by decide +kernel
theorem d1_7_12 : decode prog_92_method_13_code 12 = .ok (.aload_n 1, 1) := by decide +kernel
theorem d1_7_13 : decode prog_92_method_13_code 13 = .ok (.iload_n 3, 1) := by decide +kernel
theorem d1_7_14 : decode prog_92_method_13_code 14 = .ok (.baload, 1) := by decide +kernel
theorem d1_7_15 : decode prog_92_method_13_code 15 = .ok (.istore 4, 2) := by decide +kernel
theorem d1_7_17 : decode prog_92_method_13_code 17 = .ok (.iload 4, 2) := by decide +kernel
theorem d1_7_19 : decode prog_92_method_13_code 19 = .ok (.ifCond .ge 5, 3) := by decide +kernel
theorem d1_7_22 : decode prog_92_method_13_code 22 = .ok (.iconst 0, 1) := by decide +kernel
theorem d1_7_23 : decode prog_92_method_13_code 23 = .ok (.ireturn, 1) := by decide +kernel
theorem d1_7_24 : decode prog_92_method_13_code 24 = .ok (.iinc 3 1, 3) := by decide +kernel
theorem d1_7_27 : decode prog_92_method_13_code 27 = .ok (.goto (-20), 3) := by decide +kernel
theorem d1_7_30 : decode prog_92_method_13_code 30 = .ok (.iconst 1, 1) := by decide +kernel
theorem d1_7_31 : decode prog_92_method_13_code 31 = .ok (.ireturn, 1) := by decide +kernel
theorem ef_1_7 (m : MethodId) (x0 : Addr) : entryFrame m #[(.ref x0)] 5 = mkF m 0 #[.val (.ref x0), .unset, .unset, .unset, .unset] [] := by first | (simp [entryFrame, mkF, argsToLocals, Value.category]; done) | rfl
def Q1_7 (Z : State) (a1 : Addr) (k1 : ClassId) (c0 c1 c2 c3 c4 c5 c6 r : Int32) (h0 : Heap) (n0 : Nat) (v : Option Value) (h : Heap) (L : List Loc) : Prop := v = some (.int r) ∧ Fr n0 L ∧ h = h0
set_option maxRecDepth 65536 in
set_option maxHeartbeats 40000000 in
theorem rm1_7 (l : Launch) (Z : State) (a0 : Array Value) (hw : ∀ d ∈ tables_1, d.before a0 Z = true) (ws : List Jvm.Cond) (a1 : Addr) (k1 : ClassId) (c0 c1 c2 c3 c4 c5 c6 r : Int32) (h0 : Heap) (n0 : Nat) (Z0 : n0 ≤ h0.size) (V1 : Arv Z h0 a1 k1 .byte (7 : Int32) [(.int c0), (.int c1), (.int c2), (.int c3), (.int c4), (.int c5), (.int c6)] (.int (0 : Int32))) (hr : (if c0 < (0 : Int32) ∨ c1 < (0 : Int32) ∨ c2 < (0 : Int32) ∨ c3 < (0 : Int32) ∨ c4 < (0 : Int32) ∨ c5 < (0 : Int32) ∨ c6 < (0 : Int32) then (0 : Int32) else 1) = r) :
    MetFree l (⟨"com/example/cartulary/cartulary/model/Syntax", "isAscii", "([B)Z"⟩ : MethodName) (head1 (Jvm.Cond.code (⟨"com/example/cartulary/cartulary/model/Syntax", "isAscii", "([B)Z"⟩ : MethodName) prog_92_method_13_code 5 (some .boolean) :: ws) ({ frames := 0, cells := 0, slots := 0, locals := 0 } : Room)) (fun a U => a = #[(.ref a1)] ∧ Z.Warmed39 U.vm ∧ U.heap = h0) (fun _ _ _ _ _ => True) (fun _ U o U' => ∃ v L, o = .returned v ∧ Q1_7 Z a1 k1 c0 c1 c2 c3 c4 c5 c6 r h0 n0 v U'.heap L ∧ FrameEnd U o U' L ({ frames := 0, cells := 0, slots := 0, locals := 0 } : Room).cells ({ frames := 0, cells := 0, slots := 0, locals := 0 } : Room).slots) := by
  refine MetFree.of_bodySF (plainFor_of_name pn_com_example_cartulary_cartulary_model_Syntax) hisR ?_
  intro p e s m args below meth c s₁ Bd hml0 hP hK
  obtain ⟨rfl, hZ, hh⟩ := hP
  have hx := Bd.exec
  have hby := Bd.bytes
  have hlk : meth.locks = false := BodyLoose.notSynchronized Bd
  have hml : c.maxLocals = 5 := hml0
  have hown : s.vm.findClass "com/example/cartulary/cartulary/model/Syntax" = some m.cls := findClass_of_methodNamed Bd.named
  have hnm := (name_of_methodNamed Bd.named Bd.method).1
  have X0 : Stand p l e ({ frames := 0, cells := 0, slots := 0, locals := 0 } : Room) s m #[(.ref a1)] below meth c s₁ [] 0 0 := Stand.of_body Bd
  have e0 : s₁.heap = h0 := by rw [← hh, Bd.state]; rfl
  have N0 := Fr.nil n0
  show own_G p.tables e below s (Q1_7 Z a1 k1 c0 c1 c2 c3 c4 c5 c6 r h0 n0) ({ frames := 0, cells := 0, slots := 0, locals := 0 } : Room).cells ({ frames := 0, cells := 0, slots := 0, locals := 0 } : Room).slots (s₁.setTop (entryFrame m #[(.ref a1)] 5))
  refine own_go (fun t k => castTop (ef_1_7 m a1) k) ?_
  show own_G p.tables e below s _ _ _ (s₁.setTop (mkF m 0 #[.val (.ref a1), .unset, .unset, .unset, .unset] []))
  refine own_go (fun t k => XS.aloadN X0.here hx rfl (hb hby d1_7_0) rfl rfl k) ?_
  show own_G p.tables e below s _ _ _ (s₁.setTop (mkF m 1 #[.val (.ref a1), .unset, .unset, .unset, .unset] [(.ref a1)]))
  refine own_go (fun t k => XS.astoreN X0.here hx rfl (hb hby d1_7_1) rfl rfl (l' := #[.val (.ref a1), .val (.ref a1), .unset, .unset, .unset]) rfl k) ?_
  show own_G p.tables e below s _ _ _ (s₁.setTop (mkF m 2 #[.val (.ref a1), .val (.ref a1), .unset, .unset, .unset] []))
  refine own_go (fun t k => XS.aloadN X0.here hx rfl (hb hby d1_7_2) rfl rfl k) ?_
  show own_G p.tables e below s _ _ _ (s₁.setTop (mkF m 3 #[.val (.ref a1), .val (.ref a1), .unset, .unset, .unset] [(.ref a1)]))
  obtain ⟨cl29, Ar29, q29, S29, NN29, HH29, GG29⟩ := id V1
  have hlen29 := len_of S29 NN29
  refine own_go (A := s₁.setTop (mkF m 4 #[.val (.ref a1), .val (.ref a1), .unset, .unset, .unset] [(.int (7 : Int32))])) (fun t k => X0.arraylength hx (by rw [e0]; exact Ar29.1) (State.isArrayOf_alike hZ.alike Ar29.2.1) (g := (mkF m 3 #[.val (.ref a1), .val (.ref a1), .unset, .unset, .unset] [(.ref a1)])) rfl rfl (hb hby d1_7_3) _ (by rw [hlen29]; exact k)) ?_
  show own_G p.tables e below s _ _ _ (s₁.setTop (mkF m 4 #[.val (.ref a1), .val (.ref a1), .unset, .unset, .unset] [(.int (7 : Int32))]))
  refine own_go (fun t k => XS.istoreN X0.here hx rfl (hb hby d1_7_4) rfl (l' := #[.val (.ref a1), .val (.ref a1), .val (.int (7 : Int32)), .unset, .unset]) rfl k) ?_
  show own_G p.tables e below s _ _ _ (s₁.setTop (mkF m 5 #[.val (.ref a1), .val (.ref a1), .val (.int (7 : Int32)), .unset, .unset] []))
  refine own_go (fun t k => XS.iconst X0.here hx rfl (hb hby d1_7_5) k) ?_
  show own_G p.tables e below s _ _ _ (s₁.setTop (mkF m 6 #[.val (.ref a1), .val (.ref a1), .val (.int (7 : Int32)), .unset, .unset] [(.int (0 : Int32))]))
  refine own_go (fun t k => XS.istoreN X0.here hx rfl (hb hby d1_7_6) rfl (l' := #[.val (.ref a1), .val (.ref a1), .val (.int (7 : Int32)), .val (.int (0 : Int32)), .unset]) rfl k) ?_
  show own_G p.tables e below s _ _ _ (s₁.setTop (mkF m 7 #[.val (.ref a1), .val (.ref a1), .val (.int (7 : Int32)), .val (.int (0 : Int32)), .unset] []))
  refine own_go (fun t k => XS.iloadN X0.here hx rfl (hb hby d1_7_7) rfl k) ?_
  show own_G p.tables e below s _ _ _ (s₁.setTop (mkF m 8 #[.val (.ref a1), .val (.ref a1), .val (.int (7 : Int32)), .val (.int (0 : Int32)), .unset] [(.int (0 : Int32))]))
  refine own_go (fun t k => XS.iloadN X0.here hx rfl (hb hby d1_7_8) rfl k) ?_
  show own_G p.tables e below s _ _ _ (s₁.setTop (mkF m 9 #[.val (.ref a1), .val (.ref a1), .val (.int (7 : Int32)), .val (.int (0 : Int32)), .unset] [(.int (7 : Int32)), (.int (0 : Int32))]))
  refine own_go (fun t k => XS.icmpNo X0.here hx rfl (hb hby d1_7_9) rfl (by decide) k) ?_
  show own_G p.tables e below s _ _ _ (s₁.setTop (mkF m 12 #[.val (.ref a1), .val (.ref a1), .val (.int (7 : Int32)), .val (.int (0 : Int32)), .unset] []))
  refine own_go (fun t k => XS.aloadN X0.here hx rfl (hb hby d1_7_12) rfl rfl k) ?_
  show own_G p.tables e below s _ _ _ (s₁.setTop (mkF m 13 #[.val (.ref a1), .val (.ref a1), .val (.int (7 : Int32)), .val (.int (0 : Int32)), .unset] [(.ref a1)]))
  refine own_go (fun t k => XS.iloadN X0.here hx rfl (hb hby d1_7_13) rfl k) ?_
  show own_G p.tables e below s _ _ _ (s₁.setTop (mkF m 14 #[.val (.ref a1), .val (.ref a1), .val (.int (7 : Int32)), .val (.int (0 : Int32)), .unset] [(.int (0 : Int32)), (.ref a1)]))
  obtain ⟨cl30, Ar30, q30, S30, NN30, HH30, GG30⟩ := id V1
  have hin30 : ¬ ((0 : Int32) < 0 ∨ cl30.slots.size ≤ ((0 : Int32)).toNatClampNeg) := inb_of S30 ⟨by decide, by decide⟩
  have hat30 : cl30.slots[((0 : Int32)).toNatClampNeg]? = some (.int c0) := Has.at HH30 hin30 rfl
  refine own_go (fun t k => X0.baloadBytes hx (j := (0 : Int32)) (v := (.int c0)) (by rw [e0]; exact Ar30.1) (State.isArrayOf_alike hZ.alike Ar30.2.1) Ar30.2.2 hin30 hat30 (g := (mkF m 14 #[.val (.ref a1), .val (.ref a1), .val (.int (7 : Int32)), .val (.int (0 : Int32)), .unset] [(.int (0 : Int32)), (.ref a1)])) rfl rfl (hb hby d1_7_14) _ k) ?_
  show own_G p.tables e below s _ _ _ (s₁.setTop (mkF m 15 #[.val (.ref a1), .val (.ref a1), .val (.int (7 : Int32)), .val (.int (0 : Int32)), .unset] [(.int c0)]))
  refine own_go (fun t k => XS.istore X0.here hx rfl (hb hby d1_7_15) rfl (l' := #[.val (.ref a1), .val (.ref a1), .val (.int (7 : Int32)), .val (.int (0 : Int32)), .val (.int c0)]) rfl k) ?_
  show own_G p.tables e below s _ _ _ (s₁.setTop (mkF m 17 #[.val (.ref a1), .val (.ref a1), .val (.int (7 : Int32)), .val (.int (0 : Int32)), .val (.int c0)] []))
  refine own_go (fun t k => XS.iload X0.here hx rfl (hb hby d1_7_17) rfl k) ?_
  show own_G p.tables e below s _ _ _ (s₁.setTop (mkF m 19 #[.val (.ref a1), .val (.ref a1), .val (.int (7 : Int32)), .val (.int (0 : Int32)), .val (.int c0)] [(.int c0)]))
  by_cases hn0 : c0 < (0 : Int32)
  · refine own_go (fun t k => XS.ifNo X0.here hx rfl (hb hby d1_7_19) rfl (Jvm.Free.XT.i0_ge_f hn0) k) ?_
    show own_G p.tables e below s _ _ _ (s₁.setTop (mkF m 22 #[.val (.ref a1), .val (.ref a1), .val (.int (7 : Int32)), .val (.int (0 : Int32)), .val (.int c0)] []))
    refine own_go (fun t k => XS.iconst X0.here hx rfl (hb hby d1_7_22) k) ?_
    show own_G p.tables e below s _ _ _ (s₁.setTop (mkF m 23 #[.val (.ref a1), .val (.ref a1), .val (.int (7 : Int32)), .val (.int (0 : Int32)), .val (.int c0)] [(.int (0 : Int32))]))
    exact own_retN X0 hx hlk (t := .boolean) (z' := (0 : Int32)) Bd.returns (by simp) (hb hby d1_7_23) (rfl) (by rw [e0]; exact ⟨by rw [← hr, if_pos (Or.inl hn0)], N0, rfl⟩) (by decide) (by decide)
  · refine own_go (fun t k => XS.ifYes X0.here hx rfl (pc0 := 19) (pc' := 24) rfl (hb hby d1_7_19) rfl (Jvm.Free.XT.i0_ge_t hn0) (by decide) (by decide) k) ?_
    show own_G p.tables e below s _ _ _ (s₁.setTop (mkF m 24 #[.val (.ref a1), .val (.ref a1), .val (.int (7 : Int32)), .val (.int (0 : Int32)), .val (.int c0)] []))
    refine own_go (fun t k => XS.iinc X0.here hx rfl (hb hby d1_7_24) rfl (l' := #[.val (.ref a1), .val (.ref a1), .val (.int (7 : Int32)), .val (.int (1 : Int32)), .val (.int c0)]) rfl k) ?_
    show own_G p.tables e below s _ _ _ (s₁.setTop (mkF m 27 #[.val (.ref a1), .val (.ref a1), .val (.int (7 : Int32)), .val (.int (1 : Int32)), .val (.int c0)] []))
    refine own_go (fun t k => XS.goto X0.here hx rfl (pc0 := 27) (pc' := 7) rfl (hb hby d1_7_27) (by decide) (by decide) k) ?_
    show own_G p.tables e below s _ _ _ (s₁.setTop (mkF m 7 #[.val (.ref a1), .val (.ref a1), .val (.int (7 : Int32)), .val (.int (1 : Int32)), .val (.int c0)] []))
    refine own_go (fun t k => XS.iloadN X0.here hx rfl (hb hby d1_7_7) rfl k) ?_
    show own_G p.tables e below s _ _ _ (s₁.setTop (mkF m 8 #[.val (.ref a1), .val (.ref a1), .val (.int (7 : Int32)), .val (.int (1 : Int32)), .val (.int c0)] [(.int (1 : Int32))]))
    refine own_go (fun t k => XS.iloadN X0.here hx rfl (hb hby d1_7_8) rfl k) ?_
    show own_G p.tables e below s _ _ _ (s₁.setTop (mkF m 9 #[.val (.ref a1), .val (.ref a1), .val (.int (7 : Int32)), .val (.int (1 : Int32)), .val (.int c0)] [(.int (7 : Int32)), (.int (1 : Int32))]))
    refine own_go (fun t k => XS.icmpNo X0.here hx rfl (hb hby d1_7_9) rfl (by decide) k) ?_
    show own_G p.tables e below s _ _ _ (s₁.setTop (mkF m 12 #[.val (.ref a1), .val (.ref a1), .val (.int (7 : Int32)), .val (.int (1 : Int32)), .val (.int c0)] []))
    refine own_go (fun t k => XS.aloadN X0.here hx rfl (hb hby d1_7_12) rfl rfl k) ?_
    show own_G p.tables e below s _ _ _ (s₁.setTop (mkF m 13 #[.val (.ref a1), .val (.ref a1), .val (.int (7 : Int32)), .val (.int (1 : Int32)), .val (.int c0)] [(.ref a1)]))
    refine own_go (fun t k => XS.iloadN X0.here hx rfl (hb hby d1_7_13) rfl k) ?_
    show own_G p.tables e below s _ _ _ (s₁.setTop (mkF m 14 #[.val (.ref a1), .val (.ref a1), .val (.int (7 : Int32)), .val (.int (1 : Int32)), .val (.int c0)] [(.int (1 : Int32)), (.ref a1)]))
    obtain ⟨cl31, Ar31, q31, S31, NN31, HH31, GG31⟩ := id V1
    have hin31 : ¬ ((1 : Int32) < 0 ∨ cl31.slots.size ≤ ((1 : Int32)).toNatClampNeg) := inb_of S31 ⟨by decide, by decide⟩
    have hat31 : cl31.slots[((1 : Int32)).toNatClampNeg]? = some (.int c1) := Has.at HH31 hin31 rfl
    refine own_go (fun t k => X0.baloadBytes hx (j := (1 : Int32)) (v := (.int c1)) (by rw [e0]; exact Ar31.1) (State.isArrayOf_alike hZ.alike Ar31.2.1) Ar31.2.2 hin31 hat31 (g := (mkF m 14 #[.val (.ref a1), .val (.ref a1), .val (.int (7 : Int32)), .val (.int (1 : Int32)), .val (.int c0)] [(.int (1 : Int32)), (.ref a1)])) rfl rfl (hb hby d1_7_14) _ k) ?_
    show own_G p.tables e below s _ _ _ (s₁.setTop (mkF m 15 #[.val (.ref a1), .val (.ref a1), .val (.int (7 : Int32)), .val (.int (1 : Int32)), .val (.int c0)] [(.int c1)]))
    refine own_go (fun t k => XS.istore X0.here hx rfl (hb hby d1_7_15) rfl (l' := #[.val (.ref a1), .val (.ref a1), .val (.int (7 : Int32)), .val (.int (1 : Int32)), .val (.int c1)]) rfl k) ?_
    show own_G p.tables e below s _ _ _ (s₁.setTop (mkF m 17 #[.val (.ref a1), .val (.ref a1), .val (.int (7 : Int32)), .val (.int (1 : Int32)), .val (.int c1)] []))
    refine own_go (fun t k => XS.iload X0.here hx rfl (hb hby d1_7_17) rfl k) ?_
    show own_G p.tables e below s _ _ _ (s₁.setTop (mkF m 19 #[.val (.ref a1), .val (.ref a1), .val (.int (7 : Int32)), .val (.int (1 : Int32)), .val (.int c1)] [(.int c1)]))
    by_cases hn1 : c1 < (0 : Int32)
    · refine own_go (fun t k => XS.ifNo X0.here hx rfl (hb hby d1_7_19) rfl (Jvm.Free.XT.i0_ge_f hn1) k) ?_
      show own_G p.tables e below s _ _ _ (s₁.setTop (mkF m 22 #[.val (.ref a1), .val (.ref a1), .val (.int (7 : Int32)), .val (.int (1 : Int32)), .val (.int c1)] []))
      refine own_go (fun t k => XS.iconst X0.here hx rfl (hb hby d1_7_22) k) ?_
      show own_G p.tables e below s _ _ _ (s₁.setTop (mkF m 23 #[.val (.ref a1), .val (.ref a1), .val (.int (7 : Int32)), .val (.int (1 : Int32)), .val (.int c1)] [(.int (0 : Int32))]))
      exact own_retN X0 hx hlk (t := .boolean) (z' := (0 : Int32)) Bd.returns (by simp) (hb hby d1_7_23) (rfl) (by rw [e0]; exact ⟨by rw [← hr, if_pos (Or.inr (Or.inl hn1))], N0, rfl⟩) (by decide) (by decide)
    · refine own_go (fun t k => XS.ifYes X0.here hx rfl (pc0 := 19) (pc' := 24) rfl (hb hby d1_7_19) rfl (Jvm.Free.XT.i0_ge_t hn1) (by decide) (by decide) k) ?_
      show own_G p.tables e below s _ _ _ (s₁.setTop (mkF m 24 #[.val (.ref a1), .val (.ref a1), .val (.int (7 : Int32)), .val (.int (1 : Int32)), .val (.int c1)] []))
      refine own_go (fun t k => XS.iinc X0.here hx rfl (hb hby d1_7_24) rfl (l' := #[.val (.ref a1), .val (.ref a1), .val (.int (7 : Int32)), .val (.int (2 : Int32)), .val (.int c1)]) rfl k) ?_
      show own_G p.tables e below s _ _ _ (s₁.setTop (mkF m 27 #[.val (.ref a1), .val (.ref a1), .val (.int (7 : Int32)), .val (.int (2 : Int32)), .val (.int c1)] []))
      refine own_go (fun t k => XS.goto X0.here hx rfl (pc0 := 27) (pc' := 7) rfl (hb hby d1_7_27) (by decide) (by decide) k) ?_
      show own_G p.tables e below s _ _ _ (s₁.setTop (mkF m 7 #[.val (.ref a1), .val (.ref a1), .val (.int (7 : Int32)), .val (.int (2 : Int32)), .val (.int c1)] []))
      refine own_go (fun t k => XS.iloadN X0.here hx rfl (hb hby d1_7_7) rfl k) ?_
      show own_G p.tables e below s _ _ _ (s₁.setTop (mkF m 8 #[.val (.ref a1), .val (.ref a1), .val (.int (7 : Int32)), .val (.int (2 : Int32)), .val (.int c1)] [(.int (2 : Int32))]))
      refine own_go (fun t k => XS.iloadN X0.here hx rfl (hb hby d1_7_8) rfl k) ?_
      show own_G p.tables e below s _ _ _ (s₁.setTop (mkF m 9 #[.val (.ref a1), .val (.ref a1), .val (.int (7 : Int32)), .val (.int (2 : Int32)), .val (.int c1)] [(.int (7 : Int32)), (.int (2 : Int32))]))
      refine own_go (fun t k => XS.icmpNo X0.here hx rfl (hb hby d1_7_9) rfl (by decide) k) ?_
      show own_G p.tables e below s _ _ _ (s₁.setTop (mkF m 12 #[.val (.ref a1), .val (.ref a1), .val (.int (7 : Int32)), .val (.int (2 : Int32)), .val (.int c1)] []))
      refine own_go (fun t k => XS.aloadN X0.here hx rfl (hb hby d1_7_12) rfl rfl k) ?_
      show own_G p.tables e below s _ _ _ (s₁.setTop (mkF m 13 #[.val (.ref a1), .val (.ref a1), .val (.int (7 : Int32)), .val (.int (2 : Int32)), .val (.int c1)] [(.ref a1)]))
      refine own_go (fun t k => XS.iloadN X0.here hx rfl (hb hby d1_7_13) rfl k) ?_
      show own_G p.tables e below s _ _ _ (s₁.setTop (mkF m 14 #[.val (.ref a1), .val (.ref a1), .val (.int (7 : Int32)), .val (.int (2 : Int32)), .val (.int c1)] [(.int (2 : Int32)), (.ref a1)]))
      obtain ⟨cl32, Ar32, q32, S32, NN32, HH32, GG32⟩ := id V1
      have hin32 : ¬ ((2 : Int32) < 0 ∨ cl32.slots.size ≤ ((2 : Int32)).toNatClampNeg) := inb_of S32 ⟨by decide, by decide⟩
      have hat32 : cl32.slots[((2 : Int32)).toNatClampNeg]? = some (.int c2) := Has.at HH32 hin32 rfl
      refine own_go (fun t k => X0.baloadBytes hx (j := (2 : Int32)) (v := (.int c2)) (by rw [e0]; exact Ar32.1) (State.isArrayOf_alike hZ.alike Ar32.2.1) Ar32.2.2 hin32 hat32 (g := (mkF m 14 #[.val (.ref a1), .val (.ref a1), .val (.int (7 : Int32)), .val (.int (2 : Int32)), .val (.int c1)] [(.int (2 : Int32)), (.ref a1)])) rfl rfl (hb hby d1_7_14) _ k) ?_
      show own_G p.tables e below s _ _ _ (s₁.setTop (mkF m 15 #[.val (.ref a1), .val (.ref a1), .val (.int (7 : Int32)), .val (.int (2 : Int32)), .val (.int c1)] [(.int c2)]))
      refine own_go (fun t k => XS.istore X0.here hx rfl (hb hby d1_7_15) rfl (l' := #[.val (.ref a1), .val (.ref a1), .val (.int (7 : Int32)), .val (.int (2 : Int32)), .val (.int c2)]) rfl k) ?_
      show own_G p.tables e below s _ _ _ (s₁.setTop (mkF m 17 #[.val (.ref a1), .val (.ref a1), .val (.int (7 : Int32)), .val (.int (2 : Int32)), .val (.int c2)] []))
      refine own_go (fun t k => XS.iload X0.here hx rfl (hb hby d1_7_17) rfl k) ?_
      show own_G p.tables e below s _ _ _ (s₁.setTop (mkF m 19 #[.val (.ref a1), .val (.ref a1), .val (.int (7 : Int32)), .val (.int (2 : Int32)), .val (.int c2)] [(.int c2)]))
      by_cases hn2 : c2 < (0 : Int32)
      · refine own_go (fun t k => XS.ifNo X0.here hx rfl (hb hby d1_7_19) rfl (Jvm.Free.XT.i0_ge_f hn2) k) ?_
        show own_G p.tables e below s _ _ _ (s₁.setTop (mkF m 22 #[.val (.ref a1), .val (.ref a1), .val (.int (7 : Int32)), .val (.int (2 : Int32)), .val (.int c2)] []))
        refine own_go (fun t k => XS.iconst X0.here hx rfl (hb hby d1_7_22) k) ?_
        show own_G p.tables e below s _ _ _ (s₁.setTop (mkF m 23 #[.val (.ref a1), .val (.ref a1), .val (.int (7 : Int32)), .val (.int (2 : Int32)), .val (.int c2)] [(.int (0 : Int32))]))
        exact own_retN X0 hx hlk (t := .boolean) (z' := (0 : Int32)) Bd.returns (by simp) (hb hby d1_7_23) (rfl) (by rw [e0]; exact ⟨by rw [← hr, if_pos (Or.inr (Or.inr (Or.inl hn2)))], N0, rfl⟩) (by decide) (by decide)
      · refine own_go (fun t k => XS.ifYes X0.here hx rfl (pc0 := 19) (pc' := 24) rfl (hb hby d1_7_19) rfl (Jvm.Free.XT.i0_ge_t hn2) (by decide) (by decide) k) ?_
        show own_G p.tables e below s _ _ _ (s₁.setTop (mkF m 24 #[.val (.ref a1), .val (.ref a1), .val (.int (7 : Int32)), .val (.int (2 : Int32)), .val (.int c2)] []))
        refine own_go (fun t k => XS.iinc X0.here hx rfl (hb hby d1_7_24) rfl (l' := #[.val (.ref a1), .val (.ref a1), .val (.int (7 : Int32)), .val (.int (3 : Int32)), .val (.int c2)]) rfl k) ?_
        show own_G p.tables e below s _ _ _ (s₁.setTop (mkF m 27 #[.val (.ref a1), .val (.ref a1), .val (.int (7 : Int32)), .val (.int (3 : Int32)), .val (.int c2)] []))
        refine own_go (fun t k => XS.goto X0.here hx rfl (pc0 := 27) (pc' := 7) rfl (hb hby d1_7_27) (by decide) (by decide) k) ?_
        show own_G p.tables e below s _ _ _ (s₁.setTop (mkF m 7 #[.val (.ref a1), .val (.ref a1), .val (.int (7 : Int32)), .val (.int (3 : Int32)), .val (.int c2)] []))
        refine own_go (fun t k => XS.iloadN X0.here hx rfl (hb hby d1_7_7) rfl k) ?_
        show own_G p.tables e below s _ _ _ (s₁.setTop (mkF m 8 #[.val (.ref a1), .val (.ref a1), .val (.int (7 : Int32)), .val (.int (3 : Int32)), .val (.int c2)] [(.int (3 : Int32))]))
        refine own_go (fun t k => XS.iloadN X0.here hx rfl (hb hby d1_7_8) rfl k) ?_
        show own_G p.tables e below s _ _ _ (s₁.setTop (mkF m 9 #[.val (.ref a1), .val (.ref a1), .val (.int (7 : Int32)), .val (.int (3 : Int32)), .val (.int c2)] [(.int (7 : Int32)), (.int (3 : Int32))]))
        refine own_go (fun t k => XS.icmpNo X0.here hx rfl (hb hby d1_7_9) rfl (by decide) k) ?_
        show own_G p.tables e below s _ _ _ (s₁.setTop (mkF m 12 #[.val (.ref a1), .val (.ref a1), .val (.int (7 : Int32)), .val (.int (3 : Int32)), .val (.int c2)] []))
        refine own_go (fun t k => XS.aloadN X0.here hx rfl (hb hby d1_7_12) rfl rfl k) ?_
        show own_G p.tables e below s _ _ _ (s₁.setTop (mkF m 13 #[.val (.ref a1), .val (.ref a1), .val (.int (7 : Int32)), .val (.int (3 : Int32)), .val (.int c2)] [(.ref a1)]))
        refine own_go (fun t k => XS.iloadN X0.here hx rfl (hb hby d1_7_13) rfl k) ?_
        show own_G p.tables e below s _ _ _ (s₁.setTop (mkF m 14 #[.val (.ref a1), .val (.ref a1), .val (.int (7 : Int32)), .val (.int (3 : Int32)), .val (.int c2)] [(.int (3 : Int32)), (.ref a1)]))
        obtain ⟨cl33, Ar33, q33, S33, NN33, HH33, GG33⟩ := id V1
        have hin33 : ¬ ((3 : Int32) < 0 ∨ cl33.slots.size ≤ ((3 : Int32)).toNatClampNeg) := inb_of S33 ⟨by decide, by decide⟩
        have hat33 : cl33.slots[((3 : Int32)).toNatClampNeg]? = some (.int c3) := Has.at HH33 hin33 rfl
        refine own_go (fun t k => X0.baloadBytes hx (j := (3 : Int32)) (v := (.int c3)) (by rw [e0]; exact Ar33.1) (State.isArrayOf_alike hZ.alike Ar33.2.1) Ar33.2.2 hin33 hat33 (g := (mkF m 14 #[.val (.ref a1), .val (.ref a1), .val (.int (7 : Int32)), .val (.int (3 : Int32)), .val (.int c2)] [(.int (3 : Int32)), (.ref a1)])) rfl rfl (hb hby d1_7_14) _ k) ?_
        show own_G p.tables e below s _ _ _ (s₁.setTop (mkF m 15 #[.val (.ref a1), .val (.ref a1), .val (.int (7 : Int32)), .val (.int (3 : Int32)), .val (.int c2)] [(.int c3)]))
        refine own_go (fun t k => XS.istore X0.here hx rfl (hb hby d1_7_15) rfl (l' := #[.val (.ref a1), .val (.ref a1), .val (.int (7 : Int32)), .val (.int (3 : Int32)), .val (.int c3)]) rfl k) ?_
        show own_G p.tables e below s _ _ _ (s₁.setTop (mkF m 17 #[.val (.ref a1), .val (.ref a1), .val (.int (7 : Int32)), .val (.int (3 : Int32)), .val (.int c3)] []))
        refine own_go (fun t k => XS.iload X0.here hx rfl (hb hby d1_7_17) rfl k) ?_
        show own_G p.tables e below s _ _ _ (s₁.setTop (mkF m 19 #[.val (.ref a1), .val (.ref a1), .val (.int (7 : Int32)), .val (.int (3 : Int32)), .val (.int c3)] [(.int c3)]))
        by_cases hn3 : c3 < (0 : Int32)
        · refine own_go (fun t k => XS.ifNo X0.here hx rfl (hb hby d1_7_19) rfl (Jvm.Free.XT.i0_ge_f hn3) k) ?_
          show own_G p.tables e below s _ _ _ (s₁.setTop (mkF m 22 #[.val (.ref a1), .val (.ref a1), .val (.int (7 : Int32)), .val (.int (3 : Int32)), .val (.int c3)] []))
          refine own_go (fun t k => XS.iconst X0.here hx rfl (hb hby d1_7_22) k) ?_
          show own_G p.tables e below s _ _ _ (s₁.setTop (mkF m 23 #[.val (.ref a1), .val (.ref a1), .val (.int (7 : Int32)), .val (.int (3 : Int32)), .val (.int c3)] [(.int (0 : Int32))]))
          exact own_retN X0 hx hlk (t := .boolean) (z' := (0 : Int32)) Bd.returns (by simp) (hb hby d1_7_23) (rfl) (by rw [e0]; exact ⟨by rw [← hr, if_pos (Or.inr (Or.inr (Or.inr (Or.inl hn3))))], N0, rfl⟩) (by decide) (by decide)
        · refine own_go (fun t k => XS.ifYes X0.here hx rfl (pc0 := 19) (pc' := 24) rfl (hb hby d1_7_19) rfl (Jvm.Free.XT.i0_ge_t hn3) (by decide) (by decide) k) ?_
          show own_G p.tables e below s _ _ _ (s₁.setTop (mkF m 24 #[.val (.ref a1), .val (.ref a1), .val (.int (7 : Int32)), .val (.int (3 : Int32)), .val (.int c3)] []))
          refine own_go (fun t k => XS.iinc X0.here hx rfl (hb hby d1_7_24) rfl (l' := #[.val (.ref a1), .val (.ref a1), .val (.int (7 : Int32)), .val (.int (4 : Int32)), .val (.int c3)]) rfl k) ?_
          show own_G p.tables e below s _ _ _ (s₁.setTop (mkF m 27 #[.val (.ref a1), .val (.ref a1), .val (.int (7 : Int32)), .val (.int (4 : Int32)), .val (.int c3)] []))
          refine own_go (fun t k => XS.goto X0.here hx rfl (pc0 := 27) (pc' := 7) rfl (hb hby d1_7_27) (by decide) (by decide) k) ?_
          show own_G p.tables e below s _ _ _ (s₁.setTop (mkF m 7 #[.val (.ref a1), .val (.ref a1), .val (.int (7 : Int32)), .val (.int (4 : Int32)), .val (.int c3)] []))
          refine own_go (fun t k => XS.iloadN X0.here hx rfl (hb hby d1_7_7) rfl k) ?_
          show own_G p.tables e below s _ _ _ (s₁.setTop (mkF m 8 #[.val (.ref a1), .val (.ref a1), .val (.int (7 : Int32)), .val (.int (4 : Int32)), .val (.int c3)] [(.int (4 : Int32))]))
          refine own_go (fun t k => XS.iloadN X0.here hx rfl (hb hby d1_7_8) rfl k) ?_
          show own_G p.tables e below s _ _ _ (s₁.setTop (mkF m 9 #[.val (.ref a1), .val (.ref a1), .val (.int (7 : Int32)), .val (.int (4 : Int32)), .val (.int c3)] [(.int (7 : Int32)), (.int (4 : Int32))]))
          refine own_go (fun t k => XS.icmpNo X0.here hx rfl (hb hby d1_7_9) rfl (by decide) k) ?_
          show own_G p.tables e below s _ _ _ (s₁.setTop (mkF m 12 #[.val (.ref a1), .val (.ref a1), .val (.int (7 : Int32)), .val (.int (4 : Int32)), .val (.int c3)] []))
          refine own_go (fun t k => XS.aloadN X0.here hx rfl (hb hby d1_7_12) rfl rfl k) ?_
          show own_G p.tables e below s _ _ _ (s₁.setTop (mkF m 13 #[.val (.ref a1), .val (.ref a1), .val (.int (7 : Int32)), .val (.int (4 : Int32)), .val (.int c3)] [(.ref a1)]))
          refine own_go (fun t k => XS.iloadN X0.here hx rfl (hb hby d1_7_13) rfl k) ?_
          show own_G p.tables e below s _ _ _ (s₁.setTop (mkF m 14 #[.val (.ref a1), .val (.ref a1), .val (.int (7 : Int32)), .val (.int (4 : Int32)), .val (.int c3)] [(.int (4 : Int32)), (.ref a1)]))
          obtain ⟨cl34, Ar34, q34, S34, NN34, HH34, GG34⟩ := id V1
          have hin34 : ¬ ((4 : Int32) < 0 ∨ cl34.slots.size ≤ ((4 : Int32)).toNatClampNeg) := inb_of S34 ⟨by decide, by decide⟩
          have hat34 : cl34.slots[((4 : Int32)).toNatClampNeg]? = some (.int c4) := Has.at HH34 hin34 rfl
          refine own_go (fun t k => X0.baloadBytes hx (j := (4 : Int32)) (v := (.int c4)) (by rw [e0]; exact Ar34.1) (State.isArrayOf_alike hZ.alike Ar34.2.1) Ar34.2.2 hin34 hat34 (g := (mkF m 14 #[.val (.ref a1), .val (.ref a1), .val (.int (7 : Int32)), .val (.int (4 : Int32)), .val (.int c3)] [(.int (4 : Int32)), (.ref a1)])) rfl rfl (hb hby d1_7_14) _ k) ?_
          show own_G p.tables e below s _ _ _ (s₁.setTop (mkF m 15 #[.val (.ref a1), .val (.ref a1), .val (.int (7 : Int32)), .val (.int (4 : Int32)), .val (.int c3)] [(.int c4)]))
          refine own_go (fun t k => XS.istore X0.here hx rfl (hb hby d1_7_15) rfl (l' := #[.val (.ref a1), .val (.ref a1), .val (.int (7 : Int32)), .val (.int (4 : Int32)), .val (.int c4)]) rfl k) ?_
          show own_G p.tables e below s _ _ _ (s₁.setTop (mkF m 17 #[.val (.ref a1), .val (.ref a1), .val (.int (7 : Int32)), .val (.int (4 : Int32)), .val (.int c4)] []))
          refine own_go (fun t k => XS.iload X0.here hx rfl (hb hby d1_7_17) rfl k) ?_
          show own_G p.tables e below s _ _ _ (s₁.setTop (mkF m 19 #[.val (.ref a1), .val (.ref a1), .val (.int (7 : Int32)), .val (.int (4 : Int32)), .val (.int c4)] [(.int c4)]))
          by_cases hn4 : c4 < (0 : Int32)
          · refine own_go (fun t k => XS.ifNo X0.here hx rfl (hb hby d1_7_19) rfl (Jvm.Free.XT.i0_ge_f hn4) k) ?_
            show own_G p.tables e below s _ _ _ (s₁.setTop (mkF m 22 #[.val (.ref a1), .val (.ref a1), .val (.int (7 : Int32)), .val (.int (4 : Int32)), .val (.int c4)] []))
            refine own_go (fun t k => XS.iconst X0.here hx rfl (hb hby d1_7_22) k) ?_
            show own_G p.tables e below s _ _ _ (s₁.setTop (mkF m 23 #[.val (.ref a1), .val (.ref a1), .val (.int (7 : Int32)), .val (.int (4 : Int32)), .val (.int c4)] [(.int (0 : Int32))]))
            exact own_retN X0 hx hlk (t := .boolean) (z' := (0 : Int32)) Bd.returns (by simp) (hb hby d1_7_23) (rfl) (by rw [e0]; exact ⟨by rw [← hr, if_pos (Or.inr (Or.inr (Or.inr (Or.inr (Or.inl hn4)))))], N0, rfl⟩) (by decide) (by decide)
          · refine own_go (fun t k => XS.ifYes X0.here hx rfl (pc0 := 19) (pc' := 24) rfl (hb hby d1_7_19) rfl (Jvm.Free.XT.i0_ge_t hn4) (by decide) (by decide) k) ?_
            show own_G p.tables e below s _ _ _ (s₁.setTop (mkF m 24 #[.val (.ref a1), .val (.ref a1), .val (.int (7 : Int32)), .val (.int (4 : Int32)), .val (.int c4)] []))
            refine own_go (fun t k => XS.iinc X0.here hx rfl (hb hby d1_7_24) rfl (l' := #[.val (.ref a1), .val (.ref a1), .val (.int (7 : Int32)), .val (.int (5 : Int32)), .val (.int c4)]) rfl k) ?_
            show own_G p.tables e below s _ _ _ (s₁.setTop (mkF m 27 #[.val (.ref a1), .val (.ref a1), .val (.int (7 : Int32)), .val (.int (5 : Int32)), .val (.int c4)] []))
            refine own_go (fun t k => XS.goto X0.here hx rfl (pc0 := 27) (pc' := 7) rfl (hb hby d1_7_27) (by decide) (by decide) k) ?_
            show own_G p.tables e below s _ _ _ (s₁.setTop (mkF m 7 #[.val (.ref a1), .val (.ref a1), .val (.int (7 : Int32)), .val (.int (5 : Int32)), .val (.int c4)] []))
            refine own_go (fun t k => XS.iloadN X0.here hx rfl (hb hby d1_7_7) rfl k) ?_
            show own_G p.tables e below s _ _ _ (s₁.setTop (mkF m 8 #[.val (.ref a1), .val (.ref a1), .val (.int (7 : Int32)), .val (.int (5 : Int32)), .val (.int c4)] [(.int (5 : Int32))]))
            refine own_go (fun t k => XS.iloadN X0.here hx rfl (hb hby d1_7_8) rfl k) ?_
            show own_G p.tables e below s _ _ _ (s₁.setTop (mkF m 9 #[.val (.ref a1), .val (.ref a1), .val (.int (7 : Int32)), .val (.int (5 : Int32)), .val (.int c4)] [(.int (7 : Int32)), (.int (5 : Int32))]))
            refine own_go (fun t k => XS.icmpNo X0.here hx rfl (hb hby d1_7_9) rfl (by decide) k) ?_
            show own_G p.tables e below s _ _ _ (s₁.setTop (mkF m 12 #[.val (.ref a1), .val (.ref a1), .val (.int (7 : Int32)), .val (.int (5 : Int32)), .val (.int c4)] []))
            refine own_go (fun t k => XS.aloadN X0.here hx rfl (hb hby d1_7_12) rfl rfl k) ?_
            show own_G p.tables e below s _ _ _ (s₁.setTop (mkF m 13 #[.val (.ref a1), .val (.ref a1), .val (.int (7 : Int32)), .val (.int (5 : Int32)), .val (.int c4)] [(.ref a1)]))
            refine own_go (fun t k => XS.iloadN X0.here hx rfl (hb hby d1_7_13) rfl k) ?_
            show own_G p.tables e below s _ _ _ (s₁.setTop (mkF m 14 #[.val (.ref a1), .val (.ref a1), .val (.int (7 : Int32)), .val (.int (5 : Int32)), .val (.int c4)] [(.int (5 : Int32)), (.ref a1)]))
            obtain ⟨cl35, Ar35, q35, S35, NN35, HH35, GG35⟩ := id V1
            have hin35 : ¬ ((5 : Int32) < 0 ∨ cl35.slots.size ≤ ((5 : Int32)).toNatClampNeg) := inb_of S35 ⟨by decide, by decide⟩
            have hat35 : cl35.slots[((5 : Int32)).toNatClampNeg]? = some (.int c5) := Has.at HH35 hin35 rfl
            refine own_go (fun t k => X0.baloadBytes hx (j := (5 : Int32)) (v := (.int c5)) (by rw [e0]; exact Ar35.1) (State.isArrayOf_alike hZ.alike Ar35.2.1) Ar35.2.2 hin35 hat35 (g := (mkF m 14 #[.val (.ref a1), .val (.ref a1), .val (.int (7 : Int32)), .val (.int (5 : Int32)), .val (.int c4)] [(.int (5 : Int32)), (.ref a1)])) rfl rfl (hb hby d1_7_14) _ k) ?_
            show own_G p.tables e below s _ _ _ (s₁.setTop (mkF m 15 #[.val (.ref a1), .val (.ref a1), .val (.int (7 : Int32)), .val (.int (5 : Int32)), .val (.int c4)] [(.int c5)]))
            refine own_go (fun t k => XS.istore X0.here hx rfl (hb hby d1_7_15) rfl (l' := #[.val (.ref a1), .val (.ref a1), .val (.int (7 : Int32)), .val (.int (5 : Int32)), .val (.int c5)]) rfl k) ?_
            show own_G p.tables e below s _ _ _ (s₁.setTop (mkF m 17 #[.val (.ref a1), .val (.ref a1), .val (.int (7 : Int32)), .val (.int (5 : Int32)), .val (.int c5)] []))
            refine own_go (fun t k => XS.iload X0.here hx rfl (hb hby d1_7_17) rfl k) ?_
            show own_G p.tables e below s _ _ _ (s₁.setTop (mkF m 19 #[.val (.ref a1), .val (.ref a1), .val (.int (7 : Int32)), .val (.int (5 : Int32)), .val (.int c5)] [(.int c5)]))
            by_cases hn5 : c5 < (0 : Int32)
            · refine own_go (fun t k => XS.ifNo X0.here hx rfl (hb hby d1_7_19) rfl (Jvm.Free.XT.i0_ge_f hn5) k) ?_
              show own_G p.tables e below s _ _ _ (s₁.setTop (mkF m 22 #[.val (.ref a1), .val (.ref a1), .val (.int (7 : Int32)), .val (.int (5 : Int32)), .val (.int c5)] []))
              refine own_go (fun t k => XS.iconst X0.here hx rfl (hb hby d1_7_22) k) ?_
              show own_G p.tables e below s _ _ _ (s₁.setTop (mkF m 23 #[.val (.ref a1), .val (.ref a1), .val (.int (7 : Int32)), .val (.int (5 : Int32)), .val (.int c5)] [(.int (0 : Int32))]))
              exact own_retN X0 hx hlk (t := .boolean) (z' := (0 : Int32)) Bd.returns (by simp) (hb hby d1_7_23) (rfl) (by rw [e0]; exact ⟨by rw [← hr, if_pos (Or.inr (Or.inr (Or.inr (Or.inr (Or.inr (Or.inl hn5))))))], N0, rfl⟩) (by decide) (by decide)
            · refine own_go (fun t k => XS.ifYes X0.here hx rfl (pc0 := 19) (pc' := 24) rfl (hb hby d1_7_19) rfl (Jvm.Free.XT.i0_ge_t hn5) (by decide) (by decide) k) ?_
              show own_G p.tables e below s _ _ _ (s₁.setTop (mkF m 24 #[.val (.ref a1), .val (.ref a1), .val (.int (7 : Int32)), .val (.int (5 : Int32)), .val (.int c5)] []))
              refine own_go (fun t k => XS.iinc X0.here hx rfl (hb hby d1_7_24) rfl (l' := #[.val (.ref a1), .val (.ref a1), .val (.int (7 : Int32)), .val (.int (6 : Int32)), .val (.int c5)]) rfl k) ?_
              show own_G p.tables e below s _ _ _ (s₁.setTop (mkF m 27 #[.val (.ref a1), .val (.ref a1), .val (.int (7 : Int32)), .val (.int (6 : Int32)), .val (.int c5)] []))
              refine own_go (fun t k => XS.goto X0.here hx rfl (pc0 := 27) (pc' := 7) rfl (hb hby d1_7_27) (by decide) (by decide) k) ?_
              show own_G p.tables e below s _ _ _ (s₁.setTop (mkF m 7 #[.val (.ref a1), .val (.ref a1), .val (.int (7 : Int32)), .val (.int (6 : Int32)), .val (.int c5)] []))
              refine own_go (fun t k => XS.iloadN X0.here hx rfl (hb hby d1_7_7) rfl k) ?_
              show own_G p.tables e below s _ _ _ (s₁.setTop (mkF m 8 #[.val (.ref a1), .val (.ref a1), .val (.int (7 : Int32)), .val (.int (6 : Int32)), .val (.int c5)] [(.int (6 : Int32))]))
              refine own_go (fun t k => XS.iloadN X0.here hx rfl (hb hby d1_7_8) rfl k) ?_
              show own_G p.tables e below s _ _ _ (s₁.setTop (mkF m 9 #[.val (.ref a1), .val (.ref a1), .val (.int (7 : Int32)), .val (.int (6 : Int32)), .val (.int c5)] [(.int (7 : Int32)), (.int (6 : Int32))]))
              refine own_go (fun t k => XS.icmpNo X0.here hx rfl (hb hby d1_7_9) rfl (by decide) k) ?_
              show own_G p.tables e below s _ _ _ (s₁.setTop (mkF m 12 #[.val (.ref a1), .val (.ref a1), .val (.int (7 : Int32)), .val (.int (6 : Int32)), .val (.int c5)] []))
              refine own_go (fun t k => XS.aloadN X0.here hx rfl (hb hby d1_7_12) rfl rfl k) ?_
              show own_G p.tables e below s _ _ _ (s₁.setTop (mkF m 13 #[.val (.ref a1), .val (.ref a1), .val (.int (7 : Int32)), .val (.int (6 : Int32)), .val (.int c5)] [(.ref a1)]))
              refine own_go (fun t k => XS.iloadN X0.here hx rfl (hb hby d1_7_13) rfl k) ?_
              show own_G p.tables e below s _ _ _ (s₁.setTop (mkF m 14 #[.val (.ref a1), .val (.ref a1), .val (.int (7 : Int32)), .val (.int (6 : Int32)), .val (.int c5)] [(.int (6 : Int32)), (.ref a1)]))
              obtain ⟨cl36, Ar36, q36, S36, NN36, HH36, GG36⟩ := id V1
              have hin36 : ¬ ((6 : Int32) < 0 ∨ cl36.slots.size ≤ ((6 : Int32)).toNatClampNeg) := inb_of S36 ⟨by decide, by decide⟩
              have hat36 : cl36.slots[((6 : Int32)).toNatClampNeg]? = some (.int c6) := Has.at HH36 hin36 rfl
              refine own_go (fun t k => X0.baloadBytes hx (j := (6 : Int32)) (v := (.int c6)) (by rw [e0]; exact Ar36.1) (State.isArrayOf_alike hZ.alike Ar36.2.1) Ar36.2.2 hin36 hat36 (g := (mkF m 14 #[.val (.ref a1), .val (.ref a1), .val (.int (7 : Int32)), .val (.int (6 : Int32)), .val (.int c5)] [(.int (6 : Int32)), (.ref a1)])) rfl rfl (hb hby d1_7_14) _ k) ?_
              show own_G p.tables e below s _ _ _ (s₁.setTop (mkF m 15 #[.val (.ref a1), .val (.ref a1), .val (.int (7 : Int32)), .val (.int (6 : Int32)), .val (.int c5)] [(.int c6)]))
              refine own_go (fun t k => XS.istore X0.here hx rfl (hb hby d1_7_15) rfl (l' := #[.val (.ref a1), .val (.ref a1), .val (.int (7 : Int32)), .val (.int (6 : Int32)), .val (.int c6)]) rfl k) ?_
              show own_G p.tables e below s _ _ _ (s₁.setTop (mkF m 17 #[.val (.ref a1), .val (.ref a1), .val (.int (7 : Int32)), .val (.int (6 : Int32)), .val (.int c6)] []))
              refine own_go (fun t k => XS.iload X0.here hx rfl (hb hby d1_7_17) rfl k) ?_
              show own_G p.tables e below s _ _ _ (s₁.setTop (mkF m 19 #[.val (.ref a1), .val (.ref a1), .val (.int (7 : Int32)), .val (.int (6 : Int32)), .val (.int c6)] [(.int c6)]))
              by_cases hn6 : c6 < (0 : Int32)
              · refine own_go (fun t k => XS.ifNo X0.here hx rfl (hb hby d1_7_19) rfl (Jvm.Free.XT.i0_ge_f hn6) k) ?_
                show own_G p.tables e below s _ _ _ (s₁.setTop (mkF m 22 #[.val (.ref a1), .val (.ref a1), .val (.int (7 : Int32)), .val (.int (6 : Int32)), .val (.int c6)] []))
                refine own_go (fun t k => XS.iconst X0.here hx rfl (hb hby d1_7_22) k) ?_
                show own_G p.tables e below s _ _ _ (s₁.setTop (mkF m 23 #[.val (.ref a1), .val (.ref a1), .val (.int (7 : Int32)), .val (.int (6 : Int32)), .val (.int c6)] [(.int (0 : Int32))]))
                exact own_retN X0 hx hlk (t := .boolean) (z' := (0 : Int32)) Bd.returns (by simp) (hb hby d1_7_23) (rfl) (by rw [e0]; exact ⟨by rw [← hr, if_pos (Or.inr (Or.inr (Or.inr (Or.inr (Or.inr (Or.inr (hn6)))))))], N0, rfl⟩) (by decide) (by decide)
              · refine own_go (fun t k => XS.ifYes X0.here hx rfl (pc0 := 19) (pc' := 24) rfl (hb hby d1_7_19) rfl (Jvm.Free.XT.i0_ge_t hn6) (by decide) (by decide) k) ?_
                show own_G p.tables e below s _ _ _ (s₁.setTop (mkF m 24 #[.val (.ref a1), .val (.ref a1), .val (.int (7 : Int32)), .val (.int (6 : Int32)), .val (.int c6)] []))
                refine own_go (fun t k => XS.iinc X0.here hx rfl (hb hby d1_7_24) rfl (l' := #[.val (.ref a1), .val (.ref a1), .val (.int (7 : Int32)), .val (.int (7 : Int32)), .val (.int c6)]) rfl k) ?_
                show own_G p.tables e below s _ _ _ (s₁.setTop (mkF m 27 #[.val (.ref a1), .val (.ref a1), .val (.int (7 : Int32)), .val (.int (7 : Int32)), .val (.int c6)] []))
                refine own_go (fun t k => XS.goto X0.here hx rfl (pc0 := 27) (pc' := 7) rfl (hb hby d1_7_27) (by decide) (by decide) k) ?_
                show own_G p.tables e below s _ _ _ (s₁.setTop (mkF m 7 #[.val (.ref a1), .val (.ref a1), .val (.int (7 : Int32)), .val (.int (7 : Int32)), .val (.int c6)] []))
                refine own_go (fun t k => XS.iloadN X0.here hx rfl (hb hby d1_7_7) rfl k) ?_
                show own_G p.tables e below s _ _ _ (s₁.setTop (mkF m 8 #[.val (.ref a1), .val (.ref a1), .val (.int (7 : Int32)), .val (.int (7 : Int32)), .val (.int c6)] [(.int (7 : Int32))]))
                refine own_go (fun t k => XS.iloadN X0.here hx rfl (hb hby d1_7_8) rfl k) ?_
                show own_G p.tables e below s _ _ _ (s₁.setTop (mkF m 9 #[.val (.ref a1), .val (.ref a1), .val (.int (7 : Int32)), .val (.int (7 : Int32)), .val (.int c6)] [(.int (7 : Int32)), (.int (7 : Int32))]))
                refine own_go (fun t k => XS.icmpYes X0.here hx rfl (pc0 := 9) (pc' := 30) rfl (hb hby d1_7_9) rfl (by decide) (by decide) (by decide) k) ?_
                show own_G p.tables e below s _ _ _ (s₁.setTop (mkF m 30 #[.val (.ref a1), .val (.ref a1), .val (.int (7 : Int32)), .val (.int (7 : Int32)), .val (.int c6)] []))
                refine own_go (fun t k => XS.iconst X0.here hx rfl (hb hby d1_7_30) k) ?_
                show own_G p.tables e below s _ _ _ (s₁.setTop (mkF m 31 #[.val (.ref a1), .val (.ref a1), .val (.int (7 : Int32)), .val (.int (7 : Int32)), .val (.int c6)] [(.int (1 : Int32))]))
                exact own_retN X0 hx hlk (t := .boolean) (z' := (1 : Int32)) Bd.returns (by simp) (hb hby d1_7_31) (rfl) (by rw [e0]; exact ⟨by rw [← hr, if_neg (fun q => q.elim hn0 (fun q => q.elim hn1 (fun q => q.elim hn2 (fun q => q.elim hn3 (fun q => q.elim hn4 (fun q => q.elim hn5 hn6))))))], N0, rfl⟩) (by decide) (by decide)
theorem d1_8_0 : decode prog_92_method_13_code 0 = .ok (.aload_n 0, 1) := by decide +kernel
theorem d1_8_1 : decode prog_92_method_13_code 1 = .ok (.astore_n 1, 1) := by decide +kernel
theorem d1_8_2 : decode prog_92_method_13_code 2 = .ok (.aload_n 1, 1) := by decide +kernel
theorem d1_8_3 : decode prog_92_method_13_code 3 = .ok (.arraylength, 1) := by decide +kernel
theorem d1_8_4 : decode prog_92_method_13_code 4 = .ok (.istore_n 2, 1) := by decide +kernel
theorem d1_8_5 : decode prog_92_method_13_code 5 = .ok (.iconst 0, 1) := by decide +kernel
theorem d1_8_6 : decode prog_92_method_13_code 6 = .ok (.istore_n 3, 1) := by decide +kernel
theorem d1_8_7 : decode prog_92_method_13_code 7 = .ok (.iload_n 3, 1) := by decide +kernel
theorem d1_8_8 : decode prog_92_method_13_code 8 = .ok (.iload_n 2, 1) := by decide +kernel
theorem d1_8_9 : decode prog_92_method_13_code 9 = .ok (.if_icmp .ge 21, 3) := by decide +kernel
theorem d1_8_12 : decode prog_92_method_13_code 12 = .ok (.aload_n 1, 1) := by decide +kernel
theorem d1_8_13 : decode prog_92_method_13_code 13 = .ok (.iload_n 3, 1) := by decide +kernel
theorem d1_8_14 : decode prog_92_method_13_code 14 = .ok (.baload, 1) := by decide +kernel
theorem d1_8_15 : decode prog_92_method_13_code 15 = .ok (.istore 4, 2) := by decide +kernel
theorem d1_8_17 : decode prog_92_method_13_code 17 = .ok (.iload 4, 2) := by decide +kernel
theorem d1_8_19 : decode prog_92_method_13_code 19 = .ok (.ifCond .ge 5, 3) := by decide +kernel
theorem d1_8_22 : decode prog_92_method_13_code 22 = .ok (.iconst 0, 1) := by decide +kernel
theorem d1_8_23 : decode prog_92_method_13_code 23 = .ok (.ireturn, 1) := by decide +kernel
theorem d1_8_24 : decode prog_92_method_13_code 24 = .ok (.iinc 3 1, 3) := by decide +kernel
theorem d1_8_27 : decode prog_92_method_13_code 27 = .ok (.goto (-20), 3) := by decide +kernel
theorem d1_8_30 : decode prog_92_method_13_code 30 = .ok (.iconst 1, 1) := by decide +kernel
theorem d1_8_31 : decode prog_92_method_13_code 31 = .ok (.ireturn, 1) := by decide +kernel
theorem ef_1_8 (m : MethodId) (x0 : Addr) : entryFrame m #[(.ref x0)] 5 = mkF m 0 #[.val (.ref x0), .unset, .unset, .unset, .unset] [] := by first | (simp [entryFrame, mkF, argsToLocals, Value.category]; done) | rfl
def Q1_8 (Z : State) (a1 : Addr) (k1 : ClassId) (c0 c1 c2 c3 c4 c5 c6 c7 r : Int32) (h0 : Heap) (n0 : Nat) (v : Option Value) (h : Heap) (L : List Loc) : Prop := v = some (.int r) ∧ Fr n0 L ∧ h = h0
set_option maxRecDepth 65536 in
set_option maxHeartbeats 40000000 in
theorem rm1_8 (l : Launch) (Z : State) (a0 : Array Value) (hw : ∀ d ∈ tables_1, d.before a0 Z = true) (ws : List Jvm.Cond) (a1 : Addr) (k1 : ClassId) (c0 c1 c2 c3 c4 c5 c6 c7 r : Int32) (h0 : Heap) (n0 : Nat) (Z0 : n0 ≤ h0.size) (V1 : Arv Z h0 a1 k1 .byte (8 : Int32) [(.int c0), (.int c1), (.int c2), (.int c3), (.int c4), (.int c5), (.int c6), (.int c7)] (.int (0 : Int32))) (hr : (if c0 < (0 : Int32) ∨ c1 < (0 : Int32) ∨ c2 < (0 : Int32) ∨ c3 < (0 : Int32) ∨ c4 < (0 : Int32) ∨ c5 < (0 : Int32) ∨ c6 < (0 : Int32) ∨ c7 < (0 : Int32) then (0 : Int32) else 1) = r) :
    MetFree l (⟨"com/example/cartulary/cartulary/model/Syntax", "isAscii", "([B)Z"⟩ : MethodName) (head1 (Jvm.Cond.code (⟨"com/example/cartulary/cartulary/model/Syntax", "isAscii", "([B)Z"⟩ : MethodName) prog_92_method_13_code 5 (some .boolean) :: ws) ({ frames := 0, cells := 0, slots := 0, locals := 0 } : Room)) (fun a U => a = #[(.ref a1)] ∧ Z.Warmed39 U.vm ∧ U.heap = h0) (fun _ _ _ _ _ => True) (fun _ U o U' => ∃ v L, o = .returned v ∧ Q1_8 Z a1 k1 c0 c1 c2 c3 c4 c5 c6 c7 r h0 n0 v U'.heap L ∧ FrameEnd U o U' L ({ frames := 0, cells := 0, slots := 0, locals := 0 } : Room).cells ({ frames := 0, cells := 0, slots := 0, locals := 0 } : Room).slots) := by
  refine MetFree.of_bodySF (plainFor_of_name pn_com_example_cartulary_cartulary_model_Syntax) hisR ?_
  intro p e s m args below meth c s₁ Bd hml0 hP hK
  obtain ⟨rfl, hZ, hh⟩ := hP
  have hx := Bd.exec
  have hby := Bd.bytes
  have hlk : meth.locks = false := BodyLoose.notSynchronized Bd
  have hml : c.maxLocals = 5 := hml0
  have hown : s.vm.findClass "com/example/cartulary/cartulary/model/Syntax" = some m.cls := findClass_of_methodNamed Bd.named
  have hnm := (name_of_methodNamed Bd.named Bd.method).1
  have X0 : Stand p l e ({ frames := 0, cells := 0, slots := 0, locals := 0 } : Room) s m #[(.ref a1)] below meth c s₁ [] 0 0 := Stand.of_body Bd
  have e0 : s₁.heap = h0 := by rw [← hh, Bd.state]; rfl
  have N0 := Fr.nil n0
  show own_G p.tables e below s (Q1_8 Z a1 k1 c0 c1 c2 c3 c4 c5 c6 c7 r h0 n0) ({ frames := 0, cells := 0, slots := 0, locals := 0 } : Room).cells ({ frames := 0, cells := 0, slots := 0, locals := 0 } : Room).slots (s₁.setTop (entryFrame m #[(.ref a1)] 5))
  refine own_go (fun t k => castTop (ef_1_8 m a1) k) ?_
  show own_G p.tables e below s _ _ _ (s₁.setTop (mkF m 0 #[.val (.ref a1), .unset, .unset, .unset, .unset] []))
  refine own_go (fun t k => XS.aloadN X0.here hx rfl (hb hby d1_8_0) rfl rfl k) ?_
  show own_G p.tables e below s _ _ _ (s₁.setTop (mkF m 1 #[.val (.ref a1), .unset, .unset, .unset, .unset] [(.ref a1)]))
  refine own_go (fun t k => XS.astoreN X0.here hx rfl (hb hby d1_8_1) rfl rfl (l' := #[.val (.ref a1), .val (.ref a1), .unset, .unset, .unset]) rfl k) ?_
  show own_G p.tables e below s _ _ _ (s₁.setTop (mkF m 2 #[.val (.ref a1), .val (.ref a1), .unset, .unset, .unset] []))
  refine own_go (fun t k => XS.aloadN X0.here hx rfl (hb hby d1_8_2) rfl rfl k) ?_
  show own_G p.tables e below s _ _ _ (s₁.setTop (mkF m 3 #[.val (.ref a1), .val (.ref a1), .unset, .unset, .unset] [(.ref a1)]))
  obtain ⟨cl37, Ar37, q37, S37, NN37, HH37, GG37⟩ := id V1
  have hlen37 := len_of S37 NN37
  refine own_go (A := s₁.setTop (mkF m 4 #[.val (.ref a1), .val (.ref a1), .unset, .unset, .unset] [(.int (8 : Int32))])) (fun t k => X0.arraylength hx (by rw [e0]; exact Ar37.1) (State.isArrayOf_alike hZ.alike Ar37.2.1) (g := (mkF m 3 #[.val (.ref a1), .val (.ref a1), .unset, .unset, .unset] [(.ref a1)])) rfl rfl (hb hby d1_8_3) _ (by rw [hlen37]; exact k)) ?_
  show own_G p.tables e below s _ _ _ (s₁.setTop (mkF m 4 #[.val (.ref a1), .val (.ref a1), .unset, .unset, .unset] [(.int (8 : Int32))]))
  refine own_go (fun t k => XS.istoreN X0.here hx rfl (hb hby d1_8_4) rfl (l' := #[.val (.ref a1), .val (.ref a1), .val (.int (8 : Int32)), .unset, .unset]) rfl k) ?_
  show own_G p.tables e below s _ _ _ (s₁.setTop (mkF m 5 #[.val (.ref a1), .val (.ref a1), .val (.int (8 : Int32)), .unset, .unset] []))
  refine own_go (fun t k => XS.iconst X0.here hx rfl (hb hby d1_8_5) k) ?_
  show own_G p.tables e below s _ _ _ (s₁.setTop (mkF m 6 #[.val (.ref a1), .val (.ref a1), .val (.int (8 : Int32)), .unset, .unset] [(.int (0 : Int32))]))
  refine own_go (fun t k => XS.istoreN X0.here hx rfl (hb hby d1_8_6) rfl (l' := #[.val (.ref a1), .val (.ref a1), .val (.int (8 : Int32)), .val (.int (0 : Int32)), .unset]) rfl k) ?_
  show own_G p.tables e below s _ _ _ (s₁.setTop (mkF m 7 #[.val (.ref a1), .val (.ref a1), .val (.int (8 : Int32)), .val (.int (0 : Int32)), .unset] []))
  refine own_go (fun t k => XS.iloadN X0.here hx rfl (hb hby d1_8_7) rfl k) ?_
  show own_G p.tables e below s _ _ _ (s₁.setTop (mkF m 8 #[.val (.ref a1), .val (.ref a1), .val (.int (8 : Int32)), .val (.int (0 : Int32)), .unset] [(.int (0 : Int32))]))
  refine own_go (fun t k => XS.iloadN X0.here hx rfl (hb hby d1_8_8) rfl k) ?_
  show own_G p.tables e below s _ _ _ (s₁.setTop (mkF m 9 #[.val (.ref a1), .val (.ref a1), .val (.int (8 : Int32)), .val (.int (0 : Int32)), .unset] [(.int (8 : Int32)), (.int (0 : Int32))]))
  refine own_go (fun t k => XS.icmpNo X0.here hx rfl (hb hby d1_8_9) rfl (by decide) k) ?_
  show own_G p.tables e below s _ _ _ (s₁.setTop (mkF m 12 #[.val (.ref a1), .val (.ref a1), .val (.int (8 : Int32)), .val (.int (0 : Int32)), .unset] []))
  refine own_go (fun t k => XS.aloadN X0.here hx rfl (hb hby d1_8_12) rfl rfl k) ?_
  show own_G p.tables e below s _ _ _ (s₁.setTop (mkF m 13 #[.val (.ref a1), .val (.ref a1), .val (.int (8 : Int32)), .val (.int (0 : Int32)), .unset] [(.ref a1)]))
  refine own_go (fun t k => XS.iloadN X0.here hx rfl (hb hby d1_8_13) rfl k) ?_
  show own_G p.tables e below s _ _ _ (s₁.setTop (mkF m 14 #[.val (.ref a1), .val (.ref a1), .val (.int (8 : Int32)), .val (.int (0 : Int32)), .unset] [(.int (0 : Int32)), (.ref a1)]))
  obtain ⟨cl38, Ar38, q38, S38, NN38, HH38, GG38⟩ := id V1
  have hin38 : ¬ ((0 : Int32) < 0 ∨ cl38.slots.size ≤ ((0 : Int32)).toNatClampNeg) := inb_of S38 ⟨by decide, by decide⟩
  have hat38 : cl38.slots[((0 : Int32)).toNatClampNeg]? = some (.int c0) := Has.at HH38 hin38 rfl
  refine own_go (fun t k => X0.baloadBytes hx (j := (0 : Int32)) (v := (.int c0)) (by rw [e0]; exact Ar38.1) (State.isArrayOf_alike hZ.alike Ar38.2.1) Ar38.2.2 hin38 hat38 (g := (mkF m 14 #[.val (.ref a1), .val (.ref a1), .val (.int (8 : Int32)), .val (.int (0 : Int32)), .unset] [(.int (0 : Int32)), (.ref a1)])) rfl rfl (hb hby d1_8_14) _ k) ?_
  show own_G p.tables e below s _ _ _ (s₁.setTop (mkF m 15 #[.val (.ref a1), .val (.ref a1), .val (.int (8 : Int32)), .val (.int (0 : Int32)), .unset] [(.int c0)]))
  refine own_go (fun t k => XS.istore X0.here hx rfl (hb hby d1_8_15) rfl (l' := #[.val (.ref a1), .val (.ref a1), .val (.int (8 : Int32)), .val (.int (0 : Int32)), .val (.int c0)]) rfl k) ?_
  show own_G p.tables e below s _ _ _ (s₁.setTop (mkF m 17 #[.val (.ref a1), .val (.ref a1), .val (.int (8 : Int32)), .val (.int (0 : Int32)), .val (.int c0)] []))
  refine own_go (fun t k => XS.iload X0.here hx rfl (hb hby d1_8_17) rfl k) ?_
  show own_G p.tables e below s _ _ _ (s₁.setTop (mkF m 19 #[.val (.ref a1), .val (.ref a1), .val (.int (8 : Int32)), .val (.int (0 : Int32)), .val (.int c0)] [(.int c0)]))
  by_cases hn0 : c0 < (0 : Int32)
  · refine own_go (fun t k => XS.ifNo X0.here hx rfl (hb hby d1_8_19) rfl (Jvm.Free.XT.i0_ge_f hn0) k) ?_
    show own_G p.tables e below s _ _ _ (s₁.setTop (mkF m 22 #[.val (.ref a1), .val (.ref a1), .val (.int (8 : Int32)), .val (.int (0 : Int32)), .val (.int c0)] []))
    refine own_go (fun t k => XS.iconst X0.here hx rfl (hb hby d1_8_22) k) ?_
    show own_G p.tables e below s _ _ _ (s₁.setTop (mkF m 23 #[.val (.ref a1), .val (.ref a1), .val (.int (8 : Int32)), .val (.int (0 : Int32)), .val (.int c0)] [(.int (0 : Int32))]))
    exact own_retN X0 hx hlk (t := .boolean) (z' := (0 : Int32)) Bd.returns (by simp) (hb hby d1_8_23) (rfl) (by rw [e0]; exact ⟨by rw [← hr, if_pos (Or.inl hn0)], N0, rfl⟩) (by decide) (by decide)
  · refine own_go (fun t k => XS.ifYes X0.here hx rfl (pc0 := 19) (pc' := 24) rfl (hb hby d1_8_19) rfl (Jvm.Free.XT.i0_ge_t hn0) (by decide) (by decide) k) ?_
    show own_G p.tables e below s _ _ _ (s₁.setTop (mkF m 24 #[.val (.ref a1), .val (.ref a1), .val (.int (8 : Int32)), .val (.int (0 : Int32)), .val (.int c0)] []))
    refine own_go (fun t k => XS.iinc X0.here hx rfl (hb hby d1_8_24) rfl (l' := #[.val (.ref a1), .val (.ref a1), .val (.int (8 : Int32)), .val (.int (1 : Int32)), .val (.int c0)]) rfl k) ?_
    show own_G p.tables e below s _ _ _ (s₁.setTop (mkF m 27 #[.val (.ref a1), .val (.ref a1), .val (.int (8 : Int32)), .val (.int (1 : Int32)), .val (.int c0)] []))
    refine own_go (fun t k => XS.goto X0.here hx rfl (pc0 := 27) (pc' := 7) rfl (hb hby d1_8_27) (by decide) (by decide) k) ?_
    show own_G p.tables e below s _ _ _ (s₁.setTop (mkF m 7 #[.val (.ref a1), .val (.ref a1), .val (.int (8 : Int32)), .val (.int (1 : Int32)), .val (.int c0)] []))
    refine own_go (fun t k => XS.iloadN X0.here hx rfl (hb hby d1_8_7) rfl k) ?_
    show own_G p.tables e below s _ _ _ (s₁.setTop (mkF m 8 #[.val (.ref a1), .val (.ref a1), .val (.int (8 : Int32)), .val (.int (1 : Int32)), .val (.int c0)] [(.int (1 : Int32))]))
    refine own_go (fun t k => XS.iloadN X0.here hx rfl (hb hby d1_8_8) rfl k) ?_
    show own_G p.tables e below s _ _ _ (s₁.setTop (mkF m 9 #[.val (.ref a1), .val (.ref a1), .val (.int (8 : Int32)), .val (.int (1 : Int32)), .val (.int c0)] [(.int (8 : Int32)), (.int (1 : Int32))]))
    refine own_go (fun t k => XS.icmpNo X0.here hx rfl (hb hby d1_8_9) rfl (by decide) k) ?_
    show own_G p.tables e below s _ _ _ (s₁.setTop (mkF m 12 #[.val (.ref a1), .val (.ref a1), .val (.int (8 : Int32)), .val (.int (1 : Int32)), .val (.int c0)] []))
    refine own_go (fun t k => XS.aloadN X0.here hx rfl (hb hby d1_8_12) rfl rfl k) ?_
    show own_G p.tables e below s _ _ _ (s₁.setTop (mkF m 13 #[.val (.ref a1), .val (.ref a1), .val (.int (8 : Int32)), .val (.int (1 : Int32)), .val (.int c0)] [(.ref a1)]))
    refine own_go (fun t k => XS.iloadN X0.here hx rfl (hb hby d1_8_13) rfl k) ?_
    show own_G p.tables e below s _ _ _ (s₁.setTop (mkF m 14 #[.val (.ref a1), .val (.ref a1), .val (.int (8 : Int32)), .val (.int (1 : Int32)), .val (.int c0)] [(.int (1 : Int32)), (.ref a1)]))
    obtain ⟨cl39, Ar39, q39, S39, NN39, HH39, GG39⟩ := id V1
    have hin39 : ¬ ((1 : Int32) < 0 ∨ cl39.slots.size ≤ ((1 : Int32)).toNatClampNeg) := inb_of S39 ⟨by decide, by decide⟩
    have hat39 : cl39.slots[((1 : Int32)).toNatClampNeg]? = some (.int c1) := Has.at HH39 hin39 rfl
    refine own_go (fun t k => X0.baloadBytes hx (j := (1 : Int32)) (v := (.int c1)) (by rw [e0]; exact Ar39.1) (State.isArrayOf_alike hZ.alike Ar39.2.1) Ar39.2.2 hin39 hat39 (g := (mkF m 14 #[.val (.ref a1), .val (.ref a1), .val (.int (8 : Int32)), .val (.int (1 : Int32)), .val (.int c0)] [(.int (1 : Int32)), (.ref a1)])) rfl rfl (hb hby d1_8_14) _ k) ?_
    show own_G p.tables e below s _ _ _ (s₁.setTop (mkF m 15 #[.val (.ref a1), .val (.ref a1), .val (.int (8 : Int32)), .val (.int (1 : Int32)), .val (.int c0)] [(.int c1)]))
    refine own_go (fun t k => XS.istore X0.here hx rfl (hb hby d1_8_15) rfl (l' := #[.val (.ref a1), .val (.ref a1), .val (.int (8 : Int32)), .val (.int (1 : Int32)), .val (.int c1)]) rfl k) ?_
    show own_G p.tables e below s _ _ _ (s₁.setTop (mkF m 17 #[.val (.ref a1), .val (.ref a1), .val (.int (8 : Int32)), .val (.int (1 : Int32)), .val (.int c1)] []))
    refine own_go (fun t k => XS.iload X0.here hx rfl (hb hby d1_8_17) rfl k) ?_
    show own_G p.tables e below s _ _ _ (s₁.setTop (mkF m 19 #[.val (.ref a1), .val (.ref a1), .val (.int (8 : Int32)), .val (.int (1 : Int32)), .val (.int c1)] [(.int c1)]))
    by_cases hn1 : c1 < (0 : Int32)
    · refine own_go (fun t k => XS.ifNo X0.here hx rfl (hb hby d1_8_19) rfl (Jvm.Free.XT.i0_ge_f hn1) k) ?_
      show own_G p.tables e below s _ _ _ (s₁.setTop (mkF m 22 #[.val (.ref a1), .val (.ref a1), .val (.int (8 : Int32)), .val (.int (1 : Int32)), .val (.int c1)] []))
      refine own_go (fun t k => XS.iconst X0.here hx rfl (hb hby d1_8_22) k) ?_
      show own_G p.tables e below s _ _ _ (s₁.setTop (mkF m 23 #[.val (.ref a1), .val (.ref a1), .val (.int (8 : Int32)), .val (.int (1 : Int32)), .val (.int c1)] [(.int (0 : Int32))]))
      exact own_retN X0 hx hlk (t := .boolean) (z' := (0 : Int32)) Bd.returns (by simp) (hb hby d1_8_23) (rfl) (by rw [e0]; exact ⟨by rw [← hr, if_pos (Or.inr (Or.inl hn1))], N0, rfl⟩) (by decide) (by decide)
    · refine own_go (fun t k => XS.ifYes X0.here hx rfl (pc0 := 19) (pc' := 24) rfl (hb hby d1_8_19) rfl (Jvm.Free.XT.i0_ge_t hn1) (by decide) (by decide) k) ?_
      show own_G p.tables e below s _ _ _ (s₁.setTop (mkF m 24 #[.val (.ref a1), .val (.ref a1), .val (.int (8 : Int32)), .val (.int (1 : Int32)), .val (.int c1)] []))
      refine own_go (fun t k => XS.iinc X0.here hx rfl (hb hby d1_8_24) rfl (l' := #[.val (.ref a1), .val (.ref a1), .val (.int (8 : Int32)), .val (.int (2 : Int32)), .val (.int c1)]) rfl k) ?_
      show own_G p.tables e below s _ _ _ (s₁.setTop (mkF m 27 #[.val (.ref a1), .val (.ref a1), .val (.int (8 : Int32)), .val (.int (2 : Int32)), .val (.int c1)] []))
      refine own_go (fun t k => XS.goto X0.here hx rfl (pc0 := 27) (pc' := 7) rfl (hb hby d1_8_27) (by decide) (by decide) k) ?_
      show own_G p.tables e below s _ _ _ (s₁.setTop (mkF m 7 #[.val (.ref a1), .val (.ref a1), .val (.int (8 : Int32)), .val (.int (2 : Int32)), .val (.int c1)] []))
      refine own_go (fun t k => XS.iloadN X0.here hx rfl (hb hby d1_8_7) rfl k) ?_
      show own_G p.tables e below s _ _ _ (s₁.setTop (mkF m 8 #[.val (.ref a1), .val (.ref a1), .val (.int (8 : Int32)), .val (.int (2 : Int32)), .val (.int c1)] [(.int (2 : Int32))]))
      refine own_go (fun t k => XS.iloadN X0.here hx rfl (hb hby d1_8_8) rfl k) ?_
      show own_G p.tables e below s _ _ _ (s₁.setTop (mkF m 9 #[.val (.ref a1), .val (.ref a1), .val (.int (8 : Int32)), .val (.int (2 : Int32)), .val (.int c1)] [(.int (8 : Int32)), (.int (2 : Int32))]))
      refine own_go (fun t k => XS.icmpNo X0.here hx rfl (hb hby d1_8_9) rfl (by decide) k) ?_
      show own_G p.tables e below s _ _ _ (s₁.setTop (mkF m 12 #[.val (.ref a1), .val (.ref a1), .val (.int (8 : Int32)), .val (.int (2 : Int32)), .val (.int c1)] []))
      refine own_go (fun t k => XS.aloadN X0.here hx rfl (hb hby d1_8_12) rfl rfl k) ?_
      show own_G p.tables e below s _ _ _ (s₁.setTop (mkF m 13 #[.val (.ref a1), .val (.ref a1), .val (.int (8 : Int32)), .val (.int (2 : Int32)), .val (.int c1)] [(.ref a1)]))
      refine own_go (fun t k => XS.iloadN X0.here hx rfl (hb hby d1_8_13) rfl k) ?_
      show own_G p.tables e below s _ _ _ (s₁.setTop (mkF m 14 #[.val (.ref a1), .val (.ref a1), .val (.int (8 : Int32)), .val (.int (2 : Int32)), .val (.int c1)] [(.int (2 : Int32)), (.ref a1)]))
      obtain ⟨cl40, Ar40, q40, S40, NN40, HH40, GG40⟩ := id V1
      have hin40 : ¬ ((2 : Int32) < 0 ∨ cl40.slots.size ≤ ((2 : Int32)).toNatClampNeg) := inb_of S40 ⟨by decide, by decide⟩
      have hat40 : cl40.slots[((2 : Int32)).toNatClampNeg]? = some (.int c2) := Has.at HH40 hin40 rfl
      refine own_go (fun t k => X0.baloadBytes hx (j := (2 : Int32)) (v := (.int c2)) (by rw [e0]; exact Ar40.1) (State.isArrayOf_alike hZ.alike Ar40.2.1) Ar40.2.2 hin40 hat40 (g := (mkF m 14 #[.val (.ref a1), .val (.ref a1), .val (.int (8 : Int32)), .val (.int (2 : Int32)), .val (.int c1)] [(.int (2 : Int32)), (.ref a1)])) rfl rfl (hb hby d1_8_14) _ k) ?_
      show own_G p.tables e below s _ _ _ (s₁.setTop (mkF m 15 #[.val (.ref a1), .val (.ref a1), .val (.int (8 : Int32)), .val (.int (2 : Int32)), .val (.int c1)] [(.int c2)]))
      refine own_go (fun t k => XS.istore X0.here hx rfl (hb hby d1_8_15) rfl (l' := #[.val (.ref a1), .val (.ref a1), .val (.int (8 : Int32)), .val (.int (2 : Int32)), .val (.int c2)]) rfl k) ?_
      show own_G p.tables e below s _ _ _ (s₁.setTop (mkF m 17 #[.val (.ref a1), .val (.ref a1), .val (.int (8 : Int32)), .val (.int (2 : Int32)), .val (.int c2)] []))
      refine own_go (fun t k => XS.iload X0.here hx rfl (hb hby d1_8_17) rfl k) ?_
      show own_G p.tables e below s _ _ _ (s₁.setTop (mkF m 19 #[.val (.ref a1), .val (.ref a1), .val (.int (8 : Int32)), .val (.int (2 : Int32)), .val (.int c2)] [(.int c2)]))
      by_cases hn2 : c2 < (0 : Int32)
      · refine own_go (fun t k => XS.ifNo X0.here hx rfl (hb hby d1_8_19) rfl (Jvm.Free.XT.i0_ge_f hn2) k) ?_
        show own_G p.tables e below s _ _ _ (s₁.setTop (mkF m 22 #[.val (.ref a1), .val (.ref a1), .val (.int (8 : Int32)), .val (.int (2 : Int32)), .val (.int c2)] []))
        refine own_go (fun t k => XS.iconst X0.here hx rfl (hb hby d1_8_22) k) ?_
        show own_G p.tables e below s _ _ _ (s₁.setTop (mkF m 23 #[.val (.ref a1), .val (.ref a1), .val (.int (8 : Int32)), .val (.int (2 : Int32)), .val (.int c2)] [(.int (0 : Int32))]))
        exact own_retN X0 hx hlk (t := .boolean) (z' := (0 : Int32)) Bd.returns (by simp) (hb hby d1_8_23) (rfl) (by rw [e0]; exact ⟨by rw [← hr, if_pos (Or.inr (Or.inr (Or.inl hn2)))], N0, rfl⟩) (by decide) (by decide)
      · refine own_go (fun t k => XS.ifYes X0.here hx rfl (pc0 := 19) (pc' := 24) rfl (hb hby d1_8_19) rfl (Jvm.Free.XT.i0_ge_t hn2) (by decide) (by decide) k) ?_
        show own_G p.tables e below s _ _ _ (s₁.setTop (mkF m 24 #[.val (.ref a1), .val (.ref a1), .val (.int (8 : Int32)), .val (.int (2 : Int32)), .val (.int c2)] []))
        refine own_go (fun t k => XS.iinc X0.here hx rfl (hb hby d1_8_24) rfl (l' := #[.val (.ref a1), .val (.ref a1), .val (.int (8 : Int32)), .val (.int (3 : Int32)), .val (.int c2)]) rfl k) ?_
        show own_G p.tables e below s _ _ _ (s₁.setTop (mkF m 27 #[.val (.ref a1), .val (.ref a1), .val (.int (8 : Int32)), .val (.int (3 : Int32)), .val (.int c2)] []))
        refine own_go (fun t k => XS.goto X0.here hx rfl (pc0 := 27) (pc' := 7) rfl (hb hby d1_8_27) (by decide) (by decide) k) ?_
        show own_G p.tables e below s _ _ _ (s₁.setTop (mkF m 7 #[.val (.ref a1), .val (.ref a1), .val (.int (8 : Int32)), .val (.int (3 : Int32)), .val (.int c2)] []))
        refine own_go (fun t k => XS.iloadN X0.here hx rfl (hb hby d1_8_7) rfl k) ?_
        show own_G p.tables e below s _ _ _ (s₁.setTop (mkF m 8 #[.val (.ref a1), .val (.ref a1), .val (.int (8 : Int32)), .val (.int (3 : Int32)), .val (.int c2)] [(.int (3 : Int32))]))
        refine own_go (fun t k => XS.iloadN X0.here hx rfl (hb hby d1_8_8) rfl k) ?_
        show own_G p.tables e below s _ _ _ (s₁.setTop (mkF m 9 #[.val (.ref a1), .val (.ref a1), .val (.int (8 : Int32)), .val (.int (3 : Int32)), .val (.int c2)] [(.int (8 : Int32)), (.int (3 : Int32))]))
        refine own_go (fun t k => XS.icmpNo X0.here hx rfl (hb hby d1_8_9) rfl (by decide) k) ?_
        show own_G p.tables e below s _ _ _ (s₁.setTop (mkF m 12 #[.val (.ref a1), .val (.ref a1), .val (.int (8 : Int32)), .val (.int (3 : Int32)), .val (.int c2)] []))
        refine own_go (fun t k => XS.aloadN X0.here hx rfl (hb hby d1_8_12) rfl rfl k) ?_
        show own_G p.tables e below s _ _ _ (s₁.setTop (mkF m 13 #[.val (.ref a1), .val (.ref a1), .val (.int (8 : Int32)), .val (.int (3 : Int32)), .val (.int c2)] [(.ref a1)]))
        refine own_go (fun t k => XS.iloadN X0.here hx rfl (hb hby d1_8_13) rfl k) ?_
        show own_G p.tables e below s _ _ _ (s₁.setTop (mkF m 14 #[.val (.ref a1), .val (.ref a1), .val (.int (8 : Int32)), .val (.int (3 : Int32)), .val (.int c2)] [(.int (3 : Int32)), (.ref a1)]))
        obtain ⟨cl41, Ar41, q41, S41, NN41, HH41, GG41⟩ := id V1
        have hin41 : ¬ ((3 : Int32) < 0 ∨ cl41.slots.size ≤ ((3 : Int32)).toNatClampNeg) := inb_of S41 ⟨by decide, by decide⟩
        have hat41 : cl41.slots[((3 : Int32)).toNatClampNeg]? = some (.int c3) := Has.at HH41 hin41 rfl
        refine own_go (fun t k => X0.baloadBytes hx (j := (3 : Int32)) (v := (.int c3)) (by rw [e0]; exact Ar41.1) (State.isArrayOf_alike hZ.alike Ar41.2.1) Ar41.2.2 hin41 hat41 (g := (mkF m 14 #[.val (.ref a1), .val (.ref a1), .val (.int (8 : Int32)), .val (.int (3 : Int32)), .val (.int c2)] [(.int (3 : Int32)), (.ref a1)])) rfl rfl (hb hby d1_8_14) _ k) ?_
        show own_G p.tables e below s _ _ _ (s₁.setTop (mkF m 15 #[.val (.ref a1), .val (.ref a1), .val (.int (8 : Int32)), .val (.int (3 : Int32)), .val (.int c2)] [(.int c3)]))
        refine own_go (fun t k => XS.istore X0.here hx rfl (hb hby d1_8_15) rfl (l' := #[.val (.ref a1), .val (.ref a1), .val (.int (8 : Int32)), .val (.int (3 : Int32)), .val (.int c3)]) rfl k) ?_
        show own_G p.tables e below s _ _ _ (s₁.setTop (mkF m 17 #[.val (.ref a1), .val (.ref a1), .val (.int (8 : Int32)), .val (.int (3 : Int32)), .val (.int c3)] []))
        refine own_go (fun t k => XS.iload X0.here hx rfl (hb hby d1_8_17) rfl k) ?_
        show own_G p.tables e below s _ _ _ (s₁.setTop (mkF m 19 #[.val (.ref a1), .val (.ref a1), .val (.int (8 : Int32)), .val (.int (3 : Int32)), .val (.int c3)] [(.int c3)]))
        by_cases hn3 : c3 < (0 : Int32)
        · refine own_go (fun t k => XS.ifNo X0.here hx rfl (hb hby d1_8_19) rfl (Jvm.Free.XT.i0_ge_f hn3) k) ?_
          show own_G p.tables e below s _ _ _ (s₁.setTop (mkF m 22 #[.val (.ref a1), .val (.ref a1), .val (.int (8 : Int32)), .val (.int (3 : Int32)), .val (.int c3)] []))
          refine own_go (fun t k => XS.iconst X0.here hx rfl (hb hby d1_8_22) k) ?_
          show own_G p.tables e below s _ _ _ (s₁.setTop (mkF m 23 #[.val (.ref a1), .val (.ref a1), .val (.int (8 : Int32)), .val (.int (3 : Int32)), .val (.int c3)] [(.int (0 : Int32))]))
          exact own_retN X0 hx hlk (t := .boolean) (z' := (0 : Int32)) Bd.returns (by simp) (hb hby d1_8_23) (rfl) (by rw [e0]; exact ⟨by rw [← hr, if_pos (Or.inr (Or.inr (Or.inr (Or.inl hn3))))], N0, rfl⟩) (by decide) (by decide)
        · refine own_go (fun t k => XS.ifYes X0.here hx rfl (pc0 := 19) (pc' := 24) rfl (hb hby d1_8_19) rfl (Jvm.Free.XT.i0_ge_t hn3) (by decide) (by decide) k) ?_
          show own_G p.tables e below s _ _ _ (s₁.setTop (mkF m 24 #[.val (.ref a1), .val (.ref a1), .val (.int (8 : Int32)), .val (.int (3 : Int32)), .val (.int c3)] []))
          refine own_go (fun t k => XS.iinc X0.here hx rfl (hb hby d1_8_24) rfl (l' := #[.val (.ref a1), .val (.ref a1), .val (.int (8 : Int32)), .val (.int (4 : Int32)), .val (.int c3)]) rfl k) ?_
          show own_G p.tables e below s _ _ _ (s₁.setTop (mkF m 27 #[.val (.ref a1), .val (.ref a1), .val (.int (8 : Int32)), .val (.int (4 : Int32)), .val (.int c3)] []))
          refine own_go (fun t k => XS.goto X0.here hx rfl (pc0 := 27) (pc' := 7) rfl (hb hby d1_8_27) (by decide) (by decide) k) ?_
          show own_G p.tables e below s _ _ _ (s₁.setTop (mkF m 7 #[.val (.ref a1), .val (.ref a1), .val (.int (8 : Int32)), .val (.int (4 : Int32)), .val (.int c3)] []))
          refine own_go (fun t k => XS.iloadN X0.here hx rfl (hb hby d1_8_7) rfl k) ?_
          show own_G p.tables e below s _ _ _ (s₁.setTop (mkF m 8 #[.val (.ref a1), .val (.ref a1), .val (.int (8 : Int32)), .val (.int (4 : Int32)), .val (.int c3)] [(.int (4 : Int32))]))
          refine own_go (fun t k => XS.iloadN X0.here hx rfl (hb hby d1_8_8) rfl k) ?_
          show own_G p.tables e below s _ _ _ (s₁.setTop (mkF m 9 #[.val (.ref a1), .val (.ref a1), .val (.int (8 : Int32)), .val (.int (4 : Int32)), .val (.int c3)] [(.int (8 : Int32)), (.int (4 : Int32))]))
          refine own_go (fun t k => XS.icmpNo X0.here hx rfl (hb hby d1_8_9) rfl (by decide) k) ?_
          show own_G p.tables e below s _ _ _ (s₁.setTop (mkF m 12 #[.val (.ref a1), .val (.ref a1), .val (.int (8 : Int32)), .val (.int (4 : Int32)), .val (.int c3)] []))
          refine own_go (fun t k => XS.aloadN X0.here hx rfl (hb hby d1_8_12) rfl rfl k) ?_
          show own_G p.tables e below s _ _ _ (s₁.setTop (mkF m 13 #[.val (.ref a1), .val (.ref a1), .val (.int (8 : Int32)), .val (.int (4 : Int32)), .val (.int c3)] [(.ref a1)]))
          refine own_go (fun t k => XS.iloadN X0.here hx rfl (hb hby d1_8_13) rfl k) ?_
          show own_G p.tables e below s _ _ _ (s₁.setTop (mkF m 14 #[.val (.ref a1), .val (.ref a1), .val (.int (8 : Int32)), .val (.int (4 : Int32)), .val (.int c3)] [(.int (4 : Int32)), (.ref a1)]))
          obtain ⟨cl42, Ar42, q42, S42, NN42, HH42, GG42⟩ := id V1
          have hin42 : ¬ ((4 : Int32) < 0 ∨ cl42.slots.size ≤ ((4 : Int32)).toNatClampNeg) := inb_of S42 ⟨by decide, by decide⟩
          have hat42 : cl42.slots[((4 : Int32)).toNatClampNeg]? = some (.int c4) := Has.at HH42 hin42 rfl
          refine own_go (fun t k => X0.baloadBytes hx (j := (4 : Int32)) (v := (.int c4)) (by rw [e0]; exact Ar42.1) (State.isArrayOf_alike hZ.alike Ar42.2.1) Ar42.2.2 hin42 hat42 (g := (mkF m 14 #[.val (.ref a1), .val (.ref a1), .val (.int (8 : Int32)), .val (.int (4 : Int32)), .val (.int c3)] [(.int (4 : Int32)), (.ref a1)])) rfl rfl (hb hby d1_8_14) _ k) ?_
          show own_G p.tables e below s _ _ _ (s₁.setTop (mkF m 15 #[.val (.ref a1), .val (.ref a1), .val (.int (8 : Int32)), .val (.int (4 : Int32)), .val (.int c3)] [(.int c4)]))
          refine own_go (fun t k => XS.istore X0.here hx rfl (hb hby d1_8_15) rfl (l' := #[.val (.ref a1), .val (.ref a1), .val (.int (8 : Int32)), .val (.int (4 : Int32)), .val (.int c4)]) rfl k) ?_
          show own_G p.tables e below s _ _ _ (s₁.setTop (mkF m 17 #[.val (.ref a1), .val (.ref a1), .val (.int (8 : Int32)), .val (.int (4 : Int32)), .val (.int c4)] []))
          refine own_go (fun t k => XS.iload X0.here hx rfl (hb hby d1_8_17) rfl k) ?_
          show own_G p.tables e below s _ _ _ (s₁.setTop (mkF m 19 #[.val (.ref a1), .val (.ref a1), .val (.int (8 : Int32)), .val (.int (4 : Int32)), .val (.int c4)] [(.int c4)]))
          by_cases hn4 : c4 < (0 : Int32)
          · refine own_go (fun t k => XS.ifNo X0.here hx rfl (hb hby d1_8_19) rfl (Jvm.Free.XT.i0_ge_f hn4) k) ?_
            show own_G p.tables e below s _ _ _ (s₁.setTop (mkF m 22 #[.val (.ref a1), .val (.ref a1), .val (.int (8 : Int32)), .val (.int (4 : Int32)), .val (.int c4)] []))
            refine own_go (fun t k => XS.iconst X0.here hx rfl (hb hby d1_8_22) k) ?_
            show own_G p.tables e below s _ _ _ (s₁.setTop (mkF m 23 #[.val (.ref a1), .val (.ref a1), .val (.int (8 : Int32)), .val (.int (4 : Int32)), .val (.int c4)] [(.int (0 : Int32))]))
            exact own_retN X0 hx hlk (t := .boolean) (z' := (0 : Int32)) Bd.returns (by simp) (hb hby d1_8_23) (rfl) (by rw [e0]; exact ⟨by rw [← hr, if_pos (Or.inr (Or.inr (Or.inr (Or.inr (Or.inl hn4)))))], N0, rfl⟩) (by decide) (by decide)
          · refine own_go (fun t k => XS.ifYes X0.here hx rfl (pc0 := 19) (pc' := 24) rfl (hb hby d1_8_19) rfl (Jvm.Free.XT.i0_ge_t hn4) (by decide) (by decide) k) ?_
            show own_G p.tables e below s _ _ _ (s₁.setTop (mkF m 24 #[.val (.ref a1), .val (.ref a1), .val (.int (8 : Int32)), .val (.int (4 : Int32)), .val (.int c4)] []))
            refine own_go (fun t k => XS.iinc X0.here hx rfl (hb hby d1_8_24) rfl (l' := #[.val (.ref a1), .val (.ref a1), .val (.int (8 : Int32)), .val (.int (5 : Int32)), .val (.int c4)]) rfl k) ?_
            show own_G p.tables e below s _ _ _ (s₁.setTop (mkF m 27 #[.val (.ref a1), .val (.ref a1), .val (.int (8 : Int32)), .val (.int (5 : Int32)), .val (.int c4)] []))
            refine own_go (fun t k => XS.goto X0.here hx rfl (pc0 := 27) (pc' := 7) rfl (hb hby d1_8_27) (by decide) (by decide) k) ?_
            show own_G p.tables e below s _ _ _ (s₁.setTop (mkF m 7 #[.val (.ref a1), .val (.ref a1), .val (.int (8 : Int32)), .val (.int (5 : Int32)), .val (.int c4)] []))
            refine own_go (fun t k => XS.iloadN X0.here hx rfl (hb hby d1_8_7) rfl k) ?_
            show own_G p.tables e below s _ _ _ (s₁.setTop (mkF m 8 #[.val (.ref a1), .val (.ref a1), .val (.int (8 : Int32)), .val (.int (5 : Int32)), .val (.int c4)] [(.int (5 : Int32))]))
            refine own_go (fun t k => XS.iloadN X0.here hx rfl (hb hby d1_8_8) rfl k) ?_
            show own_G p.tables e below s _ _ _ (s₁.setTop (mkF m 9 #[.val (.ref a1), .val (.ref a1), .val (.int (8 : Int32)), .val (.int (5 : Int32)), .val (.int c4)] [(.int (8 : Int32)), (.int (5 : Int32))]))
            refine own_go (fun t k => XS.icmpNo X0.here hx rfl (hb hby d1_8_9) rfl (by decide) k) ?_
            show own_G p.tables e below s _ _ _ (s₁.setTop (mkF m 12 #[.val (.ref a1), .val (.ref a1), .val (.int (8 : Int32)), .val (.int (5 : Int32)), .val (.int c4)] []))
            refine own_go (fun t k => XS.aloadN X0.here hx rfl (hb hby d1_8_12) rfl rfl k) ?_
            show own_G p.tables e below s _ _ _ (s₁.setTop (mkF m 13 #[.val (.ref a1), .val (.ref a1), .val (.int (8 : Int32)), .val (.int (5 : Int32)), .val (.int c4)] [(.ref a1)]))
            refine own_go (fun t k => XS.iloadN X0.here hx rfl (hb hby d1_8_13) rfl k) ?_
            show own_G p.tables e below s _ _ _ (s₁.setTop (mkF m 14 #[.val (.ref a1), .val (.ref a1), .val (.int (8 : Int32)), .val (.int (5 : Int32)), .val (.int c4)] [(.int (5 : Int32)), (.ref a1)]))
            obtain ⟨cl43, Ar43, q43, S43, NN43, HH43, GG43⟩ := id V1
            have hin43 : ¬ ((5 : Int32) < 0 ∨ cl43.slots.size ≤ ((5 : Int32)).toNatClampNeg) := inb_of S43 ⟨by decide, by decide⟩
            have hat43 : cl43.slots[((5 : Int32)).toNatClampNeg]? = some (.int c5) := Has.at HH43 hin43 rfl
            refine own_go (fun t k => X0.baloadBytes hx (j := (5 : Int32)) (v := (.int c5)) (by rw [e0]; exact Ar43.1) (State.isArrayOf_alike hZ.alike Ar43.2.1) Ar43.2.2 hin43 hat43 (g := (mkF m 14 #[.val (.ref a1), .val (.ref a1), .val (.int (8 : Int32)), .val (.int (5 : Int32)), .val (.int c4)] [(.int (5 : Int32)), (.ref a1)])) rfl rfl (hb hby d1_8_14) _ k) ?_
            show own_G p.tables e below s _ _ _ (s₁.setTop (mkF m 15 #[.val (.ref a1), .val (.ref a1), .val (.int (8 : Int32)), .val (.int (5 : Int32)), .val (.int c4)] [(.int c5)]))
            refine own_go (fun t k => XS.istore X0.here hx rfl (hb hby d1_8_15) rfl (l' := #[.val (.ref a1), .val (.ref a1), .val (.int (8 : Int32)), .val (.int (5 : Int32)), .val (.int c5)]) rfl k) ?_
            show own_G p.tables e below s _ _ _ (s₁.setTop (mkF m 17 #[.val (.ref a1), .val (.ref a1), .val (.int (8 : Int32)), .val (.int (5 : Int32)), .val (.int c5)] []))
            refine own_go (fun t k => XS.iload X0.here hx rfl (hb hby d1_8_17) rfl k) ?_
            show own_G p.tables e below s _ _ _ (s₁.setTop (mkF m 19 #[.val (.ref a1), .val (.ref a1), .val (.int (8 : Int32)), .val (.int (5 : Int32)), .val (.int c5)] [(.int c5)]))
            by_cases hn5 : c5 < (0 : Int32)
            · refine own_go (fun t k => XS.ifNo X0.here hx rfl (hb hby d1_8_19) rfl (Jvm.Free.XT.i0_ge_f hn5) k) ?_
              show own_G p.tables e below s _ _ _ (s₁.setTop (mkF m 22 #[.val (.ref a1), .val (.ref a1), .val (.int (8 : Int32)), .val (.int (5 : Int32)), .val (.int c5)] []))
              refine own_go (fun t k => XS.iconst X0.here hx rfl (hb hby d1_8_22) k) ?_
              show own_G p.tables e below s _ _ _ (s₁.setTop (mkF m 23 #[.val (.ref a1), .val (.ref a1), .val (.int (8 : Int32)), .val (.int (5 : Int32)), .val (.int c5)] [(.int (0 : Int32))]))
              exact own_retN X0 hx hlk (t := .boolean) (z' := (0 : Int32)) Bd.returns (by simp) (hb hby d1_8_23) (rfl) (by rw [e0]; exact ⟨by rw [← hr, if_pos (Or.inr (Or.inr (Or.inr (Or.inr (Or.inr (Or.inl hn5))))))], N0, rfl⟩) (by decide) (by decide)
            · refine own_go (fun t k => XS.ifYes X0.here hx rfl (pc0 := 19) (pc' := 24) rfl (hb hby d1_8_19) rfl (Jvm.Free.XT.i0_ge_t hn5) (by decide) (by decide) k) ?_
              show own_G p.tables e below s _ _ _ (s₁.setTop (mkF m 24 #[.val (.ref a1), .val (.ref a1), .val (.int (8 : Int32)), .val (.int (5 : Int32)), .val (.int c5)] []))
              refine own_go (fun t k => XS.iinc X0.here hx rfl (hb hby d1_8_24) rfl (l' := #[.val (.ref a1), .val (.ref a1), .val (.int (8 : Int32)), .val (.int (6 : Int32)), .val (.int c5)]) rfl k) ?_
              show own_G p.tables e below s _ _ _ (s₁.setTop (mkF m 27 #[.val (.ref a1), .val (.ref a1), .val (.int (8 : Int32)), .val (.int (6 : Int32)), .val (.int c5)] []))
              refine own_go (fun t k => XS.goto X0.here hx rfl (pc0 := 27) (pc' := 7) rfl (hb hby d1_8_27) (by decide) (by decide) k) ?_
              show own_G p.tables e below s _ _ _ (s₁.setTop (mkF m 7 #[.val (.ref a1), .val (.ref a1), .val (.int (8 : Int32)), .val (.int (6 : Int32)), .val (.int c5)] []))
              refine own_go (fun t k => XS.iloadN X0.here hx rfl (hb hby d1_8_7) rfl k) ?_
              show own_G p.tables e below s _ _ _ (s₁.setTop (mkF m 8 #[.val (.ref a1), .val (.ref a1), .val (.int (8 : Int32)), .val (.int (6 : Int32)), .val (.int c5)] [(.int (6 : Int32))]))
              refine own_go (fun t k => XS.iloadN X0.here hx rfl (hb hby d1_8_8) rfl k) ?_
              show own_G p.tables e below s _ _ _ (s₁.setTop (mkF m 9 #[.val (.ref a1), .val (.ref a1), .val (.int (8 : Int32)), .val (.int (6 : Int32)), .val (.int c5)] [(.int (8 : Int32)), (.int (6 : Int32))]))
              refine own_go (fun t k => XS.icmpNo X0.here hx rfl (hb hby d1_8_9) rfl (by decide) k) ?_
              show own_G p.tables e below s _ _ _ (s₁.setTop (mkF m 12 #[.val (.ref a1), .val (.ref a1), .val (.int (8 : Int32)), .val (.int (6 : Int32)), .val (.int c5)] []))
              refine own_go (fun t k => XS.aloadN X0.here hx rfl (hb hby d1_8_12) rfl rfl k) ?_
              show own_G p.tables e below s _ _ _ (s₁.setTop (mkF m 13 #[.val (.ref a1), .val (.ref a1), .val (.int (8 : Int32)), .val (.int (6 : Int32)), .val (.int c5)] [(.ref a1)]))
              refine own_go (fun t k => XS.iloadN X0.here hx rfl (hb hby d1_8_13) rfl k) ?_
              show own_G p.tables e below s _ _ _ (s₁.setTop (mkF m 14 #[.val (.ref a1), .val (.ref a1), .val (.int (8 : Int32)), .val (.int (6 : Int32)), .val (.int c5)] [(.int (6 : Int32)), (.ref a1)]))
              obtain ⟨cl44, Ar44, q44, S44, NN44, HH44, GG44⟩ := id V1
              have hin44 : ¬ ((6 : Int32) < 0 ∨ cl44.slots.size ≤ ((6 : Int32)).toNatClampNeg) := inb_of S44 ⟨by decide, by decide⟩
              have hat44 : cl44.slots[((6 : Int32)).toNatClampNeg]? = some (.int c6) := Has.at HH44 hin44 rfl
              refine own_go (fun t k => X0.baloadBytes hx (j := (6 : Int32)) (v := (.int c6)) (by rw [e0]; exact Ar44.1) (State.isArrayOf_alike hZ.alike Ar44.2.1) Ar44.2.2 hin44 hat44 (g := (mkF m 14 #[.val (.ref a1), .val (.ref a1), .val (.int (8 : Int32)), .val (.int (6 : Int32)), .val (.int c5)] [(.int (6 : Int32)), (.ref a1)])) rfl rfl (hb hby d1_8_14) _ k) ?_
              show own_G p.tables e below s _ _ _ (s₁.setTop (mkF m 15 #[.val (.ref a1), .val (.ref a1), .val (.int (8 : Int32)), .val (.int (6 : Int32)), .val (.int c5)] [(.int c6)]))
              refine own_go (fun t k => XS.istore X0.here hx rfl (hb hby d1_8_15) rfl (l' := #[.val (.ref a1), .val (.ref a1), .val (.int (8 : Int32)), .val (.int (6 : Int32)), .val (.int c6)]) rfl k) ?_
              show own_G p.tables e below s _ _ _ (s₁.setTop (mkF m 17 #[.val (.ref a1), .val (.ref a1), .val (.int (8 : Int32)), .val (.int (6 : Int32)), .val (.int c6)] []))
              refine own_go (fun t k => XS.iload X0.here hx rfl (hb hby d1_8_17) rfl k) ?_
              show own_G p.tables e below s _ _ _ (s₁.setTop (mkF m 19 #[.val (.ref a1), .val (.ref a1), .val (.int (8 : Int32)), .val (.int (6 : Int32)), .val (.int c6)] [(.int c6)]))
              by_cases hn6 : c6 < (0 : Int32)
              · refine own_go (fun t k => XS.ifNo X0.here hx rfl (hb hby d1_8_19) rfl (Jvm.Free.XT.i0_ge_f hn6) k) ?_
                show own_G p.tables e below s _ _ _ (s₁.setTop (mkF m 22 #[.val (.ref a1), .val (.ref a1), .val (.int (8 : Int32)), .val (.int (6 : Int32)), .val (.int c6)] []))
                refine own_go (fun t k => XS.iconst X0.here hx rfl (hb hby d1_8_22) k) ?_
                show own_G p.tables e below s _ _ _ (s₁.setTop (mkF m 23 #[.val (.ref a1), .val (.ref a1), .val (.int (8 : Int32)), .val (.int (6 : Int32)), .val (.int c6)] [(.int (0 : Int32))]))
                exact own_retN X0 hx hlk (t := .boolean) (z' := (0 : Int32)) Bd.returns (by simp) (hb hby d1_8_23) (rfl) (by rw [e0]; exact ⟨by rw [← hr, if_pos (Or.inr (Or.inr (Or.inr (Or.inr (Or.inr (Or.inr (Or.inl hn6)))))))], N0, rfl⟩) (by decide) (by decide)
              · refine own_go (fun t k => XS.ifYes X0.here hx rfl (pc0 := 19) (pc' := 24) rfl (hb hby d1_8_19) rfl (Jvm.Free.XT.i0_ge_t hn6) (by decide) (by decide) k) ?_
                show own_G p.tables e below s _ _ _ (s₁.setTop (mkF m 24 #[.val (.ref a1), .val (.ref a1), .val (.int (8 : Int32)), .val (.int (6 : Int32)), .val (.int c6)] []))
                refine own_go (fun t k => XS.iinc X0.here hx rfl (hb hby d1_8_24) rfl (l' := #[.val (.ref a1), .val (.ref a1), .val (.int (8 : Int32)), .val (.int (7 : Int32)), .val (.int c6)]) rfl k) ?_
                show own_G p.tables e below s _ _ _ (s₁.setTop (mkF m 27 #[.val (.ref a1), .val (.ref a1), .val (.int (8 : Int32)), .val (.int (7 : Int32)), .val (.int c6)] []))
                refine own_go (fun t k => XS.goto X0.here hx rfl (pc0 := 27) (pc' := 7) rfl (hb hby d1_8_27) (by decide) (by decide) k) ?_
                show own_G p.tables e below s _ _ _ (s₁.setTop (mkF m 7 #[.val (.ref a1), .val (.ref a1), .val (.int (8 : Int32)), .val (.int (7 : Int32)), .val (.int c6)] []))
                refine own_go (fun t k => XS.iloadN X0.here hx rfl (hb hby d1_8_7) rfl k) ?_
                show own_G p.tables e below s _ _ _ (s₁.setTop (mkF m 8 #[.val (.ref a1), .val (.ref a1), .val (.int (8 : Int32)), .val (.int (7 : Int32)), .val (.int c6)] [(.int (7 : Int32))]))
                refine own_go (fun t k => XS.iloadN X0.here hx rfl (hb hby d1_8_8) rfl k) ?_
                show own_G p.tables e below s _ _ _ (s₁.setTop (mkF m 9 #[.val (.ref a1), .val (.ref a1), .val (.int (8 : Int32)), .val (.int (7 : Int32)), .val (.int c6)] [(.int (8 : Int32)), (.int (7 : Int32))]))
                refine own_go (fun t k => XS.icmpNo X0.here hx rfl (hb hby d1_8_9) rfl (by decide) k) ?_
                show own_G p.tables e below s _ _ _ (s₁.setTop (mkF m 12 #[.val (.ref a1), .val (.ref a1), .val (.int (8 : Int32)), .val (.int (7 : Int32)), .val (.int c6)] []))
                refine own_go (fun t k => XS.aloadN X0.here hx rfl (hb hby d1_8_12) rfl rfl k) ?_
                show own_G p.tables e below s _ _ _ (s₁.setTop (mkF m 13 #[.val (.ref a1), .val (.ref a1), .val (.int (8 : Int32)), .val (.int (7 : Int32)), .val (.int c6)] [(.ref a1)]))
                refine own_go (fun t k => XS.iloadN X0.here hx rfl (hb hby d1_8_13) rfl k) ?_
                show own_G p.tables e below s _ _ _ (s₁.setTop (mkF m 14 #[.val (.ref a1), .val (.ref a1), .val (.int (8 : Int32)), .val (.int (7 : Int32)), .val (.int c6)] [(.int (7 : Int32)), (.ref a1)]))
                obtain ⟨cl45, Ar45, q45, S45, NN45, HH45, GG45⟩ := id V1
                have hin45 : ¬ ((7 : Int32) < 0 ∨ cl45.slots.size ≤ ((7 : Int32)).toNatClampNeg) := inb_of S45 ⟨by decide, by decide⟩
                have hat45 : cl45.slots[((7 : Int32)).toNatClampNeg]? = some (.int c7) := Has.at HH45 hin45 rfl
                refine own_go (fun t k => X0.baloadBytes hx (j := (7 : Int32)) (v := (.int c7)) (by rw [e0]; exact Ar45.1) (State.isArrayOf_alike hZ.alike Ar45.2.1) Ar45.2.2 hin45 hat45 (g := (mkF m 14 #[.val (.ref a1), .val (.ref a1), .val (.int (8 : Int32)), .val (.int (7 : Int32)), .val (.int c6)] [(.int (7 : Int32)), (.ref a1)])) rfl rfl (hb hby d1_8_14) _ k) ?_
                show own_G p.tables e below s _ _ _ (s₁.setTop (mkF m 15 #[.val (.ref a1), .val (.ref a1), .val (.int (8 : Int32)), .val (.int (7 : Int32)), .val (.int c6)] [(.int c7)]))
                refine own_go (fun t k => XS.istore X0.here hx rfl (hb hby d1_8_15) rfl (l' := #[.val (.ref a1), .val (.ref a1), .val (.int (8 : Int32)), .val (.int (7 : Int32)), .val (.int c7)]) rfl k) ?_
                show own_G p.tables e below s _ _ _ (s₁.setTop (mkF m 17 #[.val (.ref a1), .val (.ref a1), .val (.int (8 : Int32)), .val (.int (7 : Int32)), .val (.int c7)] []))
                refine own_go (fun t k => XS.iload X0.here hx rfl (hb hby d1_8_17) rfl k) ?_
                show own_G p.tables e below s _ _ _ (s₁.setTop (mkF m 19 #[.val (.ref a1), .val (.ref a1), .val (.int (8 : Int32)), .val (.int (7 : Int32)), .val (.int c7)] [(.int c7)]))
                by_cases hn7 : c7 < (0 : Int32)
                · refine own_go (fun t k => XS.ifNo X0.here hx rfl (hb hby d1_8_19) rfl (Jvm.Free.XT.i0_ge_f hn7) k) ?_
                  show own_G p.tables e below s _ _ _ (s₁.setTop (mkF m 22 #[.val (.ref a1), .val (.ref a1), .val (.int (8 : Int32)), .val (.int (7 : Int32)), .val (.int c7)] []))
                  refine own_go (fun t k => XS.iconst X0.here hx rfl (hb hby d1_8_22) k) ?_
                  show own_G p.tables e below s _ _ _ (s₁.setTop (mkF m 23 #[.val (.ref a1), .val (.ref a1), .val (.int (8 : Int32)), .val (.int (7 : Int32)), .val (.int c7)] [(.int (0 : Int32))]))
                  exact own_retN X0 hx hlk (t := .boolean) (z' := (0 : Int32)) Bd.returns (by simp) (hb hby d1_8_23) (rfl) (by rw [e0]; exact ⟨by rw [← hr, if_pos (Or.inr (Or.inr (Or.inr (Or.inr (Or.inr (Or.inr (Or.inr (hn7))))))))], N0, rfl⟩) (by decide) (by decide)
                · refine own_go (fun t k => XS.ifYes X0.here hx rfl (pc0 := 19) (pc' := 24) rfl (hb hby d1_8_19) rfl (Jvm.Free.XT.i0_ge_t hn7) (by decide) (by decide) k) ?_
                  show own_G p.tables e below s _ _ _ (s₁.setTop (mkF m 24 #[.val (.ref a1), .val (.ref a1), .val (.int (8 : Int32)), .val (.int (7 : Int32)), .val (.int c7)] []))
                  refine own_go (fun t k => XS.iinc X0.here hx rfl (hb hby d1_8_24) rfl (l' := #[.val (.ref a1), .val (.ref a1), .val (.int (8 : Int32)), .val (.int (8 : Int32)), .val (.int c7)]) rfl k) ?_
                  show own_G p.tables e below s _ _ _ (s₁.setTop (mkF m 27 #[.val (.ref a1), .val (.ref a1), .val (.int (8 : Int32)), .val (.int (8 : Int32)), .val (.int c7)] []))
                  refine own_go (fun t k => XS.goto X0.here hx rfl (pc0 := 27) (pc' := 7) rfl (hb hby d1_8_27) (by decide) (by decide) k) ?_
                  show own_G p.tables e below s _ _ _ (s₁.setTop (mkF m 7 #[.val (.ref a1), .val (.ref a1), .val (.int (8 : Int32)), .val (.int (8 : Int32)), .val (.int c7)] []))
                  refine own_go (fun t k => XS.iloadN X0.here hx rfl (hb hby d1_8_7) rfl k) ?_
                  show own_G p.tables e below s _ _ _ (s₁.setTop (mkF m 8 #[.val (.ref a1), .val (.ref a1), .val (.int (8 : Int32)), .val (.int (8 : Int32)), .val (.int c7)] [(.int (8 : Int32))]))
                  refine own_go (fun t k => XS.iloadN X0.here hx rfl (hb hby d1_8_8) rfl k) ?_
                  show own_G p.tables e below s _ _ _ (s₁.setTop (mkF m 9 #[.val (.ref a1), .val (.ref a1), .val (.int (8 : Int32)), .val (.int (8 : Int32)), .val (.int c7)] [(.int (8 : Int32)), (.int (8 : Int32))]))
                  refine own_go (fun t k => XS.icmpYes X0.here hx rfl (pc0 := 9) (pc' := 30) rfl (hb hby d1_8_9) rfl (by decide) (by decide) (by decide) k) ?_
                  show own_G p.tables e below s _ _ _ (s₁.setTop (mkF m 30 #[.val (.ref a1), .val (.ref a1), .val (.int (8 : Int32)), .val (.int (8 : Int32)), .val (.int c7)] []))
                  refine own_go (fun t k => XS.iconst X0.here hx rfl (hb hby d1_8_30) k) ?_
                  show own_G p.tables e below s _ _ _ (s₁.setTop (mkF m 31 #[.val (.ref a1), .val (.ref a1), .val (.int (8 : Int32)), .val (.int (8 : Int32)), .val (.int c7)] [(.int (1 : Int32))]))
                  exact own_retN X0 hx hlk (t := .boolean) (z' := (1 : Int32)) Bd.returns (by simp) (hb hby d1_8_31) (rfl) (by rw [e0]; exact ⟨by rw [← hr, if_neg (fun q => q.elim hn0 (fun q => q.elim hn1 (fun q => q.elim hn2 (fun q => q.elim hn3 (fun q => q.elim hn4 (fun q => q.elim hn5 (fun q => q.elim hn6 hn7)))))))], N0, rfl⟩) (by decide) (by decide)
theorem pd___B_Z : parseMethodDescriptor "([B)Z" = some ⟨[(.array .byte)], some .boolean⟩ := by decide +kernel
theorem pn_com_example_cartulary_cartulary_model_SyntaxIsAsciiPinLaw : plainName "com/example/cartulary/cartulary/model/SyntaxIsAsciiPinLaw" = true := by first | (simp [plainName, overriddenIn]; done) | decide +kernel
theorem ef_0 (m : MethodId) (x0 : Int32) (x1 : Int64) : entryFrame m #[(.int x0), (.long x1)] maxLocals = mkF m 0 #[.val (.int x0), .val (.long x1), .second, .unset, .unset, .unset, .unset, .unset, .unset, .unset, .unset, .unset, .unset, .unset] [] := by first | (simp [entryFrame, mkF, argsToLocals, Value.category, maxLocals]; done) | rfl
def Q0 (Z : State) (p1 : Int32) (q1 : Int64) (h0 : Heap) (n0 : Nat) (v : Option Value) (h : Heap) (L : List Loc) : Prop := v = some (.int 1) ∧ Fr n0 L
set_option maxRecDepth 65536 in
set_option maxHeartbeats 40000000 in
theorem rm0 (l : Launch) (Z : State) (a0 : Array Value) (hw : ∀ d ∈ tables_1, d.before a0 Z = true) (ws : List Jvm.Cond) (p1 : Int32) (q1 : Int64) (h0 : Heap) (n0 : Nat) (Z0 : n0 ≤ h0.size)  :
    MetFree l x (head1 (Jvm.Cond.code x code maxLocals ret :: ws) room_1) (fun a U => a = #[(.int p1), (.long q1)] ∧ Z.Warmed39 U.vm ∧ U.heap = h0) (fun _ _ _ _ _ => True) (fun _ U o U' => ∃ v L, o = .returned v ∧ Q0 Z p1 q1 h0 n0 v U'.heap L ∧ FrameEnd U o U' L room_1.cells room_1.slots) := by
  refine MetFree.of_bodySF (plainFor_of_name pn_com_example_cartulary_cartulary_model_SyntaxIsAsciiPinLaw) hisR ?_
  intro p e s m args below meth c s₁ Bd hml0 hP hK
  obtain ⟨rfl, hZ, hh⟩ := hP
  have hx := Bd.exec
  have hby := Bd.bytes
  have hlk : meth.locks = false := BodyLoose.notSynchronized Bd
  have hml : c.maxLocals = 14 := hml0
  have hown : s.vm.findClass "com/example/cartulary/cartulary/model/SyntaxIsAsciiPinLaw" = some m.cls := findClass_of_methodNamed Bd.named
  have hnm := (name_of_methodNamed Bd.named Bd.method).1
  have X0 : Stand p l e room_1 s m #[(.int p1), (.long q1)] below meth c s₁ [] 0 0 := Stand.of_body Bd
  have e0 : s₁.heap = h0 := by rw [← hh, Bd.state]; rfl
  have N0 := Fr.nil n0
  show own_G p.tables e below s (Q0 Z p1 q1 h0 n0) room_1.cells room_1.slots (s₁.setTop (entryFrame m #[(.int p1), (.long q1)] maxLocals))
  refine own_go (fun t k => castTop (ef_0 m p1 q1) k) ?_
  show own_G p.tables e below s _ _ _ (s₁.setTop (mkF m 0 #[.val (.int p1), .val (.long q1), .second, .unset, .unset, .unset, .unset, .unset, .unset, .unset, .unset, .unset, .unset, .unset] []))
  refine own_go (fun t k => XS.iloadN X0.here hx rfl (hb hby at_0) rfl k) ?_
  show own_G p.tables e below s _ _ _ (s₁.setTop (mkF m 1 #[.val (.int p1), .val (.long q1), .second, .unset, .unset, .unset, .unset, .unset, .unset, .unset, .unset, .unset, .unset, .unset] [(.int p1)]))
  refine own_go (fun t k => X0.ldcInt hx hown (mvT hZ (hw _ (List.mem_of_getElem? (i := 0) rfl))) (g := (mkF m 1 #[.val (.int p1), .val (.long q1), .second, .unset, .unset, .unset, .unset, .unset, .unset, .unset, .unset, .unset, .unset, .unset] [(.int p1)])) rfl (hb hby at_1) _ k) ?_
  show own_G p.tables e below s _ _ _ (s₁.setTop (mkF m 3 #[.val (.int p1), .val (.long q1), .second, .unset, .unset, .unset, .unset, .unset, .unset, .unset, .unset, .unset, .unset, .unset] [(.int (2147483647 : Int32)), (.int p1)]))
  refine own_go (fun t k => XS.iand X0.here hx rfl (hb hby at_3) rfl k) ?_
  show own_G p.tables e below s _ _ _ (s₁.setTop (mkF m 4 #[.val (.int p1), .val (.long q1), .second, .unset, .unset, .unset, .unset, .unset, .unset, .unset, .unset, .unset, .unset, .unset] [(.int (p1 &&& (2147483647 : Int32)))]))
  refine own_go (fun t k => XS.bipush X0.here hx rfl (hb hby at_4) k) ?_
  show own_G p.tables e below s _ _ _ (s₁.setTop (mkF m 6 #[.val (.int p1), .val (.long q1), .second, .unset, .unset, .unset, .unset, .unset, .unset, .unset, .unset, .unset, .unset, .unset] [(.int (9 : Int32)), (.int (p1 &&& (2147483647 : Int32)))]))
  refine own_go (fun t k => iremM X0 hx rfl (hb hby at_6) rfl (by decide) k) ?_
  show own_G p.tables e below s _ _ _ (s₁.setTop (mkF m 7 #[.val (.int p1), .val (.long q1), .second, .unset, .unset, .unset, .unset, .unset, .unset, .unset, .unset, .unset, .unset, .unset] [(.int ((p1 &&& (2147483647 : Int32)) % (9 : Int32)))]))
  obtain ⟨n, hn⟩ : ∃ z, ((p1 &&& (2147483647 : Int32)) % (9 : Int32)) = z := ⟨_, rfl⟩
  rw [hn]
  show own_G p.tables e below s _ _ _ (s₁.setTop (mkF m 7 #[.val (.int p1), .val (.long q1), .second, .unset, .unset, .unset, .unset, .unset, .unset, .unset, .unset, .unset, .unset, .unset] [(.int n)]))
  refine own_go (fun t k => XS.istoreN X0.here hx rfl (hb hby at_7) rfl (l' := #[.val (.int p1), .val (.long q1), .second, .val (.int n), .unset, .unset, .unset, .unset, .unset, .unset, .unset, .unset, .unset, .unset]) rfl k) ?_
  show own_G p.tables e below s _ _ _ (s₁.setTop (mkF m 8 #[.val (.int p1), .val (.long q1), .second, .val (.int n), .unset, .unset, .unset, .unset, .unset, .unset, .unset, .unset, .unset, .unset] []))
  refine own_go (fun t k => XS.lloadN X0.here hx rfl (hb hby at_8) rfl k) ?_
  show own_G p.tables e below s _ _ _ (s₁.setTop (mkF m 9 #[.val (.int p1), .val (.long q1), .second, .val (.int n), .unset, .unset, .unset, .unset, .unset, .unset, .unset, .unset, .unset, .unset] [(.long q1)]))
  refine own_go (fun t k => XS.l2i X0.here hx rfl (hb hby at_9) rfl k) ?_
  show own_G p.tables e below s _ _ _ (s₁.setTop (mkF m 10 #[.val (.int p1), .val (.long q1), .second, .val (.int n), .unset, .unset, .unset, .unset, .unset, .unset, .unset, .unset, .unset, .unset] [(.int (q1.toInt32))]))
  refine own_go (fun t k => XS.i2b X0.here hx rfl (hb hby at_10) rfl k) ?_
  show own_G p.tables e below s _ _ _ (s₁.setTop (mkF m 11 #[.val (.int p1), .val (.long q1), .second, .val (.int n), .unset, .unset, .unset, .unset, .unset, .unset, .unset, .unset, .unset, .unset] [(.int ((q1.toInt32).toInt8.toInt32))]))
  obtain ⟨c0, hc0⟩ : ∃ z, ((q1.toInt32).toInt8.toInt32) = z := ⟨_, rfl⟩
  rw [hc0]
  show own_G p.tables e below s _ _ _ (s₁.setTop (mkF m 11 #[.val (.int p1), .val (.long q1), .second, .val (.int n), .unset, .unset, .unset, .unset, .unset, .unset, .unset, .unset, .unset, .unset] [(.int c0)]))
  have hb0 : nar .byte c0 = c0 := by rw [← hc0]; exact own_narB _
  refine own_go (fun t k => XS.istore X0.here hx rfl (hb hby at_11) rfl (l' := #[.val (.int p1), .val (.long q1), .second, .val (.int n), .val (.int c0), .unset, .unset, .unset, .unset, .unset, .unset, .unset, .unset, .unset]) rfl k) ?_
  show own_G p.tables e below s _ _ _ (s₁.setTop (mkF m 13 #[.val (.int p1), .val (.long q1), .second, .val (.int n), .val (.int c0), .unset, .unset, .unset, .unset, .unset, .unset, .unset, .unset, .unset] []))
  refine own_go (fun t k => XS.lloadN X0.here hx rfl (hb hby at_13) rfl k) ?_
  show own_G p.tables e below s _ _ _ (s₁.setTop (mkF m 14 #[.val (.int p1), .val (.long q1), .second, .val (.int n), .val (.int c0), .unset, .unset, .unset, .unset, .unset, .unset, .unset, .unset, .unset] [(.long q1)]))
  refine own_go (fun t k => XS.bipush X0.here hx rfl (hb hby at_14) k) ?_
  show own_G p.tables e below s _ _ _ (s₁.setTop (mkF m 16 #[.val (.int p1), .val (.long q1), .second, .val (.int n), .val (.int c0), .unset, .unset, .unset, .unset, .unset, .unset, .unset, .unset, .unset] [(.int (8 : Int32)), (.long q1)]))
  refine own_go (fun t k => XS.lushr X0.here hx rfl (hb hby at_16) rfl k) ?_
  show own_G p.tables e below s _ _ _ (s₁.setTop (mkF m 17 #[.val (.int p1), .val (.long q1), .second, .val (.int n), .val (.int c0), .unset, .unset, .unset, .unset, .unset, .unset, .unset, .unset, .unset] [(.long ((q1.toUInt64 >>> ((8 : Int32) &&& 0x3f).toInt64.toUInt64).toInt64))]))
  refine own_go (fun t k => XS.l2i X0.here hx rfl (hb hby at_17) rfl k) ?_
  show own_G p.tables e below s _ _ _ (s₁.setTop (mkF m 18 #[.val (.int p1), .val (.long q1), .second, .val (.int n), .val (.int c0), .unset, .unset, .unset, .unset, .unset, .unset, .unset, .unset, .unset] [(.int (((q1.toUInt64 >>> ((8 : Int32) &&& 0x3f).toInt64.toUInt64).toInt64).toInt32))]))
  refine own_go (fun t k => XS.i2b X0.here hx rfl (hb hby at_18) rfl k) ?_
  show own_G p.tables e below s _ _ _ (s₁.setTop (mkF m 19 #[.val (.int p1), .val (.long q1), .second, .val (.int n), .val (.int c0), .unset, .unset, .unset, .unset, .unset, .unset, .unset, .unset, .unset] [(.int ((((q1.toUInt64 >>> ((8 : Int32) &&& 0x3f).toInt64.toUInt64).toInt64).toInt32).toInt8.toInt32))]))
  obtain ⟨c1, hc1⟩ : ∃ z, ((((q1.toUInt64 >>> ((8 : Int32) &&& 0x3f).toInt64.toUInt64).toInt64).toInt32).toInt8.toInt32) = z := ⟨_, rfl⟩
  rw [hc1]
  show own_G p.tables e below s _ _ _ (s₁.setTop (mkF m 19 #[.val (.int p1), .val (.long q1), .second, .val (.int n), .val (.int c0), .unset, .unset, .unset, .unset, .unset, .unset, .unset, .unset, .unset] [(.int c1)]))
  have hb1 : nar .byte c1 = c1 := by rw [← hc1]; exact own_narB _
  refine own_go (fun t k => XS.istore X0.here hx rfl (hb hby at_19) rfl (l' := #[.val (.int p1), .val (.long q1), .second, .val (.int n), .val (.int c0), .val (.int c1), .unset, .unset, .unset, .unset, .unset, .unset, .unset, .unset]) rfl k) ?_
  show own_G p.tables e below s _ _ _ (s₁.setTop (mkF m 21 #[.val (.int p1), .val (.long q1), .second, .val (.int n), .val (.int c0), .val (.int c1), .unset, .unset, .unset, .unset, .unset, .unset, .unset, .unset] []))
  refine own_go (fun t k => XS.lloadN X0.here hx rfl (hb hby at_21) rfl k) ?_
  show own_G p.tables e below s _ _ _ (s₁.setTop (mkF m 22 #[.val (.int p1), .val (.long q1), .second, .val (.int n), .val (.int c0), .val (.int c1), .unset, .unset, .unset, .unset, .unset, .unset, .unset, .unset] [(.long q1)]))
  refine own_go (fun t k => XS.bipush X0.here hx rfl (hb hby at_22) k) ?_
  show own_G p.tables e below s _ _ _ (s₁.setTop (mkF m 24 #[.val (.int p1), .val (.long q1), .second, .val (.int n), .val (.int c0), .val (.int c1), .unset, .unset, .unset, .unset, .unset, .unset, .unset, .unset] [(.int (16 : Int32)), (.long q1)]))
  refine own_go (fun t k => XS.lushr X0.here hx rfl (hb hby at_24) rfl k) ?_
  show own_G p.tables e below s _ _ _ (s₁.setTop (mkF m 25 #[.val (.int p1), .val (.long q1), .second, .val (.int n), .val (.int c0), .val (.int c1), .unset, .unset, .unset, .unset, .unset, .unset, .unset, .unset] [(.long ((q1.toUInt64 >>> ((16 : Int32) &&& 0x3f).toInt64.toUInt64).toInt64))]))
  refine own_go (fun t k => XS.l2i X0.here hx rfl (hb hby at_25) rfl k) ?_
  show own_G p.tables e below s _ _ _ (s₁.setTop (mkF m 26 #[.val (.int p1), .val (.long q1), .second, .val (.int n), .val (.int c0), .val (.int c1), .unset, .unset, .unset, .unset, .unset, .unset, .unset, .unset] [(.int (((q1.toUInt64 >>> ((16 : Int32) &&& 0x3f).toInt64.toUInt64).toInt64).toInt32))]))
  refine own_go (fun t k => XS.i2b X0.here hx rfl (hb hby at_26) rfl k) ?_
  show own_G p.tables e below s _ _ _ (s₁.setTop (mkF m 27 #[.val (.int p1), .val (.long q1), .second, .val (.int n), .val (.int c0), .val (.int c1), .unset, .unset, .unset, .unset, .unset, .unset, .unset, .unset] [(.int ((((q1.toUInt64 >>> ((16 : Int32) &&& 0x3f).toInt64.toUInt64).toInt64).toInt32).toInt8.toInt32))]))
  obtain ⟨c2, hc2⟩ : ∃ z, ((((q1.toUInt64 >>> ((16 : Int32) &&& 0x3f).toInt64.toUInt64).toInt64).toInt32).toInt8.toInt32) = z := ⟨_, rfl⟩
  rw [hc2]
  show own_G p.tables e below s _ _ _ (s₁.setTop (mkF m 27 #[.val (.int p1), .val (.long q1), .second, .val (.int n), .val (.int c0), .val (.int c1), .unset, .unset, .unset, .unset, .unset, .unset, .unset, .unset] [(.int c2)]))
  have hb2 : nar .byte c2 = c2 := by rw [← hc2]; exact own_narB _
  refine own_go (fun t k => XS.istore X0.here hx rfl (hb hby at_27) rfl (l' := #[.val (.int p1), .val (.long q1), .second, .val (.int n), .val (.int c0), .val (.int c1), .val (.int c2), .unset, .unset, .unset, .unset, .unset, .unset, .unset]) rfl k) ?_
  show own_G p.tables e below s _ _ _ (s₁.setTop (mkF m 29 #[.val (.int p1), .val (.long q1), .second, .val (.int n), .val (.int c0), .val (.int c1), .val (.int c2), .unset, .unset, .unset, .unset, .unset, .unset, .unset] []))
  refine own_go (fun t k => XS.lloadN X0.here hx rfl (hb hby at_29) rfl k) ?_
  show own_G p.tables e below s _ _ _ (s₁.setTop (mkF m 30 #[.val (.int p1), .val (.long q1), .second, .val (.int n), .val (.int c0), .val (.int c1), .val (.int c2), .unset, .unset, .unset, .unset, .unset, .unset, .unset] [(.long q1)]))
  refine own_go (fun t k => XS.bipush X0.here hx rfl (hb hby at_30) k) ?_
  show own_G p.tables e below s _ _ _ (s₁.setTop (mkF m 32 #[.val (.int p1), .val (.long q1), .second, .val (.int n), .val (.int c0), .val (.int c1), .val (.int c2), .unset, .unset, .unset, .unset, .unset, .unset, .unset] [(.int (24 : Int32)), (.long q1)]))
  refine own_go (fun t k => XS.lushr X0.here hx rfl (hb hby at_32) rfl k) ?_
  show own_G p.tables e below s _ _ _ (s₁.setTop (mkF m 33 #[.val (.int p1), .val (.long q1), .second, .val (.int n), .val (.int c0), .val (.int c1), .val (.int c2), .unset, .unset, .unset, .unset, .unset, .unset, .unset] [(.long ((q1.toUInt64 >>> ((24 : Int32) &&& 0x3f).toInt64.toUInt64).toInt64))]))
  refine own_go (fun t k => XS.l2i X0.here hx rfl (hb hby at_33) rfl k) ?_
  show own_G p.tables e below s _ _ _ (s₁.setTop (mkF m 34 #[.val (.int p1), .val (.long q1), .second, .val (.int n), .val (.int c0), .val (.int c1), .val (.int c2), .unset, .unset, .unset, .unset, .unset, .unset, .unset] [(.int (((q1.toUInt64 >>> ((24 : Int32) &&& 0x3f).toInt64.toUInt64).toInt64).toInt32))]))
  refine own_go (fun t k => XS.i2b X0.here hx rfl (hb hby at_34) rfl k) ?_
  show own_G p.tables e below s _ _ _ (s₁.setTop (mkF m 35 #[.val (.int p1), .val (.long q1), .second, .val (.int n), .val (.int c0), .val (.int c1), .val (.int c2), .unset, .unset, .unset, .unset, .unset, .unset, .unset] [(.int ((((q1.toUInt64 >>> ((24 : Int32) &&& 0x3f).toInt64.toUInt64).toInt64).toInt32).toInt8.toInt32))]))
  obtain ⟨c3, hc3⟩ : ∃ z, ((((q1.toUInt64 >>> ((24 : Int32) &&& 0x3f).toInt64.toUInt64).toInt64).toInt32).toInt8.toInt32) = z := ⟨_, rfl⟩
  rw [hc3]
  show own_G p.tables e below s _ _ _ (s₁.setTop (mkF m 35 #[.val (.int p1), .val (.long q1), .second, .val (.int n), .val (.int c0), .val (.int c1), .val (.int c2), .unset, .unset, .unset, .unset, .unset, .unset, .unset] [(.int c3)]))
  have hb3 : nar .byte c3 = c3 := by rw [← hc3]; exact own_narB _
  refine own_go (fun t k => XS.istore X0.here hx rfl (hb hby at_35) rfl (l' := #[.val (.int p1), .val (.long q1), .second, .val (.int n), .val (.int c0), .val (.int c1), .val (.int c2), .val (.int c3), .unset, .unset, .unset, .unset, .unset, .unset]) rfl k) ?_
  show own_G p.tables e below s _ _ _ (s₁.setTop (mkF m 37 #[.val (.int p1), .val (.long q1), .second, .val (.int n), .val (.int c0), .val (.int c1), .val (.int c2), .val (.int c3), .unset, .unset, .unset, .unset, .unset, .unset] []))
  refine own_go (fun t k => XS.lloadN X0.here hx rfl (hb hby at_37) rfl k) ?_
  show own_G p.tables e below s _ _ _ (s₁.setTop (mkF m 38 #[.val (.int p1), .val (.long q1), .second, .val (.int n), .val (.int c0), .val (.int c1), .val (.int c2), .val (.int c3), .unset, .unset, .unset, .unset, .unset, .unset] [(.long q1)]))
  refine own_go (fun t k => XS.bipush X0.here hx rfl (hb hby at_38) k) ?_
  show own_G p.tables e below s _ _ _ (s₁.setTop (mkF m 40 #[.val (.int p1), .val (.long q1), .second, .val (.int n), .val (.int c0), .val (.int c1), .val (.int c2), .val (.int c3), .unset, .unset, .unset, .unset, .unset, .unset] [(.int (32 : Int32)), (.long q1)]))
  refine own_go (fun t k => XS.lushr X0.here hx rfl (hb hby at_40) rfl k) ?_
  show own_G p.tables e below s _ _ _ (s₁.setTop (mkF m 41 #[.val (.int p1), .val (.long q1), .second, .val (.int n), .val (.int c0), .val (.int c1), .val (.int c2), .val (.int c3), .unset, .unset, .unset, .unset, .unset, .unset] [(.long ((q1.toUInt64 >>> ((32 : Int32) &&& 0x3f).toInt64.toUInt64).toInt64))]))
  refine own_go (fun t k => XS.l2i X0.here hx rfl (hb hby at_41) rfl k) ?_
  show own_G p.tables e below s _ _ _ (s₁.setTop (mkF m 42 #[.val (.int p1), .val (.long q1), .second, .val (.int n), .val (.int c0), .val (.int c1), .val (.int c2), .val (.int c3), .unset, .unset, .unset, .unset, .unset, .unset] [(.int (((q1.toUInt64 >>> ((32 : Int32) &&& 0x3f).toInt64.toUInt64).toInt64).toInt32))]))
  refine own_go (fun t k => XS.i2b X0.here hx rfl (hb hby at_42) rfl k) ?_
  show own_G p.tables e below s _ _ _ (s₁.setTop (mkF m 43 #[.val (.int p1), .val (.long q1), .second, .val (.int n), .val (.int c0), .val (.int c1), .val (.int c2), .val (.int c3), .unset, .unset, .unset, .unset, .unset, .unset] [(.int ((((q1.toUInt64 >>> ((32 : Int32) &&& 0x3f).toInt64.toUInt64).toInt64).toInt32).toInt8.toInt32))]))
  obtain ⟨c4, hc4⟩ : ∃ z, ((((q1.toUInt64 >>> ((32 : Int32) &&& 0x3f).toInt64.toUInt64).toInt64).toInt32).toInt8.toInt32) = z := ⟨_, rfl⟩
  rw [hc4]
  show own_G p.tables e below s _ _ _ (s₁.setTop (mkF m 43 #[.val (.int p1), .val (.long q1), .second, .val (.int n), .val (.int c0), .val (.int c1), .val (.int c2), .val (.int c3), .unset, .unset, .unset, .unset, .unset, .unset] [(.int c4)]))
  have hb4 : nar .byte c4 = c4 := by rw [← hc4]; exact own_narB _
  refine own_go (fun t k => XS.istore X0.here hx rfl (hb hby at_43) rfl (l' := #[.val (.int p1), .val (.long q1), .second, .val (.int n), .val (.int c0), .val (.int c1), .val (.int c2), .val (.int c3), .val (.int c4), .unset, .unset, .unset, .unset, .unset]) rfl k) ?_
  show own_G p.tables e below s _ _ _ (s₁.setTop (mkF m 45 #[.val (.int p1), .val (.long q1), .second, .val (.int n), .val (.int c0), .val (.int c1), .val (.int c2), .val (.int c3), .val (.int c4), .unset, .unset, .unset, .unset, .unset] []))
  refine own_go (fun t k => XS.lloadN X0.here hx rfl (hb hby at_45) rfl k) ?_
  show own_G p.tables e below s _ _ _ (s₁.setTop (mkF m 46 #[.val (.int p1), .val (.long q1), .second, .val (.int n), .val (.int c0), .val (.int c1), .val (.int c2), .val (.int c3), .val (.int c4), .unset, .unset, .unset, .unset, .unset] [(.long q1)]))
  refine own_go (fun t k => XS.bipush X0.here hx rfl (hb hby at_46) k) ?_
  show own_G p.tables e below s _ _ _ (s₁.setTop (mkF m 48 #[.val (.int p1), .val (.long q1), .second, .val (.int n), .val (.int c0), .val (.int c1), .val (.int c2), .val (.int c3), .val (.int c4), .unset, .unset, .unset, .unset, .unset] [(.int (40 : Int32)), (.long q1)]))
  refine own_go (fun t k => XS.lushr X0.here hx rfl (hb hby at_48) rfl k) ?_
  show own_G p.tables e below s _ _ _ (s₁.setTop (mkF m 49 #[.val (.int p1), .val (.long q1), .second, .val (.int n), .val (.int c0), .val (.int c1), .val (.int c2), .val (.int c3), .val (.int c4), .unset, .unset, .unset, .unset, .unset] [(.long ((q1.toUInt64 >>> ((40 : Int32) &&& 0x3f).toInt64.toUInt64).toInt64))]))
  refine own_go (fun t k => XS.l2i X0.here hx rfl (hb hby at_49) rfl k) ?_
  show own_G p.tables e below s _ _ _ (s₁.setTop (mkF m 50 #[.val (.int p1), .val (.long q1), .second, .val (.int n), .val (.int c0), .val (.int c1), .val (.int c2), .val (.int c3), .val (.int c4), .unset, .unset, .unset, .unset, .unset] [(.int (((q1.toUInt64 >>> ((40 : Int32) &&& 0x3f).toInt64.toUInt64).toInt64).toInt32))]))
  refine own_go (fun t k => XS.i2b X0.here hx rfl (hb hby at_50) rfl k) ?_
  show own_G p.tables e below s _ _ _ (s₁.setTop (mkF m 51 #[.val (.int p1), .val (.long q1), .second, .val (.int n), .val (.int c0), .val (.int c1), .val (.int c2), .val (.int c3), .val (.int c4), .unset, .unset, .unset, .unset, .unset] [(.int ((((q1.toUInt64 >>> ((40 : Int32) &&& 0x3f).toInt64.toUInt64).toInt64).toInt32).toInt8.toInt32))]))
  obtain ⟨c5, hc5⟩ : ∃ z, ((((q1.toUInt64 >>> ((40 : Int32) &&& 0x3f).toInt64.toUInt64).toInt64).toInt32).toInt8.toInt32) = z := ⟨_, rfl⟩
  rw [hc5]
  show own_G p.tables e below s _ _ _ (s₁.setTop (mkF m 51 #[.val (.int p1), .val (.long q1), .second, .val (.int n), .val (.int c0), .val (.int c1), .val (.int c2), .val (.int c3), .val (.int c4), .unset, .unset, .unset, .unset, .unset] [(.int c5)]))
  have hb5 : nar .byte c5 = c5 := by rw [← hc5]; exact own_narB _
  refine own_go (fun t k => XS.istore X0.here hx rfl (hb hby at_51) rfl (l' := #[.val (.int p1), .val (.long q1), .second, .val (.int n), .val (.int c0), .val (.int c1), .val (.int c2), .val (.int c3), .val (.int c4), .val (.int c5), .unset, .unset, .unset, .unset]) rfl k) ?_
  show own_G p.tables e below s _ _ _ (s₁.setTop (mkF m 53 #[.val (.int p1), .val (.long q1), .second, .val (.int n), .val (.int c0), .val (.int c1), .val (.int c2), .val (.int c3), .val (.int c4), .val (.int c5), .unset, .unset, .unset, .unset] []))
  refine own_go (fun t k => XS.lloadN X0.here hx rfl (hb hby at_53) rfl k) ?_
  show own_G p.tables e below s _ _ _ (s₁.setTop (mkF m 54 #[.val (.int p1), .val (.long q1), .second, .val (.int n), .val (.int c0), .val (.int c1), .val (.int c2), .val (.int c3), .val (.int c4), .val (.int c5), .unset, .unset, .unset, .unset] [(.long q1)]))
  refine own_go (fun t k => XS.bipush X0.here hx rfl (hb hby at_54) k) ?_
  show own_G p.tables e below s _ _ _ (s₁.setTop (mkF m 56 #[.val (.int p1), .val (.long q1), .second, .val (.int n), .val (.int c0), .val (.int c1), .val (.int c2), .val (.int c3), .val (.int c4), .val (.int c5), .unset, .unset, .unset, .unset] [(.int (48 : Int32)), (.long q1)]))
  refine own_go (fun t k => XS.lushr X0.here hx rfl (hb hby at_56) rfl k) ?_
  show own_G p.tables e below s _ _ _ (s₁.setTop (mkF m 57 #[.val (.int p1), .val (.long q1), .second, .val (.int n), .val (.int c0), .val (.int c1), .val (.int c2), .val (.int c3), .val (.int c4), .val (.int c5), .unset, .unset, .unset, .unset] [(.long ((q1.toUInt64 >>> ((48 : Int32) &&& 0x3f).toInt64.toUInt64).toInt64))]))
  refine own_go (fun t k => XS.l2i X0.here hx rfl (hb hby at_57) rfl k) ?_
  show own_G p.tables e below s _ _ _ (s₁.setTop (mkF m 58 #[.val (.int p1), .val (.long q1), .second, .val (.int n), .val (.int c0), .val (.int c1), .val (.int c2), .val (.int c3), .val (.int c4), .val (.int c5), .unset, .unset, .unset, .unset] [(.int (((q1.toUInt64 >>> ((48 : Int32) &&& 0x3f).toInt64.toUInt64).toInt64).toInt32))]))
  refine own_go (fun t k => XS.i2b X0.here hx rfl (hb hby at_58) rfl k) ?_
  show own_G p.tables e below s _ _ _ (s₁.setTop (mkF m 59 #[.val (.int p1), .val (.long q1), .second, .val (.int n), .val (.int c0), .val (.int c1), .val (.int c2), .val (.int c3), .val (.int c4), .val (.int c5), .unset, .unset, .unset, .unset] [(.int ((((q1.toUInt64 >>> ((48 : Int32) &&& 0x3f).toInt64.toUInt64).toInt64).toInt32).toInt8.toInt32))]))
  obtain ⟨c6, hc6⟩ : ∃ z, ((((q1.toUInt64 >>> ((48 : Int32) &&& 0x3f).toInt64.toUInt64).toInt64).toInt32).toInt8.toInt32) = z := ⟨_, rfl⟩
  rw [hc6]
  show own_G p.tables e below s _ _ _ (s₁.setTop (mkF m 59 #[.val (.int p1), .val (.long q1), .second, .val (.int n), .val (.int c0), .val (.int c1), .val (.int c2), .val (.int c3), .val (.int c4), .val (.int c5), .unset, .unset, .unset, .unset] [(.int c6)]))
  have hb6 : nar .byte c6 = c6 := by rw [← hc6]; exact own_narB _
  refine own_go (fun t k => XS.istore X0.here hx rfl (hb hby at_59) rfl (l' := #[.val (.int p1), .val (.long q1), .second, .val (.int n), .val (.int c0), .val (.int c1), .val (.int c2), .val (.int c3), .val (.int c4), .val (.int c5), .val (.int c6), .unset, .unset, .unset]) rfl k) ?_
  show own_G p.tables e below s _ _ _ (s₁.setTop (mkF m 61 #[.val (.int p1), .val (.long q1), .second, .val (.int n), .val (.int c0), .val (.int c1), .val (.int c2), .val (.int c3), .val (.int c4), .val (.int c5), .val (.int c6), .unset, .unset, .unset] []))
  refine own_go (fun t k => XS.lloadN X0.here hx rfl (hb hby at_61) rfl k) ?_
  show own_G p.tables e below s _ _ _ (s₁.setTop (mkF m 62 #[.val (.int p1), .val (.long q1), .second, .val (.int n), .val (.int c0), .val (.int c1), .val (.int c2), .val (.int c3), .val (.int c4), .val (.int c5), .val (.int c6), .unset, .unset, .unset] [(.long q1)]))
  refine own_go (fun t k => XS.bipush X0.here hx rfl (hb hby at_62) k) ?_
  show own_G p.tables e below s _ _ _ (s₁.setTop (mkF m 64 #[.val (.int p1), .val (.long q1), .second, .val (.int n), .val (.int c0), .val (.int c1), .val (.int c2), .val (.int c3), .val (.int c4), .val (.int c5), .val (.int c6), .unset, .unset, .unset] [(.int (56 : Int32)), (.long q1)]))
  refine own_go (fun t k => XS.lushr X0.here hx rfl (hb hby at_64) rfl k) ?_
  show own_G p.tables e below s _ _ _ (s₁.setTop (mkF m 65 #[.val (.int p1), .val (.long q1), .second, .val (.int n), .val (.int c0), .val (.int c1), .val (.int c2), .val (.int c3), .val (.int c4), .val (.int c5), .val (.int c6), .unset, .unset, .unset] [(.long ((q1.toUInt64 >>> ((56 : Int32) &&& 0x3f).toInt64.toUInt64).toInt64))]))
  refine own_go (fun t k => XS.l2i X0.here hx rfl (hb hby at_65) rfl k) ?_
  show own_G p.tables e below s _ _ _ (s₁.setTop (mkF m 66 #[.val (.int p1), .val (.long q1), .second, .val (.int n), .val (.int c0), .val (.int c1), .val (.int c2), .val (.int c3), .val (.int c4), .val (.int c5), .val (.int c6), .unset, .unset, .unset] [(.int (((q1.toUInt64 >>> ((56 : Int32) &&& 0x3f).toInt64.toUInt64).toInt64).toInt32))]))
  refine own_go (fun t k => XS.i2b X0.here hx rfl (hb hby at_66) rfl k) ?_
  show own_G p.tables e below s _ _ _ (s₁.setTop (mkF m 67 #[.val (.int p1), .val (.long q1), .second, .val (.int n), .val (.int c0), .val (.int c1), .val (.int c2), .val (.int c3), .val (.int c4), .val (.int c5), .val (.int c6), .unset, .unset, .unset] [(.int ((((q1.toUInt64 >>> ((56 : Int32) &&& 0x3f).toInt64.toUInt64).toInt64).toInt32).toInt8.toInt32))]))
  obtain ⟨c7, hc7⟩ : ∃ z, ((((q1.toUInt64 >>> ((56 : Int32) &&& 0x3f).toInt64.toUInt64).toInt64).toInt32).toInt8.toInt32) = z := ⟨_, rfl⟩
  rw [hc7]
  show own_G p.tables e below s _ _ _ (s₁.setTop (mkF m 67 #[.val (.int p1), .val (.long q1), .second, .val (.int n), .val (.int c0), .val (.int c1), .val (.int c2), .val (.int c3), .val (.int c4), .val (.int c5), .val (.int c6), .unset, .unset, .unset] [(.int c7)]))
  have hb7 : nar .byte c7 = c7 := by rw [← hc7]; exact own_narB _
  refine own_go (fun t k => XS.istore X0.here hx rfl (hb hby at_67) rfl (l' := #[.val (.int p1), .val (.long q1), .second, .val (.int n), .val (.int c0), .val (.int c1), .val (.int c2), .val (.int c3), .val (.int c4), .val (.int c5), .val (.int c6), .val (.int c7), .unset, .unset]) rfl k) ?_
  show own_G p.tables e below s _ _ _ (s₁.setTop (mkF m 69 #[.val (.int p1), .val (.long q1), .second, .val (.int n), .val (.int c0), .val (.int c1), .val (.int c2), .val (.int c3), .val (.int c4), .val (.int c5), .val (.int c6), .val (.int c7), .unset, .unset] []))
  have hp := own_pick p1
  rw [hn] at hp
  clear hn
  rcases hp with rfl | rfl | rfl | rfl | rfl | rfl | rfl | rfl | rfl
  · show own_G p.tables e below s _ _ _ (s₁.setTop (mkF m 69 #[.val (.int p1), .val (.long q1), .second, .val (.int (0 : Int32)), .val (.int c0), .val (.int c1), .val (.int c2), .val (.int c3), .val (.int c4), .val (.int c5), .val (.int c6), .val (.int c7), .unset, .unset] []))
    refine own_go (fun t k => XS.iloadN X0.here hx rfl (hb hby at_69) rfl k) ?_
    show own_G p.tables e below s _ _ _ (s₁.setTop (mkF m 70 #[.val (.int p1), .val (.long q1), .second, .val (.int (0 : Int32)), .val (.int c0), .val (.int c1), .val (.int c2), .val (.int c3), .val (.int c4), .val (.int c5), .val (.int c6), .val (.int c7), .unset, .unset] [(.int (0 : Int32))]))
    obtain ⟨T46, h46, k46, X46, e46, E46, A46, st46⟩ := newP X0 hx hZ (hw _ (List.mem_of_getElem? (i := 1) rfl)) e0 (g := (mkF m 70 #[.val (.int p1), .val (.long q1), .second, .val (.int (0 : Int32)), .val (.int c0), .val (.int c1), .val (.int c2), .val (.int c3), .val (.int c4), .val (.int c5), .val (.int c6), .val (.int c7), .unset, .unset] [(.int (0 : Int32))])) rfl (hb hby at_70) rfl (by decide) (cap := 0) (by decide) (by decide) (by decide) (by decide)
    obtain ⟨b46, g46⟩ : ∃ z, z = h0.size := ⟨_, rfl⟩
    rw [← g46] at A46 st46
    refine own_go st46 ?_
    have g47 := Nat.le_trans Z0 (Nat.le_of_eq g46.symm)
    have z48 := Nat.le_trans Z0 E46.1
    have v49 : Arv Z h46 b46 k46 .byte (0 : Int32) [] (.int (0 : Int32)) := (Arv.new A46 (by decide)).pad (pad_rep [] (.int (0 : Int32)) 0)
    show own_G p.tables e below s _ _ _ (T46.setTop (mkF m 72 #[.val (.int p1), .val (.long q1), .second, .val (.int (0 : Int32)), .val (.int c0), .val (.int c1), .val (.int c2), .val (.int c3), .val (.int c4), .val (.int c5), .val (.int c6), .val (.int c7), .unset, .unset] [(.ref b46)]))
    refine own_go (fun t k => XS.astore X46.here hx rfl (hb hby at_72) rfl rfl (l' := #[.val (.int p1), .val (.long q1), .second, .val (.int (0 : Int32)), .val (.int c0), .val (.int c1), .val (.int c2), .val (.int c3), .val (.int c4), .val (.int c5), .val (.int c6), .val (.int c7), .val (.ref b46), .unset]) rfl k) ?_
    show own_G p.tables e below s _ _ _ (T46.setTop (mkF m 74 #[.val (.int p1), .val (.long q1), .second, .val (.int (0 : Int32)), .val (.int c0), .val (.int c1), .val (.int c2), .val (.int c3), .val (.int c4), .val (.int c5), .val (.int c6), .val (.int c7), .val (.ref b46), .unset] []))
    refine own_go (fun t k => XS.iloadN X46.here hx rfl (hb hby at_74) rfl k) ?_
    show own_G p.tables e below s _ _ _ (T46.setTop (mkF m 75 #[.val (.int p1), .val (.long q1), .second, .val (.int (0 : Int32)), .val (.int c0), .val (.int c1), .val (.int c2), .val (.int c3), .val (.int c4), .val (.int c5), .val (.int c6), .val (.int c7), .val (.ref b46), .unset] [(.int (0 : Int32))]))
    refine own_go (fun t k => XS.ifYes X46.here hx rfl (pc0 := 75) (pc' := 84) rfl (hb hby at_75) rfl (by decide) (by decide) (by decide) k) ?_
    show own_G p.tables e below s _ _ _ (T46.setTop (mkF m 84 #[.val (.int p1), .val (.long q1), .second, .val (.int (0 : Int32)), .val (.int c0), .val (.int c1), .val (.int c2), .val (.int c3), .val (.int c4), .val (.int c5), .val (.int c6), .val (.int c7), .val (.ref b46), .unset] []))
    refine own_go (fun t k => XS.iloadN X46.here hx rfl (hb hby at_84) rfl k) ?_
    show own_G p.tables e below s _ _ _ (T46.setTop (mkF m 85 #[.val (.int p1), .val (.long q1), .second, .val (.int (0 : Int32)), .val (.int c0), .val (.int c1), .val (.int c2), .val (.int c3), .val (.int c4), .val (.int c5), .val (.int c6), .val (.int c7), .val (.ref b46), .unset] [(.int (0 : Int32))]))
    refine own_go (fun t k => XS.iconst X46.here hx rfl (hb hby at_85) k) ?_
    show own_G p.tables e below s _ _ _ (T46.setTop (mkF m 86 #[.val (.int p1), .val (.long q1), .second, .val (.int (0 : Int32)), .val (.int c0), .val (.int c1), .val (.int c2), .val (.int c3), .val (.int c4), .val (.int c5), .val (.int c6), .val (.int c7), .val (.ref b46), .unset] [(.int (1 : Int32)), (.int (0 : Int32))]))
    refine own_go (fun t k => XS.icmpYes X46.here hx rfl (pc0 := 86) (pc' := 95) rfl (hb hby at_86) rfl (by decide) (by decide) (by decide) k) ?_
    show own_G p.tables e below s _ _ _ (T46.setTop (mkF m 95 #[.val (.int p1), .val (.long q1), .second, .val (.int (0 : Int32)), .val (.int c0), .val (.int c1), .val (.int c2), .val (.int c3), .val (.int c4), .val (.int c5), .val (.int c6), .val (.int c7), .val (.ref b46), .unset] []))
    refine own_go (fun t k => XS.iloadN X46.here hx rfl (hb hby at_95) rfl k) ?_
    show own_G p.tables e below s _ _ _ (T46.setTop (mkF m 96 #[.val (.int p1), .val (.long q1), .second, .val (.int (0 : Int32)), .val (.int c0), .val (.int c1), .val (.int c2), .val (.int c3), .val (.int c4), .val (.int c5), .val (.int c6), .val (.int c7), .val (.ref b46), .unset] [(.int (0 : Int32))]))
    refine own_go (fun t k => XS.iconst X46.here hx rfl (hb hby at_96) k) ?_
    show own_G p.tables e below s _ _ _ (T46.setTop (mkF m 97 #[.val (.int p1), .val (.long q1), .second, .val (.int (0 : Int32)), .val (.int c0), .val (.int c1), .val (.int c2), .val (.int c3), .val (.int c4), .val (.int c5), .val (.int c6), .val (.int c7), .val (.ref b46), .unset] [(.int (2 : Int32)), (.int (0 : Int32))]))
    refine own_go (fun t k => XS.icmpYes X46.here hx rfl (pc0 := 97) (pc' := 106) rfl (hb hby at_97) rfl (by decide) (by decide) (by decide) k) ?_
    show own_G p.tables e below s _ _ _ (T46.setTop (mkF m 106 #[.val (.int p1), .val (.long q1), .second, .val (.int (0 : Int32)), .val (.int c0), .val (.int c1), .val (.int c2), .val (.int c3), .val (.int c4), .val (.int c5), .val (.int c6), .val (.int c7), .val (.ref b46), .unset] []))
    refine own_go (fun t k => XS.iloadN X46.here hx rfl (hb hby at_106) rfl k) ?_
    show own_G p.tables e below s _ _ _ (T46.setTop (mkF m 107 #[.val (.int p1), .val (.long q1), .second, .val (.int (0 : Int32)), .val (.int c0), .val (.int c1), .val (.int c2), .val (.int c3), .val (.int c4), .val (.int c5), .val (.int c6), .val (.int c7), .val (.ref b46), .unset] [(.int (0 : Int32))]))
    refine own_go (fun t k => XS.iconst X46.here hx rfl (hb hby at_107) k) ?_
    show own_G p.tables e below s _ _ _ (T46.setTop (mkF m 108 #[.val (.int p1), .val (.long q1), .second, .val (.int (0 : Int32)), .val (.int c0), .val (.int c1), .val (.int c2), .val (.int c3), .val (.int c4), .val (.int c5), .val (.int c6), .val (.int c7), .val (.ref b46), .unset] [(.int (3 : Int32)), (.int (0 : Int32))]))
    refine own_go (fun t k => XS.icmpYes X46.here hx rfl (pc0 := 108) (pc' := 117) rfl (hb hby at_108) rfl (by decide) (by decide) (by decide) k) ?_
    show own_G p.tables e below s _ _ _ (T46.setTop (mkF m 117 #[.val (.int p1), .val (.long q1), .second, .val (.int (0 : Int32)), .val (.int c0), .val (.int c1), .val (.int c2), .val (.int c3), .val (.int c4), .val (.int c5), .val (.int c6), .val (.int c7), .val (.ref b46), .unset] []))
    refine own_go (fun t k => XS.iloadN X46.here hx rfl (hb hby at_117) rfl k) ?_
    show own_G p.tables e below s _ _ _ (T46.setTop (mkF m 118 #[.val (.int p1), .val (.long q1), .second, .val (.int (0 : Int32)), .val (.int c0), .val (.int c1), .val (.int c2), .val (.int c3), .val (.int c4), .val (.int c5), .val (.int c6), .val (.int c7), .val (.ref b46), .unset] [(.int (0 : Int32))]))
    refine own_go (fun t k => XS.iconst X46.here hx rfl (hb hby at_118) k) ?_
    show own_G p.tables e below s _ _ _ (T46.setTop (mkF m 119 #[.val (.int p1), .val (.long q1), .second, .val (.int (0 : Int32)), .val (.int c0), .val (.int c1), .val (.int c2), .val (.int c3), .val (.int c4), .val (.int c5), .val (.int c6), .val (.int c7), .val (.ref b46), .unset] [(.int (4 : Int32)), (.int (0 : Int32))]))
    refine own_go (fun t k => XS.icmpYes X46.here hx rfl (pc0 := 119) (pc' := 128) rfl (hb hby at_119) rfl (by decide) (by decide) (by decide) k) ?_
    show own_G p.tables e below s _ _ _ (T46.setTop (mkF m 128 #[.val (.int p1), .val (.long q1), .second, .val (.int (0 : Int32)), .val (.int c0), .val (.int c1), .val (.int c2), .val (.int c3), .val (.int c4), .val (.int c5), .val (.int c6), .val (.int c7), .val (.ref b46), .unset] []))
    refine own_go (fun t k => XS.iloadN X46.here hx rfl (hb hby at_128) rfl k) ?_
    show own_G p.tables e below s _ _ _ (T46.setTop (mkF m 129 #[.val (.int p1), .val (.long q1), .second, .val (.int (0 : Int32)), .val (.int c0), .val (.int c1), .val (.int c2), .val (.int c3), .val (.int c4), .val (.int c5), .val (.int c6), .val (.int c7), .val (.ref b46), .unset] [(.int (0 : Int32))]))
    refine own_go (fun t k => XS.iconst X46.here hx rfl (hb hby at_129) k) ?_
    show own_G p.tables e below s _ _ _ (T46.setTop (mkF m 130 #[.val (.int p1), .val (.long q1), .second, .val (.int (0 : Int32)), .val (.int c0), .val (.int c1), .val (.int c2), .val (.int c3), .val (.int c4), .val (.int c5), .val (.int c6), .val (.int c7), .val (.ref b46), .unset] [(.int (5 : Int32)), (.int (0 : Int32))]))
    refine own_go (fun t k => XS.icmpYes X46.here hx rfl (pc0 := 130) (pc' := 139) rfl (hb hby at_130) rfl (by decide) (by decide) (by decide) k) ?_
    show own_G p.tables e below s _ _ _ (T46.setTop (mkF m 139 #[.val (.int p1), .val (.long q1), .second, .val (.int (0 : Int32)), .val (.int c0), .val (.int c1), .val (.int c2), .val (.int c3), .val (.int c4), .val (.int c5), .val (.int c6), .val (.int c7), .val (.ref b46), .unset] []))
    refine own_go (fun t k => XS.iloadN X46.here hx rfl (hb hby at_139) rfl k) ?_
    show own_G p.tables e below s _ _ _ (T46.setTop (mkF m 140 #[.val (.int p1), .val (.long q1), .second, .val (.int (0 : Int32)), .val (.int c0), .val (.int c1), .val (.int c2), .val (.int c3), .val (.int c4), .val (.int c5), .val (.int c6), .val (.int c7), .val (.ref b46), .unset] [(.int (0 : Int32))]))
    refine own_go (fun t k => XS.bipush X46.here hx rfl (hb hby at_140) k) ?_
    show own_G p.tables e below s _ _ _ (T46.setTop (mkF m 142 #[.val (.int p1), .val (.long q1), .second, .val (.int (0 : Int32)), .val (.int c0), .val (.int c1), .val (.int c2), .val (.int c3), .val (.int c4), .val (.int c5), .val (.int c6), .val (.int c7), .val (.ref b46), .unset] [(.int (6 : Int32)), (.int (0 : Int32))]))
    refine own_go (fun t k => XS.icmpYes X46.here hx rfl (pc0 := 142) (pc' := 152) rfl (hb hby at_142) rfl (by decide) (by decide) (by decide) k) ?_
    show own_G p.tables e below s _ _ _ (T46.setTop (mkF m 152 #[.val (.int p1), .val (.long q1), .second, .val (.int (0 : Int32)), .val (.int c0), .val (.int c1), .val (.int c2), .val (.int c3), .val (.int c4), .val (.int c5), .val (.int c6), .val (.int c7), .val (.ref b46), .unset] []))
    refine own_go (fun t k => XS.iloadN X46.here hx rfl (hb hby at_152) rfl k) ?_
    show own_G p.tables e below s _ _ _ (T46.setTop (mkF m 153 #[.val (.int p1), .val (.long q1), .second, .val (.int (0 : Int32)), .val (.int c0), .val (.int c1), .val (.int c2), .val (.int c3), .val (.int c4), .val (.int c5), .val (.int c6), .val (.int c7), .val (.ref b46), .unset] [(.int (0 : Int32))]))
    refine own_go (fun t k => XS.bipush X46.here hx rfl (hb hby at_153) k) ?_
    show own_G p.tables e below s _ _ _ (T46.setTop (mkF m 155 #[.val (.int p1), .val (.long q1), .second, .val (.int (0 : Int32)), .val (.int c0), .val (.int c1), .val (.int c2), .val (.int c3), .val (.int c4), .val (.int c5), .val (.int c6), .val (.int c7), .val (.ref b46), .unset] [(.int (7 : Int32)), (.int (0 : Int32))]))
    refine own_go (fun t k => XS.icmpYes X46.here hx rfl (pc0 := 155) (pc' := 165) rfl (hb hby at_155) rfl (by decide) (by decide) (by decide) k) ?_
    show own_G p.tables e below s _ _ _ (T46.setTop (mkF m 165 #[.val (.int p1), .val (.long q1), .second, .val (.int (0 : Int32)), .val (.int c0), .val (.int c1), .val (.int c2), .val (.int c3), .val (.int c4), .val (.int c5), .val (.int c6), .val (.int c7), .val (.ref b46), .unset] []))
    refine own_go (fun t k => XS.iloadN X46.here hx rfl (hb hby at_165) rfl k) ?_
    show own_G p.tables e below s _ _ _ (T46.setTop (mkF m 166 #[.val (.int p1), .val (.long q1), .second, .val (.int (0 : Int32)), .val (.int c0), .val (.int c1), .val (.int c2), .val (.int c3), .val (.int c4), .val (.int c5), .val (.int c6), .val (.int c7), .val (.ref b46), .unset] [(.int (0 : Int32))]))
    refine own_go (fun t k => XS.ifYes X46.here hx rfl (pc0 := 166) (pc' := 174) rfl (hb hby at_166) rfl (by decide) (by decide) (by decide) k) ?_
    show own_G p.tables e below s _ _ _ (T46.setTop (mkF m 174 #[.val (.int p1), .val (.long q1), .second, .val (.int (0 : Int32)), .val (.int c0), .val (.int c1), .val (.int c2), .val (.int c3), .val (.int c4), .val (.int c5), .val (.int c6), .val (.int c7), .val (.ref b46), .unset] []))
    refine own_go (fun t k => XS.iloadN X46.here hx rfl (hb hby at_174) rfl k) ?_
    show own_G p.tables e below s _ _ _ (T46.setTop (mkF m 175 #[.val (.int p1), .val (.long q1), .second, .val (.int (0 : Int32)), .val (.int c0), .val (.int c1), .val (.int c2), .val (.int c3), .val (.int c4), .val (.int c5), .val (.int c6), .val (.int c7), .val (.ref b46), .unset] [(.int (0 : Int32))]))
    refine own_go (fun t k => XS.iconst X46.here hx rfl (hb hby at_175) k) ?_
    show own_G p.tables e below s _ _ _ (T46.setTop (mkF m 176 #[.val (.int p1), .val (.long q1), .second, .val (.int (0 : Int32)), .val (.int c0), .val (.int c1), .val (.int c2), .val (.int c3), .val (.int c4), .val (.int c5), .val (.int c6), .val (.int c7), .val (.ref b46), .unset] [(.int (1 : Int32)), (.int (0 : Int32))]))
    refine own_go (fun t k => XS.icmpYes X46.here hx rfl (pc0 := 176) (pc' := 184) rfl (hb hby at_176) rfl (by decide) (by decide) (by decide) k) ?_
    show own_G p.tables e below s _ _ _ (T46.setTop (mkF m 184 #[.val (.int p1), .val (.long q1), .second, .val (.int (0 : Int32)), .val (.int c0), .val (.int c1), .val (.int c2), .val (.int c3), .val (.int c4), .val (.int c5), .val (.int c6), .val (.int c7), .val (.ref b46), .unset] []))
    refine own_go (fun t k => XS.iloadN X46.here hx rfl (hb hby at_184) rfl k) ?_
    show own_G p.tables e below s _ _ _ (T46.setTop (mkF m 185 #[.val (.int p1), .val (.long q1), .second, .val (.int (0 : Int32)), .val (.int c0), .val (.int c1), .val (.int c2), .val (.int c3), .val (.int c4), .val (.int c5), .val (.int c6), .val (.int c7), .val (.ref b46), .unset] [(.int (0 : Int32))]))
    refine own_go (fun t k => XS.iconst X46.here hx rfl (hb hby at_185) k) ?_
    show own_G p.tables e below s _ _ _ (T46.setTop (mkF m 186 #[.val (.int p1), .val (.long q1), .second, .val (.int (0 : Int32)), .val (.int c0), .val (.int c1), .val (.int c2), .val (.int c3), .val (.int c4), .val (.int c5), .val (.int c6), .val (.int c7), .val (.ref b46), .unset] [(.int (2 : Int32)), (.int (0 : Int32))]))
    refine own_go (fun t k => XS.icmpYes X46.here hx rfl (pc0 := 186) (pc' := 194) rfl (hb hby at_186) rfl (by decide) (by decide) (by decide) k) ?_
    show own_G p.tables e below s _ _ _ (T46.setTop (mkF m 194 #[.val (.int p1), .val (.long q1), .second, .val (.int (0 : Int32)), .val (.int c0), .val (.int c1), .val (.int c2), .val (.int c3), .val (.int c4), .val (.int c5), .val (.int c6), .val (.int c7), .val (.ref b46), .unset] []))
    refine own_go (fun t k => XS.iloadN X46.here hx rfl (hb hby at_194) rfl k) ?_
    show own_G p.tables e below s _ _ _ (T46.setTop (mkF m 195 #[.val (.int p1), .val (.long q1), .second, .val (.int (0 : Int32)), .val (.int c0), .val (.int c1), .val (.int c2), .val (.int c3), .val (.int c4), .val (.int c5), .val (.int c6), .val (.int c7), .val (.ref b46), .unset] [(.int (0 : Int32))]))
    refine own_go (fun t k => XS.iconst X46.here hx rfl (hb hby at_195) k) ?_
    show own_G p.tables e below s _ _ _ (T46.setTop (mkF m 196 #[.val (.int p1), .val (.long q1), .second, .val (.int (0 : Int32)), .val (.int c0), .val (.int c1), .val (.int c2), .val (.int c3), .val (.int c4), .val (.int c5), .val (.int c6), .val (.int c7), .val (.ref b46), .unset] [(.int (3 : Int32)), (.int (0 : Int32))]))
    refine own_go (fun t k => XS.icmpYes X46.here hx rfl (pc0 := 196) (pc' := 204) rfl (hb hby at_196) rfl (by decide) (by decide) (by decide) k) ?_
    show own_G p.tables e below s _ _ _ (T46.setTop (mkF m 204 #[.val (.int p1), .val (.long q1), .second, .val (.int (0 : Int32)), .val (.int c0), .val (.int c1), .val (.int c2), .val (.int c3), .val (.int c4), .val (.int c5), .val (.int c6), .val (.int c7), .val (.ref b46), .unset] []))
    refine own_go (fun t k => XS.iloadN X46.here hx rfl (hb hby at_204) rfl k) ?_
    show own_G p.tables e below s _ _ _ (T46.setTop (mkF m 205 #[.val (.int p1), .val (.long q1), .second, .val (.int (0 : Int32)), .val (.int c0), .val (.int c1), .val (.int c2), .val (.int c3), .val (.int c4), .val (.int c5), .val (.int c6), .val (.int c7), .val (.ref b46), .unset] [(.int (0 : Int32))]))
    refine own_go (fun t k => XS.iconst X46.here hx rfl (hb hby at_205) k) ?_
    show own_G p.tables e below s _ _ _ (T46.setTop (mkF m 206 #[.val (.int p1), .val (.long q1), .second, .val (.int (0 : Int32)), .val (.int c0), .val (.int c1), .val (.int c2), .val (.int c3), .val (.int c4), .val (.int c5), .val (.int c6), .val (.int c7), .val (.ref b46), .unset] [(.int (4 : Int32)), (.int (0 : Int32))]))
    refine own_go (fun t k => XS.icmpYes X46.here hx rfl (pc0 := 206) (pc' := 214) rfl (hb hby at_206) rfl (by decide) (by decide) (by decide) k) ?_
    show own_G p.tables e below s _ _ _ (T46.setTop (mkF m 214 #[.val (.int p1), .val (.long q1), .second, .val (.int (0 : Int32)), .val (.int c0), .val (.int c1), .val (.int c2), .val (.int c3), .val (.int c4), .val (.int c5), .val (.int c6), .val (.int c7), .val (.ref b46), .unset] []))
    refine own_go (fun t k => XS.iloadN X46.here hx rfl (hb hby at_214) rfl k) ?_
    show own_G p.tables e below s _ _ _ (T46.setTop (mkF m 215 #[.val (.int p1), .val (.long q1), .second, .val (.int (0 : Int32)), .val (.int c0), .val (.int c1), .val (.int c2), .val (.int c3), .val (.int c4), .val (.int c5), .val (.int c6), .val (.int c7), .val (.ref b46), .unset] [(.int (0 : Int32))]))
    refine own_go (fun t k => XS.iconst X46.here hx rfl (hb hby at_215) k) ?_
    show own_G p.tables e below s _ _ _ (T46.setTop (mkF m 216 #[.val (.int p1), .val (.long q1), .second, .val (.int (0 : Int32)), .val (.int c0), .val (.int c1), .val (.int c2), .val (.int c3), .val (.int c4), .val (.int c5), .val (.int c6), .val (.int c7), .val (.ref b46), .unset] [(.int (5 : Int32)), (.int (0 : Int32))]))
    refine own_go (fun t k => XS.icmpYes X46.here hx rfl (pc0 := 216) (pc' := 224) rfl (hb hby at_216) rfl (by decide) (by decide) (by decide) k) ?_
    show own_G p.tables e below s _ _ _ (T46.setTop (mkF m 224 #[.val (.int p1), .val (.long q1), .second, .val (.int (0 : Int32)), .val (.int c0), .val (.int c1), .val (.int c2), .val (.int c3), .val (.int c4), .val (.int c5), .val (.int c6), .val (.int c7), .val (.ref b46), .unset] []))
    refine own_go (fun t k => XS.iloadN X46.here hx rfl (hb hby at_224) rfl k) ?_
    show own_G p.tables e below s _ _ _ (T46.setTop (mkF m 225 #[.val (.int p1), .val (.long q1), .second, .val (.int (0 : Int32)), .val (.int c0), .val (.int c1), .val (.int c2), .val (.int c3), .val (.int c4), .val (.int c5), .val (.int c6), .val (.int c7), .val (.ref b46), .unset] [(.int (0 : Int32))]))
    refine own_go (fun t k => XS.bipush X46.here hx rfl (hb hby at_225) k) ?_
    show own_G p.tables e below s _ _ _ (T46.setTop (mkF m 227 #[.val (.int p1), .val (.long q1), .second, .val (.int (0 : Int32)), .val (.int c0), .val (.int c1), .val (.int c2), .val (.int c3), .val (.int c4), .val (.int c5), .val (.int c6), .val (.int c7), .val (.ref b46), .unset] [(.int (6 : Int32)), (.int (0 : Int32))]))
    refine own_go (fun t k => XS.icmpYes X46.here hx rfl (pc0 := 227) (pc' := 235) rfl (hb hby at_227) rfl (by decide) (by decide) (by decide) k) ?_
    show own_G p.tables e below s _ _ _ (T46.setTop (mkF m 235 #[.val (.int p1), .val (.long q1), .second, .val (.int (0 : Int32)), .val (.int c0), .val (.int c1), .val (.int c2), .val (.int c3), .val (.int c4), .val (.int c5), .val (.int c6), .val (.int c7), .val (.ref b46), .unset] []))
    refine own_go (fun t k => XS.iloadN X46.here hx rfl (hb hby at_235) rfl k) ?_
    show own_G p.tables e below s _ _ _ (T46.setTop (mkF m 236 #[.val (.int p1), .val (.long q1), .second, .val (.int (0 : Int32)), .val (.int c0), .val (.int c1), .val (.int c2), .val (.int c3), .val (.int c4), .val (.int c5), .val (.int c6), .val (.int c7), .val (.ref b46), .unset] [(.int (0 : Int32))]))
    refine own_go (fun t k => XS.bipush X46.here hx rfl (hb hby at_236) k) ?_
    show own_G p.tables e below s _ _ _ (T46.setTop (mkF m 238 #[.val (.int p1), .val (.long q1), .second, .val (.int (0 : Int32)), .val (.int c0), .val (.int c1), .val (.int c2), .val (.int c3), .val (.int c4), .val (.int c5), .val (.int c6), .val (.int c7), .val (.ref b46), .unset] [(.int (7 : Int32)), (.int (0 : Int32))]))
    refine own_go (fun t k => XS.icmpYes X46.here hx rfl (pc0 := 238) (pc' := 246) rfl (hb hby at_238) rfl (by decide) (by decide) (by decide) k) ?_
    show own_G p.tables e below s _ _ _ (T46.setTop (mkF m 246 #[.val (.int p1), .val (.long q1), .second, .val (.int (0 : Int32)), .val (.int c0), .val (.int c1), .val (.int c2), .val (.int c3), .val (.int c4), .val (.int c5), .val (.int c6), .val (.int c7), .val (.ref b46), .unset] []))
    refine own_go (fun t k => XS.iconst X46.here hx rfl (hb hby at_246) k) ?_
    show own_G p.tables e below s _ _ _ (T46.setTop (mkF m 247 #[.val (.int p1), .val (.long q1), .second, .val (.int (0 : Int32)), .val (.int c0), .val (.int c1), .val (.int c2), .val (.int c3), .val (.int c4), .val (.int c5), .val (.int c6), .val (.int c7), .val (.ref b46), .unset] [(.int (1 : Int32))]))
    refine own_go (fun t k => XS.goto X46.here hx rfl (pc0 := 247) (pc' := 251) rfl (hb hby at_247) (by decide) (by decide) k) ?_
    show own_G p.tables e below s _ _ _ (T46.setTop (mkF m 251 #[.val (.int p1), .val (.long q1), .second, .val (.int (0 : Int32)), .val (.int c0), .val (.int c1), .val (.int c2), .val (.int c3), .val (.int c4), .val (.int c5), .val (.int c6), .val (.int c7), .val (.ref b46), .unset] [(.int (1 : Int32))]))
    refine own_go (fun t k => XS.istore X46.here hx rfl (hb hby at_251) rfl (l' := #[.val (.int p1), .val (.long q1), .second, .val (.int (0 : Int32)), .val (.int c0), .val (.int c1), .val (.int c2), .val (.int c3), .val (.int c4), .val (.int c5), .val (.int c6), .val (.int c7), .val (.ref b46), .val (.int (1 : Int32))]) rfl k) ?_
    show own_G p.tables e below s _ _ _ (T46.setTop (mkF m 253 #[.val (.int p1), .val (.long q1), .second, .val (.int (0 : Int32)), .val (.int c0), .val (.int c1), .val (.int c2), .val (.int c3), .val (.int c4), .val (.int c5), .val (.int c6), .val (.int c7), .val (.ref b46), .val (.int (1 : Int32))] []))
    refine own_go (fun t k => XS.aload X46.here hx rfl (hb hby at_253) rfl rfl k) ?_
    show own_G p.tables e below s _ _ _ (T46.setTop (mkF m 255 #[.val (.int p1), .val (.long q1), .second, .val (.int (0 : Int32)), .val (.int c0), .val (.int c1), .val (.int c2), .val (.int c3), .val (.int c4), .val (.int c5), .val (.int c6), .val (.int c7), .val (.ref b46), .val (.int (1 : Int32))] [(.ref b46)]))
    obtain ⟨ex, hex⟩ : ∃ z, (if False then (0 : Int32) else 1) = z := ⟨_, rfl⟩
    obtain ⟨_, _, ⟨T50, L50, k50, n50⟩, -, X50, ⟨Lc50, hQ50, l50, y50, z50⟩, st50⟩ := Jvm.LawKit.callS X46 hx (y := (⟨"com/example/cartulary/cartulary/model/Syntax", "isAscii", "([B)Z"⟩ : MethodName)) hown (mvT hZ (hw _ (List.mem_of_getElem? (i := 2) rfl))) (mvT hZ (hw _ (List.mem_of_getElem? (i := 3) rfl))) (mvT hZ (hw _ (List.mem_of_getElem? (i := 4) rfl))) (mvT hZ (hw _ (List.mem_of_getElem? (i := 5) rfl))) (by decide) (backOf (W := 0) (rm1_0 l Z a0 hw [] b46 k46  (1 : Int32) h46 n0 z48 v49 (if_neg id)) hZ (hw _ (List.mem_of_getElem? (i := 5) rfl)) (hw _ (List.mem_of_getElem? (i := 4) rfl)) (by decide) (by decide)) (g := (mkF m 255 #[.val (.int p1), .val (.long q1), .second, .val (.int (0 : Int32)), .val (.int c0), .val (.int c1), .val (.int c2), .val (.int c3), .val (.int c4), .val (.int c5), .val (.int c6), .val (.int c7), .val (.ref b46), .val (.int (1 : Int32))] [(.ref b46)])) rfl (by rw [hml]; rfl) (argsL := [(.ref b46)]) (rest := []) (lenOf pd___B_Z rfl) rfl (by show 2 * 0 + _ ≤ _; exact Nat.le_of_eq rfl) (hb hby at_255) (fun _ _ => ⟨rfl, e46, (by decide : 1 + 0 ≤ _), (by decide : 0 + 0 ≤ _)⟩)
    dsimp only [Pt.U, Pt.locs, Pt.cells, Pt.slots] at X50 l50 y50 z50 st50 hQ50
    subst l50 y50 z50
    obtain ⟨rfl, N50q, hh50⟩ := hQ50
    have N50 := Fr.app N0 N50q
    refine own_go st50 ?_
    show own_G p.tables e below s _ _ _ (T50.setTop (mkF m 258 #[.val (.int p1), .val (.long q1), .second, .val (.int (0 : Int32)), .val (.int c0), .val (.int c1), .val (.int c2), .val (.int c3), .val (.int c4), .val (.int c5), .val (.int c6), .val (.int c7), .val (.ref b46), .val (.int (1 : Int32))] [(.int (1 : Int32))]))
    refine own_go (fun t k => XS.iload X50.here hx rfl (hb hby at_258) rfl k) ?_
    show own_G p.tables e below s _ _ _ (T50.setTop (mkF m 260 #[.val (.int p1), .val (.long q1), .second, .val (.int (0 : Int32)), .val (.int c0), .val (.int c1), .val (.int c2), .val (.int c3), .val (.int c4), .val (.int c5), .val (.int c6), .val (.int c7), .val (.ref b46), .val (.int (1 : Int32))] [(.int (1 : Int32)), (.int (1 : Int32))]))
    refine own_go (fun t k => XS.icmpNo X50.here hx rfl (hb hby at_260) rfl (by decide) k) ?_
    show own_G p.tables e below s _ _ _ (T50.setTop (mkF m 263 #[.val (.int p1), .val (.long q1), .second, .val (.int (0 : Int32)), .val (.int c0), .val (.int c1), .val (.int c2), .val (.int c3), .val (.int c4), .val (.int c5), .val (.int c6), .val (.int c7), .val (.ref b46), .val (.int (1 : Int32))] []))
    refine own_go (fun t k => XS.iconst X50.here hx rfl (hb hby at_263) k) ?_
    show own_G p.tables e below s _ _ _ (T50.setTop (mkF m 264 #[.val (.int p1), .val (.long q1), .second, .val (.int (0 : Int32)), .val (.int c0), .val (.int c1), .val (.int c2), .val (.int c3), .val (.int c4), .val (.int c5), .val (.int c6), .val (.int c7), .val (.ref b46), .val (.int (1 : Int32))] [(.int (1 : Int32))]))
    refine own_go (fun t k => XS.goto X50.here hx rfl (pc0 := 264) (pc' := 268) rfl (hb hby at_264) (by decide) (by decide) k) ?_
    show own_G p.tables e below s _ _ _ (T50.setTop (mkF m 268 #[.val (.int p1), .val (.long q1), .second, .val (.int (0 : Int32)), .val (.int c0), .val (.int c1), .val (.int c2), .val (.int c3), .val (.int c4), .val (.int c5), .val (.int c6), .val (.int c7), .val (.ref b46), .val (.int (1 : Int32))] [(.int (1 : Int32))]))
    exact own_retN X50 hx hlk (t := .boolean) (z' := (1 : Int32)) Bd.returns (by simp) (hb hby at_268) (rfl) (by rw [hh50]; exact ⟨rfl, N50⟩) (by decide) (by decide)
  · show own_G p.tables e below s _ _ _ (s₁.setTop (mkF m 69 #[.val (.int p1), .val (.long q1), .second, .val (.int (1 : Int32)), .val (.int c0), .val (.int c1), .val (.int c2), .val (.int c3), .val (.int c4), .val (.int c5), .val (.int c6), .val (.int c7), .unset, .unset] []))
    refine own_go (fun t k => XS.iloadN X0.here hx rfl (hb hby at_69) rfl k) ?_
    show own_G p.tables e below s _ _ _ (s₁.setTop (mkF m 70 #[.val (.int p1), .val (.long q1), .second, .val (.int (1 : Int32)), .val (.int c0), .val (.int c1), .val (.int c2), .val (.int c3), .val (.int c4), .val (.int c5), .val (.int c6), .val (.int c7), .unset, .unset] [(.int (1 : Int32))]))
    obtain ⟨T51, h51, k51, X51, e51, E51, A51, st51⟩ := newP X0 hx hZ (hw _ (List.mem_of_getElem? (i := 1) rfl)) e0 (g := (mkF m 70 #[.val (.int p1), .val (.long q1), .second, .val (.int (1 : Int32)), .val (.int c0), .val (.int c1), .val (.int c2), .val (.int c3), .val (.int c4), .val (.int c5), .val (.int c6), .val (.int c7), .unset, .unset] [(.int (1 : Int32))])) rfl (hb hby at_70) rfl (by decide) (cap := 1) (by decide) (by decide) (by decide) (by decide)
    obtain ⟨b51, g51⟩ : ∃ z, z = h0.size := ⟨_, rfl⟩
    rw [← g51] at A51 st51
    refine own_go st51 ?_
    have g52 := Nat.le_trans Z0 (Nat.le_of_eq g51.symm)
    have z53 := Nat.le_trans Z0 E51.1
    have v54 : Arv Z h51 b51 k51 .byte (1 : Int32) [(.int (0 : Int32))] (.int (0 : Int32)) := (Arv.new A51 (by decide)).pad (pad_rep [] (.int (0 : Int32)) 1)
    show own_G p.tables e below s _ _ _ (T51.setTop (mkF m 72 #[.val (.int p1), .val (.long q1), .second, .val (.int (1 : Int32)), .val (.int c0), .val (.int c1), .val (.int c2), .val (.int c3), .val (.int c4), .val (.int c5), .val (.int c6), .val (.int c7), .unset, .unset] [(.ref b51)]))
    refine own_go (fun t k => XS.astore X51.here hx rfl (hb hby at_72) rfl rfl (l' := #[.val (.int p1), .val (.long q1), .second, .val (.int (1 : Int32)), .val (.int c0), .val (.int c1), .val (.int c2), .val (.int c3), .val (.int c4), .val (.int c5), .val (.int c6), .val (.int c7), .val (.ref b51), .unset]) rfl k) ?_
    show own_G p.tables e below s _ _ _ (T51.setTop (mkF m 74 #[.val (.int p1), .val (.long q1), .second, .val (.int (1 : Int32)), .val (.int c0), .val (.int c1), .val (.int c2), .val (.int c3), .val (.int c4), .val (.int c5), .val (.int c6), .val (.int c7), .val (.ref b51), .unset] []))
    refine own_go (fun t k => XS.iloadN X51.here hx rfl (hb hby at_74) rfl k) ?_
    show own_G p.tables e below s _ _ _ (T51.setTop (mkF m 75 #[.val (.int p1), .val (.long q1), .second, .val (.int (1 : Int32)), .val (.int c0), .val (.int c1), .val (.int c2), .val (.int c3), .val (.int c4), .val (.int c5), .val (.int c6), .val (.int c7), .val (.ref b51), .unset] [(.int (1 : Int32))]))
    refine own_go (fun t k => XS.ifNo X51.here hx rfl (hb hby at_75) rfl (by decide) k) ?_
    show own_G p.tables e below s _ _ _ (T51.setTop (mkF m 78 #[.val (.int p1), .val (.long q1), .second, .val (.int (1 : Int32)), .val (.int c0), .val (.int c1), .val (.int c2), .val (.int c3), .val (.int c4), .val (.int c5), .val (.int c6), .val (.int c7), .val (.ref b51), .unset] []))
    refine own_go (fun t k => XS.aload X51.here hx rfl (hb hby at_78) rfl rfl k) ?_
    show own_G p.tables e below s _ _ _ (T51.setTop (mkF m 80 #[.val (.int p1), .val (.long q1), .second, .val (.int (1 : Int32)), .val (.int c0), .val (.int c1), .val (.int c2), .val (.int c3), .val (.int c4), .val (.int c5), .val (.int c6), .val (.int c7), .val (.ref b51), .unset] [(.ref b51)]))
    refine own_go (fun t k => XS.iconst X51.here hx rfl (hb hby at_80) k) ?_
    show own_G p.tables e below s _ _ _ (T51.setTop (mkF m 81 #[.val (.int p1), .val (.long q1), .second, .val (.int (1 : Int32)), .val (.int c0), .val (.int c1), .val (.int c2), .val (.int c3), .val (.int c4), .val (.int c5), .val (.int c6), .val (.int c7), .val (.ref b51), .unset] [(.int (0 : Int32)), (.ref b51)]))
    refine own_go (fun t k => XS.iload X51.here hx rfl (hb hby at_81) rfl k) ?_
    show own_G p.tables e below s _ _ _ (T51.setTop (mkF m 83 #[.val (.int p1), .val (.long q1), .second, .val (.int (1 : Int32)), .val (.int c0), .val (.int c1), .val (.int c2), .val (.int c3), .val (.int c4), .val (.int c5), .val (.int c6), .val (.int c7), .val (.ref b51), .unset] [(.int c0), (.int (0 : Int32)), (.ref b51)]))
    obtain ⟨cl55, Ar55, q55, S55, NN55, HH55, GG55⟩ := v54
    have hin55 : ¬ ((0 : Int32) < 0 ∨ cl55.slots.size ≤ ((0 : Int32)).toNatClampNeg) := inb_of S55 ⟨by decide, by decide⟩
    obtain ⟨T55, h55, X55, e55, W55, st55⟩ := stB X51 hx hZ e51 Ar55 (j := (0 : Int32)) hin55 (g := (mkF m 83 #[.val (.int p1), .val (.long q1), .second, .val (.int (1 : Int32)), .val (.int c0), .val (.int c1), .val (.int c2), .val (.int c3), .val (.int c4), .val (.int c5), .val (.int c6), .val (.int c7), .val (.ref b51), .unset] [(.int c0), (.int (0 : Int32)), (.ref b51)])) rfl rfl (hb hby at_83)
    refine own_go st55 ?_
    have v56 : Arv Z h55 b51 k51 .byte (1 : Int32) [(.int (nar .byte c0))] (.int (0 : Int32)) := Arv.set Ar55 q55 S55 NN55 HH55 GG55 (fits_nar_byte _) W55 0 rfl (Nat.le_of_ble_eq_true rfl)
    rw [hb0] at v56
    have z57 := Nat.le_trans z53 (Keep.of_wr W55).1
    have N55 := Fr.snoc X55 N0 g52
    show own_G p.tables e below s _ _ _ (T55.setTop (mkF m 84 #[.val (.int p1), .val (.long q1), .second, .val (.int (1 : Int32)), .val (.int c0), .val (.int c1), .val (.int c2), .val (.int c3), .val (.int c4), .val (.int c5), .val (.int c6), .val (.int c7), .val (.ref b51), .unset] []))
    refine own_go (fun t k => XS.iloadN X55.here hx rfl (hb hby at_84) rfl k) ?_
    show own_G p.tables e below s _ _ _ (T55.setTop (mkF m 85 #[.val (.int p1), .val (.long q1), .second, .val (.int (1 : Int32)), .val (.int c0), .val (.int c1), .val (.int c2), .val (.int c3), .val (.int c4), .val (.int c5), .val (.int c6), .val (.int c7), .val (.ref b51), .unset] [(.int (1 : Int32))]))
    refine own_go (fun t k => XS.iconst X55.here hx rfl (hb hby at_85) k) ?_
    show own_G p.tables e below s _ _ _ (T55.setTop (mkF m 86 #[.val (.int p1), .val (.long q1), .second, .val (.int (1 : Int32)), .val (.int c0), .val (.int c1), .val (.int c2), .val (.int c3), .val (.int c4), .val (.int c5), .val (.int c6), .val (.int c7), .val (.ref b51), .unset] [(.int (1 : Int32)), (.int (1 : Int32))]))
    refine own_go (fun t k => XS.icmpYes X55.here hx rfl (pc0 := 86) (pc' := 95) rfl (hb hby at_86) rfl (by decide) (by decide) (by decide) k) ?_
    show own_G p.tables e below s _ _ _ (T55.setTop (mkF m 95 #[.val (.int p1), .val (.long q1), .second, .val (.int (1 : Int32)), .val (.int c0), .val (.int c1), .val (.int c2), .val (.int c3), .val (.int c4), .val (.int c5), .val (.int c6), .val (.int c7), .val (.ref b51), .unset] []))
    refine own_go (fun t k => XS.iloadN X55.here hx rfl (hb hby at_95) rfl k) ?_
    show own_G p.tables e below s _ _ _ (T55.setTop (mkF m 96 #[.val (.int p1), .val (.long q1), .second, .val (.int (1 : Int32)), .val (.int c0), .val (.int c1), .val (.int c2), .val (.int c3), .val (.int c4), .val (.int c5), .val (.int c6), .val (.int c7), .val (.ref b51), .unset] [(.int (1 : Int32))]))
    refine own_go (fun t k => XS.iconst X55.here hx rfl (hb hby at_96) k) ?_
    show own_G p.tables e below s _ _ _ (T55.setTop (mkF m 97 #[.val (.int p1), .val (.long q1), .second, .val (.int (1 : Int32)), .val (.int c0), .val (.int c1), .val (.int c2), .val (.int c3), .val (.int c4), .val (.int c5), .val (.int c6), .val (.int c7), .val (.ref b51), .unset] [(.int (2 : Int32)), (.int (1 : Int32))]))
    refine own_go (fun t k => XS.icmpYes X55.here hx rfl (pc0 := 97) (pc' := 106) rfl (hb hby at_97) rfl (by decide) (by decide) (by decide) k) ?_
    show own_G p.tables e below s _ _ _ (T55.setTop (mkF m 106 #[.val (.int p1), .val (.long q1), .second, .val (.int (1 : Int32)), .val (.int c0), .val (.int c1), .val (.int c2), .val (.int c3), .val (.int c4), .val (.int c5), .val (.int c6), .val (.int c7), .val (.ref b51), .unset] []))
    refine own_go (fun t k => XS.iloadN X55.here hx rfl (hb hby at_106) rfl k) ?_
    show own_G p.tables e below s _ _ _ (T55.setTop (mkF m 107 #[.val (.int p1), .val (.long q1), .second, .val (.int (1 : Int32)), .val (.int c0), .val (.int c1), .val (.int c2), .val (.int c3), .val (.int c4), .val (.int c5), .val (.int c6), .val (.int c7), .val (.ref b51), .unset] [(.int (1 : Int32))]))
    refine own_go (fun t k => XS.iconst X55.here hx rfl (hb hby at_107) k) ?_
    show own_G p.tables e below s _ _ _ (T55.setTop (mkF m 108 #[.val (.int p1), .val (.long q1), .second, .val (.int (1 : Int32)), .val (.int c0), .val (.int c1), .val (.int c2), .val (.int c3), .val (.int c4), .val (.int c5), .val (.int c6), .val (.int c7), .val (.ref b51), .unset] [(.int (3 : Int32)), (.int (1 : Int32))]))
    refine own_go (fun t k => XS.icmpYes X55.here hx rfl (pc0 := 108) (pc' := 117) rfl (hb hby at_108) rfl (by decide) (by decide) (by decide) k) ?_
    show own_G p.tables e below s _ _ _ (T55.setTop (mkF m 117 #[.val (.int p1), .val (.long q1), .second, .val (.int (1 : Int32)), .val (.int c0), .val (.int c1), .val (.int c2), .val (.int c3), .val (.int c4), .val (.int c5), .val (.int c6), .val (.int c7), .val (.ref b51), .unset] []))
    refine own_go (fun t k => XS.iloadN X55.here hx rfl (hb hby at_117) rfl k) ?_
    show own_G p.tables e below s _ _ _ (T55.setTop (mkF m 118 #[.val (.int p1), .val (.long q1), .second, .val (.int (1 : Int32)), .val (.int c0), .val (.int c1), .val (.int c2), .val (.int c3), .val (.int c4), .val (.int c5), .val (.int c6), .val (.int c7), .val (.ref b51), .unset] [(.int (1 : Int32))]))
    refine own_go (fun t k => XS.iconst X55.here hx rfl (hb hby at_118) k) ?_
    show own_G p.tables e below s _ _ _ (T55.setTop (mkF m 119 #[.val (.int p1), .val (.long q1), .second, .val (.int (1 : Int32)), .val (.int c0), .val (.int c1), .val (.int c2), .val (.int c3), .val (.int c4), .val (.int c5), .val (.int c6), .val (.int c7), .val (.ref b51), .unset] [(.int (4 : Int32)), (.int (1 : Int32))]))
    refine own_go (fun t k => XS.icmpYes X55.here hx rfl (pc0 := 119) (pc' := 128) rfl (hb hby at_119) rfl (by decide) (by decide) (by decide) k) ?_
    show own_G p.tables e below s _ _ _ (T55.setTop (mkF m 128 #[.val (.int p1), .val (.long q1), .second, .val (.int (1 : Int32)), .val (.int c0), .val (.int c1), .val (.int c2), .val (.int c3), .val (.int c4), .val (.int c5), .val (.int c6), .val (.int c7), .val (.ref b51), .unset] []))
    refine own_go (fun t k => XS.iloadN X55.here hx rfl (hb hby at_128) rfl k) ?_
    show own_G p.tables e below s _ _ _ (T55.setTop (mkF m 129 #[.val (.int p1), .val (.long q1), .second, .val (.int (1 : Int32)), .val (.int c0), .val (.int c1), .val (.int c2), .val (.int c3), .val (.int c4), .val (.int c5), .val (.int c6), .val (.int c7), .val (.ref b51), .unset] [(.int (1 : Int32))]))
    refine own_go (fun t k => XS.iconst X55.here hx rfl (hb hby at_129) k) ?_
    show own_G p.tables e below s _ _ _ (T55.setTop (mkF m 130 #[.val (.int p1), .val (.long q1), .second, .val (.int (1 : Int32)), .val (.int c0), .val (.int c1), .val (.int c2), .val (.int c3), .val (.int c4), .val (.int c5), .val (.int c6), .val (.int c7), .val (.ref b51), .unset] [(.int (5 : Int32)), (.int (1 : Int32))]))
    refine own_go (fun t k => XS.icmpYes X55.here hx rfl (pc0 := 130) (pc' := 139) rfl (hb hby at_130) rfl (by decide) (by decide) (by decide) k) ?_
    show own_G p.tables e below s _ _ _ (T55.setTop (mkF m 139 #[.val (.int p1), .val (.long q1), .second, .val (.int (1 : Int32)), .val (.int c0), .val (.int c1), .val (.int c2), .val (.int c3), .val (.int c4), .val (.int c5), .val (.int c6), .val (.int c7), .val (.ref b51), .unset] []))
    refine own_go (fun t k => XS.iloadN X55.here hx rfl (hb hby at_139) rfl k) ?_
    show own_G p.tables e below s _ _ _ (T55.setTop (mkF m 140 #[.val (.int p1), .val (.long q1), .second, .val (.int (1 : Int32)), .val (.int c0), .val (.int c1), .val (.int c2), .val (.int c3), .val (.int c4), .val (.int c5), .val (.int c6), .val (.int c7), .val (.ref b51), .unset] [(.int (1 : Int32))]))
    refine own_go (fun t k => XS.bipush X55.here hx rfl (hb hby at_140) k) ?_
    show own_G p.tables e below s _ _ _ (T55.setTop (mkF m 142 #[.val (.int p1), .val (.long q1), .second, .val (.int (1 : Int32)), .val (.int c0), .val (.int c1), .val (.int c2), .val (.int c3), .val (.int c4), .val (.int c5), .val (.int c6), .val (.int c7), .val (.ref b51), .unset] [(.int (6 : Int32)), (.int (1 : Int32))]))
    refine own_go (fun t k => XS.icmpYes X55.here hx rfl (pc0 := 142) (pc' := 152) rfl (hb hby at_142) rfl (by decide) (by decide) (by decide) k) ?_
    show own_G p.tables e below s _ _ _ (T55.setTop (mkF m 152 #[.val (.int p1), .val (.long q1), .second, .val (.int (1 : Int32)), .val (.int c0), .val (.int c1), .val (.int c2), .val (.int c3), .val (.int c4), .val (.int c5), .val (.int c6), .val (.int c7), .val (.ref b51), .unset] []))
    refine own_go (fun t k => XS.iloadN X55.here hx rfl (hb hby at_152) rfl k) ?_
    show own_G p.tables e below s _ _ _ (T55.setTop (mkF m 153 #[.val (.int p1), .val (.long q1), .second, .val (.int (1 : Int32)), .val (.int c0), .val (.int c1), .val (.int c2), .val (.int c3), .val (.int c4), .val (.int c5), .val (.int c6), .val (.int c7), .val (.ref b51), .unset] [(.int (1 : Int32))]))
    refine own_go (fun t k => XS.bipush X55.here hx rfl (hb hby at_153) k) ?_
    show own_G p.tables e below s _ _ _ (T55.setTop (mkF m 155 #[.val (.int p1), .val (.long q1), .second, .val (.int (1 : Int32)), .val (.int c0), .val (.int c1), .val (.int c2), .val (.int c3), .val (.int c4), .val (.int c5), .val (.int c6), .val (.int c7), .val (.ref b51), .unset] [(.int (7 : Int32)), (.int (1 : Int32))]))
    refine own_go (fun t k => XS.icmpYes X55.here hx rfl (pc0 := 155) (pc' := 165) rfl (hb hby at_155) rfl (by decide) (by decide) (by decide) k) ?_
    show own_G p.tables e below s _ _ _ (T55.setTop (mkF m 165 #[.val (.int p1), .val (.long q1), .second, .val (.int (1 : Int32)), .val (.int c0), .val (.int c1), .val (.int c2), .val (.int c3), .val (.int c4), .val (.int c5), .val (.int c6), .val (.int c7), .val (.ref b51), .unset] []))
    refine own_go (fun t k => XS.iloadN X55.here hx rfl (hb hby at_165) rfl k) ?_
    show own_G p.tables e below s _ _ _ (T55.setTop (mkF m 166 #[.val (.int p1), .val (.long q1), .second, .val (.int (1 : Int32)), .val (.int c0), .val (.int c1), .val (.int c2), .val (.int c3), .val (.int c4), .val (.int c5), .val (.int c6), .val (.int c7), .val (.ref b51), .unset] [(.int (1 : Int32))]))
    refine own_go (fun t k => XS.ifNo X55.here hx rfl (hb hby at_166) rfl (by decide) k) ?_
    show own_G p.tables e below s _ _ _ (T55.setTop (mkF m 169 #[.val (.int p1), .val (.long q1), .second, .val (.int (1 : Int32)), .val (.int c0), .val (.int c1), .val (.int c2), .val (.int c3), .val (.int c4), .val (.int c5), .val (.int c6), .val (.int c7), .val (.ref b51), .unset] []))
    refine own_go (fun t k => XS.iload X55.here hx rfl (hb hby at_169) rfl k) ?_
    show own_G p.tables e below s _ _ _ (T55.setTop (mkF m 171 #[.val (.int p1), .val (.long q1), .second, .val (.int (1 : Int32)), .val (.int c0), .val (.int c1), .val (.int c2), .val (.int c3), .val (.int c4), .val (.int c5), .val (.int c6), .val (.int c7), .val (.ref b51), .unset] [(.int c0)]))
    obtain ⟨ex, hex⟩ : ∃ z, (if c0 < (0 : Int32) then (0 : Int32) else 1) = z := ⟨_, rfl⟩
    refine own_go (A := (T55.setTop (mkF m 251 #[.val (.int p1), .val (.long q1), .second, .val (.int (1 : Int32)), .val (.int c0), .val (.int c1), .val (.int c2), .val (.int c3), .val (.int c4), .val (.int c5), .val (.int c6), .val (.int c7), .val (.ref b51), .unset] [(.int ex)]))) (fun t k => ?_) ?_
    · show Steps p.tables e below (T55.setTop (mkF m 171 #[.val (.int p1), .val (.long q1), .second, .val (.int (1 : Int32)), .val (.int c0), .val (.int c1), .val (.int c2), .val (.int c3), .val (.int c4), .val (.int c5), .val (.int c6), .val (.int c7), .val (.ref b51), .unset] [(.int c0)])) _
      by_cases hn0 : c0 < (0 : Int32)
      · refine XS.ifYes X55.here hx rfl (pc0 := 171) (pc' := 250) rfl (hb hby at_171) rfl (Jvm.Free.XT.i0_lt_t hn0) (by decide) (by decide) ?_
        show Steps p.tables e below (T55.setTop (mkF m 250 #[.val (.int p1), .val (.long q1), .second, .val (.int (1 : Int32)), .val (.int c0), .val (.int c1), .val (.int c2), .val (.int c3), .val (.int c4), .val (.int c5), .val (.int c6), .val (.int c7), .val (.ref b51), .unset] [])) _
        refine XS.iconst X55.here hx rfl (hb hby at_250) ?_
        show Steps p.tables e below (T55.setTop (mkF m 251 #[.val (.int p1), .val (.long q1), .second, .val (.int (1 : Int32)), .val (.int c0), .val (.int c1), .val (.int c2), .val (.int c3), .val (.int c4), .val (.int c5), .val (.int c6), .val (.int c7), .val (.ref b51), .unset] [(.int (0 : Int32))])) _
        rw [← hex, if_pos (hn0)] at k
        exact k
      · refine XS.ifNo X55.here hx rfl (hb hby at_171) rfl (Jvm.Free.XT.i0_lt_f hn0) ?_
        show Steps p.tables e below (T55.setTop (mkF m 174 #[.val (.int p1), .val (.long q1), .second, .val (.int (1 : Int32)), .val (.int c0), .val (.int c1), .val (.int c2), .val (.int c3), .val (.int c4), .val (.int c5), .val (.int c6), .val (.int c7), .val (.ref b51), .unset] [])) _
        refine XS.iloadN X55.here hx rfl (hb hby at_174) rfl ?_
        show Steps p.tables e below (T55.setTop (mkF m 175 #[.val (.int p1), .val (.long q1), .second, .val (.int (1 : Int32)), .val (.int c0), .val (.int c1), .val (.int c2), .val (.int c3), .val (.int c4), .val (.int c5), .val (.int c6), .val (.int c7), .val (.ref b51), .unset] [(.int (1 : Int32))])) _
        refine XS.iconst X55.here hx rfl (hb hby at_175) ?_
        show Steps p.tables e below (T55.setTop (mkF m 176 #[.val (.int p1), .val (.long q1), .second, .val (.int (1 : Int32)), .val (.int c0), .val (.int c1), .val (.int c2), .val (.int c3), .val (.int c4), .val (.int c5), .val (.int c6), .val (.int c7), .val (.ref b51), .unset] [(.int (1 : Int32)), (.int (1 : Int32))])) _
        refine XS.icmpYes X55.here hx rfl (pc0 := 176) (pc' := 184) rfl (hb hby at_176) rfl (by decide) (by decide) (by decide) ?_
        show Steps p.tables e below (T55.setTop (mkF m 184 #[.val (.int p1), .val (.long q1), .second, .val (.int (1 : Int32)), .val (.int c0), .val (.int c1), .val (.int c2), .val (.int c3), .val (.int c4), .val (.int c5), .val (.int c6), .val (.int c7), .val (.ref b51), .unset] [])) _
        refine XS.iloadN X55.here hx rfl (hb hby at_184) rfl ?_
        show Steps p.tables e below (T55.setTop (mkF m 185 #[.val (.int p1), .val (.long q1), .second, .val (.int (1 : Int32)), .val (.int c0), .val (.int c1), .val (.int c2), .val (.int c3), .val (.int c4), .val (.int c5), .val (.int c6), .val (.int c7), .val (.ref b51), .unset] [(.int (1 : Int32))])) _
        refine XS.iconst X55.here hx rfl (hb hby at_185) ?_
        show Steps p.tables e below (T55.setTop (mkF m 186 #[.val (.int p1), .val (.long q1), .second, .val (.int (1 : Int32)), .val (.int c0), .val (.int c1), .val (.int c2), .val (.int c3), .val (.int c4), .val (.int c5), .val (.int c6), .val (.int c7), .val (.ref b51), .unset] [(.int (2 : Int32)), (.int (1 : Int32))])) _
        refine XS.icmpYes X55.here hx rfl (pc0 := 186) (pc' := 194) rfl (hb hby at_186) rfl (by decide) (by decide) (by decide) ?_
        show Steps p.tables e below (T55.setTop (mkF m 194 #[.val (.int p1), .val (.long q1), .second, .val (.int (1 : Int32)), .val (.int c0), .val (.int c1), .val (.int c2), .val (.int c3), .val (.int c4), .val (.int c5), .val (.int c6), .val (.int c7), .val (.ref b51), .unset] [])) _
        refine XS.iloadN X55.here hx rfl (hb hby at_194) rfl ?_
        show Steps p.tables e below (T55.setTop (mkF m 195 #[.val (.int p1), .val (.long q1), .second, .val (.int (1 : Int32)), .val (.int c0), .val (.int c1), .val (.int c2), .val (.int c3), .val (.int c4), .val (.int c5), .val (.int c6), .val (.int c7), .val (.ref b51), .unset] [(.int (1 : Int32))])) _
        refine XS.iconst X55.here hx rfl (hb hby at_195) ?_
        show Steps p.tables e below (T55.setTop (mkF m 196 #[.val (.int p1), .val (.long q1), .second, .val (.int (1 : Int32)), .val (.int c0), .val (.int c1), .val (.int c2), .val (.int c3), .val (.int c4), .val (.int c5), .val (.int c6), .val (.int c7), .val (.ref b51), .unset] [(.int (3 : Int32)), (.int (1 : Int32))])) _
        refine XS.icmpYes X55.here hx rfl (pc0 := 196) (pc' := 204) rfl (hb hby at_196) rfl (by decide) (by decide) (by decide) ?_
        show Steps p.tables e below (T55.setTop (mkF m 204 #[.val (.int p1), .val (.long q1), .second, .val (.int (1 : Int32)), .val (.int c0), .val (.int c1), .val (.int c2), .val (.int c3), .val (.int c4), .val (.int c5), .val (.int c6), .val (.int c7), .val (.ref b51), .unset] [])) _
        refine XS.iloadN X55.here hx rfl (hb hby at_204) rfl ?_
        show Steps p.tables e below (T55.setTop (mkF m 205 #[.val (.int p1), .val (.long q1), .second, .val (.int (1 : Int32)), .val (.int c0), .val (.int c1), .val (.int c2), .val (.int c3), .val (.int c4), .val (.int c5), .val (.int c6), .val (.int c7), .val (.ref b51), .unset] [(.int (1 : Int32))])) _
        refine XS.iconst X55.here hx rfl (hb hby at_205) ?_
        show Steps p.tables e below (T55.setTop (mkF m 206 #[.val (.int p1), .val (.long q1), .second, .val (.int (1 : Int32)), .val (.int c0), .val (.int c1), .val (.int c2), .val (.int c3), .val (.int c4), .val (.int c5), .val (.int c6), .val (.int c7), .val (.ref b51), .unset] [(.int (4 : Int32)), (.int (1 : Int32))])) _
        refine XS.icmpYes X55.here hx rfl (pc0 := 206) (pc' := 214) rfl (hb hby at_206) rfl (by decide) (by decide) (by decide) ?_
        show Steps p.tables e below (T55.setTop (mkF m 214 #[.val (.int p1), .val (.long q1), .second, .val (.int (1 : Int32)), .val (.int c0), .val (.int c1), .val (.int c2), .val (.int c3), .val (.int c4), .val (.int c5), .val (.int c6), .val (.int c7), .val (.ref b51), .unset] [])) _
        refine XS.iloadN X55.here hx rfl (hb hby at_214) rfl ?_
        show Steps p.tables e below (T55.setTop (mkF m 215 #[.val (.int p1), .val (.long q1), .second, .val (.int (1 : Int32)), .val (.int c0), .val (.int c1), .val (.int c2), .val (.int c3), .val (.int c4), .val (.int c5), .val (.int c6), .val (.int c7), .val (.ref b51), .unset] [(.int (1 : Int32))])) _
        refine XS.iconst X55.here hx rfl (hb hby at_215) ?_
        show Steps p.tables e below (T55.setTop (mkF m 216 #[.val (.int p1), .val (.long q1), .second, .val (.int (1 : Int32)), .val (.int c0), .val (.int c1), .val (.int c2), .val (.int c3), .val (.int c4), .val (.int c5), .val (.int c6), .val (.int c7), .val (.ref b51), .unset] [(.int (5 : Int32)), (.int (1 : Int32))])) _
        refine XS.icmpYes X55.here hx rfl (pc0 := 216) (pc' := 224) rfl (hb hby at_216) rfl (by decide) (by decide) (by decide) ?_
        show Steps p.tables e below (T55.setTop (mkF m 224 #[.val (.int p1), .val (.long q1), .second, .val (.int (1 : Int32)), .val (.int c0), .val (.int c1), .val (.int c2), .val (.int c3), .val (.int c4), .val (.int c5), .val (.int c6), .val (.int c7), .val (.ref b51), .unset] [])) _
        refine XS.iloadN X55.here hx rfl (hb hby at_224) rfl ?_
        show Steps p.tables e below (T55.setTop (mkF m 225 #[.val (.int p1), .val (.long q1), .second, .val (.int (1 : Int32)), .val (.int c0), .val (.int c1), .val (.int c2), .val (.int c3), .val (.int c4), .val (.int c5), .val (.int c6), .val (.int c7), .val (.ref b51), .unset] [(.int (1 : Int32))])) _
        refine XS.bipush X55.here hx rfl (hb hby at_225) ?_
        show Steps p.tables e below (T55.setTop (mkF m 227 #[.val (.int p1), .val (.long q1), .second, .val (.int (1 : Int32)), .val (.int c0), .val (.int c1), .val (.int c2), .val (.int c3), .val (.int c4), .val (.int c5), .val (.int c6), .val (.int c7), .val (.ref b51), .unset] [(.int (6 : Int32)), (.int (1 : Int32))])) _
        refine XS.icmpYes X55.here hx rfl (pc0 := 227) (pc' := 235) rfl (hb hby at_227) rfl (by decide) (by decide) (by decide) ?_
        show Steps p.tables e below (T55.setTop (mkF m 235 #[.val (.int p1), .val (.long q1), .second, .val (.int (1 : Int32)), .val (.int c0), .val (.int c1), .val (.int c2), .val (.int c3), .val (.int c4), .val (.int c5), .val (.int c6), .val (.int c7), .val (.ref b51), .unset] [])) _
        refine XS.iloadN X55.here hx rfl (hb hby at_235) rfl ?_
        show Steps p.tables e below (T55.setTop (mkF m 236 #[.val (.int p1), .val (.long q1), .second, .val (.int (1 : Int32)), .val (.int c0), .val (.int c1), .val (.int c2), .val (.int c3), .val (.int c4), .val (.int c5), .val (.int c6), .val (.int c7), .val (.ref b51), .unset] [(.int (1 : Int32))])) _
        refine XS.bipush X55.here hx rfl (hb hby at_236) ?_
        show Steps p.tables e below (T55.setTop (mkF m 238 #[.val (.int p1), .val (.long q1), .second, .val (.int (1 : Int32)), .val (.int c0), .val (.int c1), .val (.int c2), .val (.int c3), .val (.int c4), .val (.int c5), .val (.int c6), .val (.int c7), .val (.ref b51), .unset] [(.int (7 : Int32)), (.int (1 : Int32))])) _
        refine XS.icmpYes X55.here hx rfl (pc0 := 238) (pc' := 246) rfl (hb hby at_238) rfl (by decide) (by decide) (by decide) ?_
        show Steps p.tables e below (T55.setTop (mkF m 246 #[.val (.int p1), .val (.long q1), .second, .val (.int (1 : Int32)), .val (.int c0), .val (.int c1), .val (.int c2), .val (.int c3), .val (.int c4), .val (.int c5), .val (.int c6), .val (.int c7), .val (.ref b51), .unset] [])) _
        refine XS.iconst X55.here hx rfl (hb hby at_246) ?_
        show Steps p.tables e below (T55.setTop (mkF m 247 #[.val (.int p1), .val (.long q1), .second, .val (.int (1 : Int32)), .val (.int c0), .val (.int c1), .val (.int c2), .val (.int c3), .val (.int c4), .val (.int c5), .val (.int c6), .val (.int c7), .val (.ref b51), .unset] [(.int (1 : Int32))])) _
        refine XS.goto X55.here hx rfl (pc0 := 247) (pc' := 251) rfl (hb hby at_247) (by decide) (by decide) ?_
        show Steps p.tables e below (T55.setTop (mkF m 251 #[.val (.int p1), .val (.long q1), .second, .val (.int (1 : Int32)), .val (.int c0), .val (.int c1), .val (.int c2), .val (.int c3), .val (.int c4), .val (.int c5), .val (.int c6), .val (.int c7), .val (.ref b51), .unset] [(.int (1 : Int32))])) _
        rw [← hex, if_neg hn0] at k
        exact k
    show own_G p.tables e below s _ _ _ (T55.setTop (mkF m 251 #[.val (.int p1), .val (.long q1), .second, .val (.int (1 : Int32)), .val (.int c0), .val (.int c1), .val (.int c2), .val (.int c3), .val (.int c4), .val (.int c5), .val (.int c6), .val (.int c7), .val (.ref b51), .unset] [(.int ex)]))
    refine own_go (fun t k => XS.istore X55.here hx rfl (hb hby at_251) rfl (l' := #[.val (.int p1), .val (.long q1), .second, .val (.int (1 : Int32)), .val (.int c0), .val (.int c1), .val (.int c2), .val (.int c3), .val (.int c4), .val (.int c5), .val (.int c6), .val (.int c7), .val (.ref b51), .val (.int ex)]) rfl k) ?_
    show own_G p.tables e below s _ _ _ (T55.setTop (mkF m 253 #[.val (.int p1), .val (.long q1), .second, .val (.int (1 : Int32)), .val (.int c0), .val (.int c1), .val (.int c2), .val (.int c3), .val (.int c4), .val (.int c5), .val (.int c6), .val (.int c7), .val (.ref b51), .val (.int ex)] []))
    refine own_go (fun t k => XS.aload X55.here hx rfl (hb hby at_253) rfl rfl k) ?_
    show own_G p.tables e below s _ _ _ (T55.setTop (mkF m 255 #[.val (.int p1), .val (.long q1), .second, .val (.int (1 : Int32)), .val (.int c0), .val (.int c1), .val (.int c2), .val (.int c3), .val (.int c4), .val (.int c5), .val (.int c6), .val (.int c7), .val (.ref b51), .val (.int ex)] [(.ref b51)]))
    obtain ⟨_, _, ⟨T58, L58, k58, n58⟩, -, X58, ⟨Lc58, hQ58, l58, y58, z58⟩, st58⟩ := Jvm.LawKit.callS X55 hx (y := (⟨"com/example/cartulary/cartulary/model/Syntax", "isAscii", "([B)Z"⟩ : MethodName)) hown (mvT hZ (hw _ (List.mem_of_getElem? (i := 2) rfl))) (mvT hZ (hw _ (List.mem_of_getElem? (i := 3) rfl))) (mvT hZ (hw _ (List.mem_of_getElem? (i := 4) rfl))) (mvT hZ (hw _ (List.mem_of_getElem? (i := 5) rfl))) (by decide) (backOf (W := 0) (rm1_1 l Z a0 hw [] b51 k51 c0 ex h55 n0 z57 v56 hex) hZ (hw _ (List.mem_of_getElem? (i := 5) rfl)) (hw _ (List.mem_of_getElem? (i := 4) rfl)) (by decide) (by decide)) (g := (mkF m 255 #[.val (.int p1), .val (.long q1), .second, .val (.int (1 : Int32)), .val (.int c0), .val (.int c1), .val (.int c2), .val (.int c3), .val (.int c4), .val (.int c5), .val (.int c6), .val (.int c7), .val (.ref b51), .val (.int ex)] [(.ref b51)])) rfl (by rw [hml]; rfl) (argsL := [(.ref b51)]) (rest := []) (lenOf pd___B_Z rfl) rfl (by show 2 * 0 + _ ≤ _; exact Nat.le_of_eq rfl) (hb hby at_255) (fun _ _ => ⟨rfl, e55, (by decide : 1 + 0 ≤ _), (by decide : 1 + 0 ≤ _)⟩)
    dsimp only [Pt.U, Pt.locs, Pt.cells, Pt.slots] at X58 l58 y58 z58 st58 hQ58
    subst l58 y58 z58
    obtain ⟨rfl, N58q, hh58⟩ := hQ58
    have N58 := Fr.app N55 N58q
    refine own_go st58 ?_
    show own_G p.tables e below s _ _ _ (T58.setTop (mkF m 258 #[.val (.int p1), .val (.long q1), .second, .val (.int (1 : Int32)), .val (.int c0), .val (.int c1), .val (.int c2), .val (.int c3), .val (.int c4), .val (.int c5), .val (.int c6), .val (.int c7), .val (.ref b51), .val (.int ex)] [(.int ex)]))
    refine own_go (fun t k => XS.iload X58.here hx rfl (hb hby at_258) rfl k) ?_
    show own_G p.tables e below s _ _ _ (T58.setTop (mkF m 260 #[.val (.int p1), .val (.long q1), .second, .val (.int (1 : Int32)), .val (.int c0), .val (.int c1), .val (.int c2), .val (.int c3), .val (.int c4), .val (.int c5), .val (.int c6), .val (.int c7), .val (.ref b51), .val (.int ex)] [(.int ex), (.int ex)]))
    refine own_go (fun t k => XS.icmpNo X58.here hx rfl (hb hby at_260) rfl (Jvm.Free.XT.ii_ne_f rfl) k) ?_
    show own_G p.tables e below s _ _ _ (T58.setTop (mkF m 263 #[.val (.int p1), .val (.long q1), .second, .val (.int (1 : Int32)), .val (.int c0), .val (.int c1), .val (.int c2), .val (.int c3), .val (.int c4), .val (.int c5), .val (.int c6), .val (.int c7), .val (.ref b51), .val (.int ex)] []))
    refine own_go (fun t k => XS.iconst X58.here hx rfl (hb hby at_263) k) ?_
    show own_G p.tables e below s _ _ _ (T58.setTop (mkF m 264 #[.val (.int p1), .val (.long q1), .second, .val (.int (1 : Int32)), .val (.int c0), .val (.int c1), .val (.int c2), .val (.int c3), .val (.int c4), .val (.int c5), .val (.int c6), .val (.int c7), .val (.ref b51), .val (.int ex)] [(.int (1 : Int32))]))
    refine own_go (fun t k => XS.goto X58.here hx rfl (pc0 := 264) (pc' := 268) rfl (hb hby at_264) (by decide) (by decide) k) ?_
    show own_G p.tables e below s _ _ _ (T58.setTop (mkF m 268 #[.val (.int p1), .val (.long q1), .second, .val (.int (1 : Int32)), .val (.int c0), .val (.int c1), .val (.int c2), .val (.int c3), .val (.int c4), .val (.int c5), .val (.int c6), .val (.int c7), .val (.ref b51), .val (.int ex)] [(.int (1 : Int32))]))
    exact own_retN X58 hx hlk (t := .boolean) (z' := (1 : Int32)) Bd.returns (by simp) (hb hby at_268) (rfl) (by rw [hh58]; exact ⟨rfl, N58⟩) (by decide) (by decide)
  · show own_G p.tables e below s _ _ _ (s₁.setTop (mkF m 69 #[.val (.int p1), .val (.long q1), .second, .val (.int (2 : Int32)), .val (.int c0), .val (.int c1), .val (.int c2), .val (.int c3), .val (.int c4), .val (.int c5), .val (.int c6), .val (.int c7), .unset, .unset] []))
    refine own_go (fun t k => XS.iloadN X0.here hx rfl (hb hby at_69) rfl k) ?_
    show own_G p.tables e below s _ _ _ (s₁.setTop (mkF m 70 #[.val (.int p1), .val (.long q1), .second, .val (.int (2 : Int32)), .val (.int c0), .val (.int c1), .val (.int c2), .val (.int c3), .val (.int c4), .val (.int c5), .val (.int c6), .val (.int c7), .unset, .unset] [(.int (2 : Int32))]))
    obtain ⟨T59, h59, k59, X59, e59, E59, A59, st59⟩ := newP X0 hx hZ (hw _ (List.mem_of_getElem? (i := 1) rfl)) e0 (g := (mkF m 70 #[.val (.int p1), .val (.long q1), .second, .val (.int (2 : Int32)), .val (.int c0), .val (.int c1), .val (.int c2), .val (.int c3), .val (.int c4), .val (.int c5), .val (.int c6), .val (.int c7), .unset, .unset] [(.int (2 : Int32))])) rfl (hb hby at_70) rfl (by decide) (cap := 2) (by decide) (by decide) (by decide) (by decide)
    obtain ⟨b59, g59⟩ : ∃ z, z = h0.size := ⟨_, rfl⟩
    rw [← g59] at A59 st59
    refine own_go st59 ?_
    have g60 := Nat.le_trans Z0 (Nat.le_of_eq g59.symm)
    have z61 := Nat.le_trans Z0 E59.1
    have v62 : Arv Z h59 b59 k59 .byte (2 : Int32) [(.int (0 : Int32)), (.int (0 : Int32))] (.int (0 : Int32)) := (Arv.new A59 (by decide)).pad (pad_rep [] (.int (0 : Int32)) 2)
    show own_G p.tables e below s _ _ _ (T59.setTop (mkF m 72 #[.val (.int p1), .val (.long q1), .second, .val (.int (2 : Int32)), .val (.int c0), .val (.int c1), .val (.int c2), .val (.int c3), .val (.int c4), .val (.int c5), .val (.int c6), .val (.int c7), .unset, .unset] [(.ref b59)]))
    refine own_go (fun t k => XS.astore X59.here hx rfl (hb hby at_72) rfl rfl (l' := #[.val (.int p1), .val (.long q1), .second, .val (.int (2 : Int32)), .val (.int c0), .val (.int c1), .val (.int c2), .val (.int c3), .val (.int c4), .val (.int c5), .val (.int c6), .val (.int c7), .val (.ref b59), .unset]) rfl k) ?_
    show own_G p.tables e below s _ _ _ (T59.setTop (mkF m 74 #[.val (.int p1), .val (.long q1), .second, .val (.int (2 : Int32)), .val (.int c0), .val (.int c1), .val (.int c2), .val (.int c3), .val (.int c4), .val (.int c5), .val (.int c6), .val (.int c7), .val (.ref b59), .unset] []))
    refine own_go (fun t k => XS.iloadN X59.here hx rfl (hb hby at_74) rfl k) ?_
    show own_G p.tables e below s _ _ _ (T59.setTop (mkF m 75 #[.val (.int p1), .val (.long q1), .second, .val (.int (2 : Int32)), .val (.int c0), .val (.int c1), .val (.int c2), .val (.int c3), .val (.int c4), .val (.int c5), .val (.int c6), .val (.int c7), .val (.ref b59), .unset] [(.int (2 : Int32))]))
    refine own_go (fun t k => XS.ifNo X59.here hx rfl (hb hby at_75) rfl (by decide) k) ?_
    show own_G p.tables e below s _ _ _ (T59.setTop (mkF m 78 #[.val (.int p1), .val (.long q1), .second, .val (.int (2 : Int32)), .val (.int c0), .val (.int c1), .val (.int c2), .val (.int c3), .val (.int c4), .val (.int c5), .val (.int c6), .val (.int c7), .val (.ref b59), .unset] []))
    refine own_go (fun t k => XS.aload X59.here hx rfl (hb hby at_78) rfl rfl k) ?_
    show own_G p.tables e below s _ _ _ (T59.setTop (mkF m 80 #[.val (.int p1), .val (.long q1), .second, .val (.int (2 : Int32)), .val (.int c0), .val (.int c1), .val (.int c2), .val (.int c3), .val (.int c4), .val (.int c5), .val (.int c6), .val (.int c7), .val (.ref b59), .unset] [(.ref b59)]))
    refine own_go (fun t k => XS.iconst X59.here hx rfl (hb hby at_80) k) ?_
    show own_G p.tables e below s _ _ _ (T59.setTop (mkF m 81 #[.val (.int p1), .val (.long q1), .second, .val (.int (2 : Int32)), .val (.int c0), .val (.int c1), .val (.int c2), .val (.int c3), .val (.int c4), .val (.int c5), .val (.int c6), .val (.int c7), .val (.ref b59), .unset] [(.int (0 : Int32)), (.ref b59)]))
    refine own_go (fun t k => XS.iload X59.here hx rfl (hb hby at_81) rfl k) ?_
    show own_G p.tables e below s _ _ _ (T59.setTop (mkF m 83 #[.val (.int p1), .val (.long q1), .second, .val (.int (2 : Int32)), .val (.int c0), .val (.int c1), .val (.int c2), .val (.int c3), .val (.int c4), .val (.int c5), .val (.int c6), .val (.int c7), .val (.ref b59), .unset] [(.int c0), (.int (0 : Int32)), (.ref b59)]))
    obtain ⟨cl63, Ar63, q63, S63, NN63, HH63, GG63⟩ := v62
    have hin63 : ¬ ((0 : Int32) < 0 ∨ cl63.slots.size ≤ ((0 : Int32)).toNatClampNeg) := inb_of S63 ⟨by decide, by decide⟩
    obtain ⟨T63, h63, X63, e63, W63, st63⟩ := stB X59 hx hZ e59 Ar63 (j := (0 : Int32)) hin63 (g := (mkF m 83 #[.val (.int p1), .val (.long q1), .second, .val (.int (2 : Int32)), .val (.int c0), .val (.int c1), .val (.int c2), .val (.int c3), .val (.int c4), .val (.int c5), .val (.int c6), .val (.int c7), .val (.ref b59), .unset] [(.int c0), (.int (0 : Int32)), (.ref b59)])) rfl rfl (hb hby at_83)
    refine own_go st63 ?_
    have v64 : Arv Z h63 b59 k59 .byte (2 : Int32) [(.int (nar .byte c0)), (.int (0 : Int32))] (.int (0 : Int32)) := Arv.set Ar63 q63 S63 NN63 HH63 GG63 (fits_nar_byte _) W63 0 rfl (Nat.le_of_ble_eq_true rfl)
    rw [hb0] at v64
    have z65 := Nat.le_trans z61 (Keep.of_wr W63).1
    have N63 := Fr.snoc X63 N0 g60
    show own_G p.tables e below s _ _ _ (T63.setTop (mkF m 84 #[.val (.int p1), .val (.long q1), .second, .val (.int (2 : Int32)), .val (.int c0), .val (.int c1), .val (.int c2), .val (.int c3), .val (.int c4), .val (.int c5), .val (.int c6), .val (.int c7), .val (.ref b59), .unset] []))
    refine own_go (fun t k => XS.iloadN X63.here hx rfl (hb hby at_84) rfl k) ?_
    show own_G p.tables e below s _ _ _ (T63.setTop (mkF m 85 #[.val (.int p1), .val (.long q1), .second, .val (.int (2 : Int32)), .val (.int c0), .val (.int c1), .val (.int c2), .val (.int c3), .val (.int c4), .val (.int c5), .val (.int c6), .val (.int c7), .val (.ref b59), .unset] [(.int (2 : Int32))]))
    refine own_go (fun t k => XS.iconst X63.here hx rfl (hb hby at_85) k) ?_
    show own_G p.tables e below s _ _ _ (T63.setTop (mkF m 86 #[.val (.int p1), .val (.long q1), .second, .val (.int (2 : Int32)), .val (.int c0), .val (.int c1), .val (.int c2), .val (.int c3), .val (.int c4), .val (.int c5), .val (.int c6), .val (.int c7), .val (.ref b59), .unset] [(.int (1 : Int32)), (.int (2 : Int32))]))
    refine own_go (fun t k => XS.icmpNo X63.here hx rfl (hb hby at_86) rfl (by decide) k) ?_
    show own_G p.tables e below s _ _ _ (T63.setTop (mkF m 89 #[.val (.int p1), .val (.long q1), .second, .val (.int (2 : Int32)), .val (.int c0), .val (.int c1), .val (.int c2), .val (.int c3), .val (.int c4), .val (.int c5), .val (.int c6), .val (.int c7), .val (.ref b59), .unset] []))
    refine own_go (fun t k => XS.aload X63.here hx rfl (hb hby at_89) rfl rfl k) ?_
    show own_G p.tables e below s _ _ _ (T63.setTop (mkF m 91 #[.val (.int p1), .val (.long q1), .second, .val (.int (2 : Int32)), .val (.int c0), .val (.int c1), .val (.int c2), .val (.int c3), .val (.int c4), .val (.int c5), .val (.int c6), .val (.int c7), .val (.ref b59), .unset] [(.ref b59)]))
    refine own_go (fun t k => XS.iconst X63.here hx rfl (hb hby at_91) k) ?_
    show own_G p.tables e below s _ _ _ (T63.setTop (mkF m 92 #[.val (.int p1), .val (.long q1), .second, .val (.int (2 : Int32)), .val (.int c0), .val (.int c1), .val (.int c2), .val (.int c3), .val (.int c4), .val (.int c5), .val (.int c6), .val (.int c7), .val (.ref b59), .unset] [(.int (1 : Int32)), (.ref b59)]))
    refine own_go (fun t k => XS.iload X63.here hx rfl (hb hby at_92) rfl k) ?_
    show own_G p.tables e below s _ _ _ (T63.setTop (mkF m 94 #[.val (.int p1), .val (.long q1), .second, .val (.int (2 : Int32)), .val (.int c0), .val (.int c1), .val (.int c2), .val (.int c3), .val (.int c4), .val (.int c5), .val (.int c6), .val (.int c7), .val (.ref b59), .unset] [(.int c1), (.int (1 : Int32)), (.ref b59)]))
    obtain ⟨cl66, Ar66, q66, S66, NN66, HH66, GG66⟩ := v64
    have hin66 : ¬ ((1 : Int32) < 0 ∨ cl66.slots.size ≤ ((1 : Int32)).toNatClampNeg) := inb_of S66 ⟨by decide, by decide⟩
    obtain ⟨T66, h66, X66, e66, W66, st66⟩ := stB X63 hx hZ e63 Ar66 (j := (1 : Int32)) hin66 (g := (mkF m 94 #[.val (.int p1), .val (.long q1), .second, .val (.int (2 : Int32)), .val (.int c0), .val (.int c1), .val (.int c2), .val (.int c3), .val (.int c4), .val (.int c5), .val (.int c6), .val (.int c7), .val (.ref b59), .unset] [(.int c1), (.int (1 : Int32)), (.ref b59)])) rfl rfl (hb hby at_94)
    refine own_go st66 ?_
    have v67 : Arv Z h66 b59 k59 .byte (2 : Int32) [(.int c0), (.int (nar .byte c1))] (.int (0 : Int32)) := Arv.set Ar66 q66 S66 NN66 HH66 GG66 (fits_nar_byte _) W66 1 rfl (Nat.le_of_ble_eq_true rfl)
    rw [hb1] at v67
    have z68 := Nat.le_trans z65 (Keep.of_wr W66).1
    have N66 := Fr.snoc X66 N63 g60
    show own_G p.tables e below s _ _ _ (T66.setTop (mkF m 95 #[.val (.int p1), .val (.long q1), .second, .val (.int (2 : Int32)), .val (.int c0), .val (.int c1), .val (.int c2), .val (.int c3), .val (.int c4), .val (.int c5), .val (.int c6), .val (.int c7), .val (.ref b59), .unset] []))
    refine own_go (fun t k => XS.iloadN X66.here hx rfl (hb hby at_95) rfl k) ?_
    show own_G p.tables e below s _ _ _ (T66.setTop (mkF m 96 #[.val (.int p1), .val (.long q1), .second, .val (.int (2 : Int32)), .val (.int c0), .val (.int c1), .val (.int c2), .val (.int c3), .val (.int c4), .val (.int c5), .val (.int c6), .val (.int c7), .val (.ref b59), .unset] [(.int (2 : Int32))]))
    refine own_go (fun t k => XS.iconst X66.here hx rfl (hb hby at_96) k) ?_
    show own_G p.tables e below s _ _ _ (T66.setTop (mkF m 97 #[.val (.int p1), .val (.long q1), .second, .val (.int (2 : Int32)), .val (.int c0), .val (.int c1), .val (.int c2), .val (.int c3), .val (.int c4), .val (.int c5), .val (.int c6), .val (.int c7), .val (.ref b59), .unset] [(.int (2 : Int32)), (.int (2 : Int32))]))
    refine own_go (fun t k => XS.icmpYes X66.here hx rfl (pc0 := 97) (pc' := 106) rfl (hb hby at_97) rfl (by decide) (by decide) (by decide) k) ?_
    show own_G p.tables e below s _ _ _ (T66.setTop (mkF m 106 #[.val (.int p1), .val (.long q1), .second, .val (.int (2 : Int32)), .val (.int c0), .val (.int c1), .val (.int c2), .val (.int c3), .val (.int c4), .val (.int c5), .val (.int c6), .val (.int c7), .val (.ref b59), .unset] []))
    refine own_go (fun t k => XS.iloadN X66.here hx rfl (hb hby at_106) rfl k) ?_
    show own_G p.tables e below s _ _ _ (T66.setTop (mkF m 107 #[.val (.int p1), .val (.long q1), .second, .val (.int (2 : Int32)), .val (.int c0), .val (.int c1), .val (.int c2), .val (.int c3), .val (.int c4), .val (.int c5), .val (.int c6), .val (.int c7), .val (.ref b59), .unset] [(.int (2 : Int32))]))
    refine own_go (fun t k => XS.iconst X66.here hx rfl (hb hby at_107) k) ?_
    show own_G p.tables e below s _ _ _ (T66.setTop (mkF m 108 #[.val (.int p1), .val (.long q1), .second, .val (.int (2 : Int32)), .val (.int c0), .val (.int c1), .val (.int c2), .val (.int c3), .val (.int c4), .val (.int c5), .val (.int c6), .val (.int c7), .val (.ref b59), .unset] [(.int (3 : Int32)), (.int (2 : Int32))]))
    refine own_go (fun t k => XS.icmpYes X66.here hx rfl (pc0 := 108) (pc' := 117) rfl (hb hby at_108) rfl (by decide) (by decide) (by decide) k) ?_
    show own_G p.tables e below s _ _ _ (T66.setTop (mkF m 117 #[.val (.int p1), .val (.long q1), .second, .val (.int (2 : Int32)), .val (.int c0), .val (.int c1), .val (.int c2), .val (.int c3), .val (.int c4), .val (.int c5), .val (.int c6), .val (.int c7), .val (.ref b59), .unset] []))
    refine own_go (fun t k => XS.iloadN X66.here hx rfl (hb hby at_117) rfl k) ?_
    show own_G p.tables e below s _ _ _ (T66.setTop (mkF m 118 #[.val (.int p1), .val (.long q1), .second, .val (.int (2 : Int32)), .val (.int c0), .val (.int c1), .val (.int c2), .val (.int c3), .val (.int c4), .val (.int c5), .val (.int c6), .val (.int c7), .val (.ref b59), .unset] [(.int (2 : Int32))]))
    refine own_go (fun t k => XS.iconst X66.here hx rfl (hb hby at_118) k) ?_
    show own_G p.tables e below s _ _ _ (T66.setTop (mkF m 119 #[.val (.int p1), .val (.long q1), .second, .val (.int (2 : Int32)), .val (.int c0), .val (.int c1), .val (.int c2), .val (.int c3), .val (.int c4), .val (.int c5), .val (.int c6), .val (.int c7), .val (.ref b59), .unset] [(.int (4 : Int32)), (.int (2 : Int32))]))
    refine own_go (fun t k => XS.icmpYes X66.here hx rfl (pc0 := 119) (pc' := 128) rfl (hb hby at_119) rfl (by decide) (by decide) (by decide) k) ?_
    show own_G p.tables e below s _ _ _ (T66.setTop (mkF m 128 #[.val (.int p1), .val (.long q1), .second, .val (.int (2 : Int32)), .val (.int c0), .val (.int c1), .val (.int c2), .val (.int c3), .val (.int c4), .val (.int c5), .val (.int c6), .val (.int c7), .val (.ref b59), .unset] []))
    refine own_go (fun t k => XS.iloadN X66.here hx rfl (hb hby at_128) rfl k) ?_
    show own_G p.tables e below s _ _ _ (T66.setTop (mkF m 129 #[.val (.int p1), .val (.long q1), .second, .val (.int (2 : Int32)), .val (.int c0), .val (.int c1), .val (.int c2), .val (.int c3), .val (.int c4), .val (.int c5), .val (.int c6), .val (.int c7), .val (.ref b59), .unset] [(.int (2 : Int32))]))
    refine own_go (fun t k => XS.iconst X66.here hx rfl (hb hby at_129) k) ?_
    show own_G p.tables e below s _ _ _ (T66.setTop (mkF m 130 #[.val (.int p1), .val (.long q1), .second, .val (.int (2 : Int32)), .val (.int c0), .val (.int c1), .val (.int c2), .val (.int c3), .val (.int c4), .val (.int c5), .val (.int c6), .val (.int c7), .val (.ref b59), .unset] [(.int (5 : Int32)), (.int (2 : Int32))]))
    refine own_go (fun t k => XS.icmpYes X66.here hx rfl (pc0 := 130) (pc' := 139) rfl (hb hby at_130) rfl (by decide) (by decide) (by decide) k) ?_
    show own_G p.tables e below s _ _ _ (T66.setTop (mkF m 139 #[.val (.int p1), .val (.long q1), .second, .val (.int (2 : Int32)), .val (.int c0), .val (.int c1), .val (.int c2), .val (.int c3), .val (.int c4), .val (.int c5), .val (.int c6), .val (.int c7), .val (.ref b59), .unset] []))
    refine own_go (fun t k => XS.iloadN X66.here hx rfl (hb hby at_139) rfl k) ?_
    show own_G p.tables e below s _ _ _ (T66.setTop (mkF m 140 #[.val (.int p1), .val (.long q1), .second, .val (.int (2 : Int32)), .val (.int c0), .val (.int c1), .val (.int c2), .val (.int c3), .val (.int c4), .val (.int c5), .val (.int c6), .val (.int c7), .val (.ref b59), .unset] [(.int (2 : Int32))]))
    refine own_go (fun t k => XS.bipush X66.here hx rfl (hb hby at_140) k) ?_
    show own_G p.tables e below s _ _ _ (T66.setTop (mkF m 142 #[.val (.int p1), .val (.long q1), .second, .val (.int (2 : Int32)), .val (.int c0), .val (.int c1), .val (.int c2), .val (.int c3), .val (.int c4), .val (.int c5), .val (.int c6), .val (.int c7), .val (.ref b59), .unset] [(.int (6 : Int32)), (.int (2 : Int32))]))
    refine own_go (fun t k => XS.icmpYes X66.here hx rfl (pc0 := 142) (pc' := 152) rfl (hb hby at_142) rfl (by decide) (by decide) (by decide) k) ?_
    show own_G p.tables e below s _ _ _ (T66.setTop (mkF m 152 #[.val (.int p1), .val (.long q1), .second, .val (.int (2 : Int32)), .val (.int c0), .val (.int c1), .val (.int c2), .val (.int c3), .val (.int c4), .val (.int c5), .val (.int c6), .val (.int c7), .val (.ref b59), .unset] []))
    refine own_go (fun t k => XS.iloadN X66.here hx rfl (hb hby at_152) rfl k) ?_
    show own_G p.tables e below s _ _ _ (T66.setTop (mkF m 153 #[.val (.int p1), .val (.long q1), .second, .val (.int (2 : Int32)), .val (.int c0), .val (.int c1), .val (.int c2), .val (.int c3), .val (.int c4), .val (.int c5), .val (.int c6), .val (.int c7), .val (.ref b59), .unset] [(.int (2 : Int32))]))
    refine own_go (fun t k => XS.bipush X66.here hx rfl (hb hby at_153) k) ?_
    show own_G p.tables e below s _ _ _ (T66.setTop (mkF m 155 #[.val (.int p1), .val (.long q1), .second, .val (.int (2 : Int32)), .val (.int c0), .val (.int c1), .val (.int c2), .val (.int c3), .val (.int c4), .val (.int c5), .val (.int c6), .val (.int c7), .val (.ref b59), .unset] [(.int (7 : Int32)), (.int (2 : Int32))]))
    refine own_go (fun t k => XS.icmpYes X66.here hx rfl (pc0 := 155) (pc' := 165) rfl (hb hby at_155) rfl (by decide) (by decide) (by decide) k) ?_
    show own_G p.tables e below s _ _ _ (T66.setTop (mkF m 165 #[.val (.int p1), .val (.long q1), .second, .val (.int (2 : Int32)), .val (.int c0), .val (.int c1), .val (.int c2), .val (.int c3), .val (.int c4), .val (.int c5), .val (.int c6), .val (.int c7), .val (.ref b59), .unset] []))
    refine own_go (fun t k => XS.iloadN X66.here hx rfl (hb hby at_165) rfl k) ?_
    show own_G p.tables e below s _ _ _ (T66.setTop (mkF m 166 #[.val (.int p1), .val (.long q1), .second, .val (.int (2 : Int32)), .val (.int c0), .val (.int c1), .val (.int c2), .val (.int c3), .val (.int c4), .val (.int c5), .val (.int c6), .val (.int c7), .val (.ref b59), .unset] [(.int (2 : Int32))]))
    refine own_go (fun t k => XS.ifNo X66.here hx rfl (hb hby at_166) rfl (by decide) k) ?_
    show own_G p.tables e below s _ _ _ (T66.setTop (mkF m 169 #[.val (.int p1), .val (.long q1), .second, .val (.int (2 : Int32)), .val (.int c0), .val (.int c1), .val (.int c2), .val (.int c3), .val (.int c4), .val (.int c5), .val (.int c6), .val (.int c7), .val (.ref b59), .unset] []))
    refine own_go (fun t k => XS.iload X66.here hx rfl (hb hby at_169) rfl k) ?_
    show own_G p.tables e below s _ _ _ (T66.setTop (mkF m 171 #[.val (.int p1), .val (.long q1), .second, .val (.int (2 : Int32)), .val (.int c0), .val (.int c1), .val (.int c2), .val (.int c3), .val (.int c4), .val (.int c5), .val (.int c6), .val (.int c7), .val (.ref b59), .unset] [(.int c0)]))
    obtain ⟨ex, hex⟩ : ∃ z, (if c0 < (0 : Int32) ∨ c1 < (0 : Int32) then (0 : Int32) else 1) = z := ⟨_, rfl⟩
    refine own_go (A := (T66.setTop (mkF m 251 #[.val (.int p1), .val (.long q1), .second, .val (.int (2 : Int32)), .val (.int c0), .val (.int c1), .val (.int c2), .val (.int c3), .val (.int c4), .val (.int c5), .val (.int c6), .val (.int c7), .val (.ref b59), .unset] [(.int ex)]))) (fun t k => ?_) ?_
    · show Steps p.tables e below (T66.setTop (mkF m 171 #[.val (.int p1), .val (.long q1), .second, .val (.int (2 : Int32)), .val (.int c0), .val (.int c1), .val (.int c2), .val (.int c3), .val (.int c4), .val (.int c5), .val (.int c6), .val (.int c7), .val (.ref b59), .unset] [(.int c0)])) _
      by_cases hn0 : c0 < (0 : Int32)
      · refine XS.ifYes X66.here hx rfl (pc0 := 171) (pc' := 250) rfl (hb hby at_171) rfl (Jvm.Free.XT.i0_lt_t hn0) (by decide) (by decide) ?_
        show Steps p.tables e below (T66.setTop (mkF m 250 #[.val (.int p1), .val (.long q1), .second, .val (.int (2 : Int32)), .val (.int c0), .val (.int c1), .val (.int c2), .val (.int c3), .val (.int c4), .val (.int c5), .val (.int c6), .val (.int c7), .val (.ref b59), .unset] [])) _
        refine XS.iconst X66.here hx rfl (hb hby at_250) ?_
        show Steps p.tables e below (T66.setTop (mkF m 251 #[.val (.int p1), .val (.long q1), .second, .val (.int (2 : Int32)), .val (.int c0), .val (.int c1), .val (.int c2), .val (.int c3), .val (.int c4), .val (.int c5), .val (.int c6), .val (.int c7), .val (.ref b59), .unset] [(.int (0 : Int32))])) _
        rw [← hex, if_pos (Or.inl hn0)] at k
        exact k
      · refine XS.ifNo X66.here hx rfl (hb hby at_171) rfl (Jvm.Free.XT.i0_lt_f hn0) ?_
        show Steps p.tables e below (T66.setTop (mkF m 174 #[.val (.int p1), .val (.long q1), .second, .val (.int (2 : Int32)), .val (.int c0), .val (.int c1), .val (.int c2), .val (.int c3), .val (.int c4), .val (.int c5), .val (.int c6), .val (.int c7), .val (.ref b59), .unset] [])) _
        refine XS.iloadN X66.here hx rfl (hb hby at_174) rfl ?_
        show Steps p.tables e below (T66.setTop (mkF m 175 #[.val (.int p1), .val (.long q1), .second, .val (.int (2 : Int32)), .val (.int c0), .val (.int c1), .val (.int c2), .val (.int c3), .val (.int c4), .val (.int c5), .val (.int c6), .val (.int c7), .val (.ref b59), .unset] [(.int (2 : Int32))])) _
        refine XS.iconst X66.here hx rfl (hb hby at_175) ?_
        show Steps p.tables e below (T66.setTop (mkF m 176 #[.val (.int p1), .val (.long q1), .second, .val (.int (2 : Int32)), .val (.int c0), .val (.int c1), .val (.int c2), .val (.int c3), .val (.int c4), .val (.int c5), .val (.int c6), .val (.int c7), .val (.ref b59), .unset] [(.int (1 : Int32)), (.int (2 : Int32))])) _
        refine XS.icmpNo X66.here hx rfl (hb hby at_176) rfl (by decide) ?_
        show Steps p.tables e below (T66.setTop (mkF m 179 #[.val (.int p1), .val (.long q1), .second, .val (.int (2 : Int32)), .val (.int c0), .val (.int c1), .val (.int c2), .val (.int c3), .val (.int c4), .val (.int c5), .val (.int c6), .val (.int c7), .val (.ref b59), .unset] [])) _
        refine XS.iload X66.here hx rfl (hb hby at_179) rfl ?_
        show Steps p.tables e below (T66.setTop (mkF m 181 #[.val (.int p1), .val (.long q1), .second, .val (.int (2 : Int32)), .val (.int c0), .val (.int c1), .val (.int c2), .val (.int c3), .val (.int c4), .val (.int c5), .val (.int c6), .val (.int c7), .val (.ref b59), .unset] [(.int c1)])) _
        by_cases hn1 : c1 < (0 : Int32)
        · refine XS.ifYes X66.here hx rfl (pc0 := 181) (pc' := 250) rfl (hb hby at_181) rfl (Jvm.Free.XT.i0_lt_t hn1) (by decide) (by decide) ?_
          show Steps p.tables e below (T66.setTop (mkF m 250 #[.val (.int p1), .val (.long q1), .second, .val (.int (2 : Int32)), .val (.int c0), .val (.int c1), .val (.int c2), .val (.int c3), .val (.int c4), .val (.int c5), .val (.int c6), .val (.int c7), .val (.ref b59), .unset] [])) _
          refine XS.iconst X66.here hx rfl (hb hby at_250) ?_
          show Steps p.tables e below (T66.setTop (mkF m 251 #[.val (.int p1), .val (.long q1), .second, .val (.int (2 : Int32)), .val (.int c0), .val (.int c1), .val (.int c2), .val (.int c3), .val (.int c4), .val (.int c5), .val (.int c6), .val (.int c7), .val (.ref b59), .unset] [(.int (0 : Int32))])) _
          rw [← hex, if_pos (Or.inr (hn1))] at k
          exact k
        · refine XS.ifNo X66.here hx rfl (hb hby at_181) rfl (Jvm.Free.XT.i0_lt_f hn1) ?_
          show Steps p.tables e below (T66.setTop (mkF m 184 #[.val (.int p1), .val (.long q1), .second, .val (.int (2 : Int32)), .val (.int c0), .val (.int c1), .val (.int c2), .val (.int c3), .val (.int c4), .val (.int c5), .val (.int c6), .val (.int c7), .val (.ref b59), .unset] [])) _
          refine XS.iloadN X66.here hx rfl (hb hby at_184) rfl ?_
          show Steps p.tables e below (T66.setTop (mkF m 185 #[.val (.int p1), .val (.long q1), .second, .val (.int (2 : Int32)), .val (.int c0), .val (.int c1), .val (.int c2), .val (.int c3), .val (.int c4), .val (.int c5), .val (.int c6), .val (.int c7), .val (.ref b59), .unset] [(.int (2 : Int32))])) _
          refine XS.iconst X66.here hx rfl (hb hby at_185) ?_
          show Steps p.tables e below (T66.setTop (mkF m 186 #[.val (.int p1), .val (.long q1), .second, .val (.int (2 : Int32)), .val (.int c0), .val (.int c1), .val (.int c2), .val (.int c3), .val (.int c4), .val (.int c5), .val (.int c6), .val (.int c7), .val (.ref b59), .unset] [(.int (2 : Int32)), (.int (2 : Int32))])) _
          refine XS.icmpYes X66.here hx rfl (pc0 := 186) (pc' := 194) rfl (hb hby at_186) rfl (by decide) (by decide) (by decide) ?_
          show Steps p.tables e below (T66.setTop (mkF m 194 #[.val (.int p1), .val (.long q1), .second, .val (.int (2 : Int32)), .val (.int c0), .val (.int c1), .val (.int c2), .val (.int c3), .val (.int c4), .val (.int c5), .val (.int c6), .val (.int c7), .val (.ref b59), .unset] [])) _
          refine XS.iloadN X66.here hx rfl (hb hby at_194) rfl ?_
          show Steps p.tables e below (T66.setTop (mkF m 195 #[.val (.int p1), .val (.long q1), .second, .val (.int (2 : Int32)), .val (.int c0), .val (.int c1), .val (.int c2), .val (.int c3), .val (.int c4), .val (.int c5), .val (.int c6), .val (.int c7), .val (.ref b59), .unset] [(.int (2 : Int32))])) _
          refine XS.iconst X66.here hx rfl (hb hby at_195) ?_
          show Steps p.tables e below (T66.setTop (mkF m 196 #[.val (.int p1), .val (.long q1), .second, .val (.int (2 : Int32)), .val (.int c0), .val (.int c1), .val (.int c2), .val (.int c3), .val (.int c4), .val (.int c5), .val (.int c6), .val (.int c7), .val (.ref b59), .unset] [(.int (3 : Int32)), (.int (2 : Int32))])) _
          refine XS.icmpYes X66.here hx rfl (pc0 := 196) (pc' := 204) rfl (hb hby at_196) rfl (by decide) (by decide) (by decide) ?_
          show Steps p.tables e below (T66.setTop (mkF m 204 #[.val (.int p1), .val (.long q1), .second, .val (.int (2 : Int32)), .val (.int c0), .val (.int c1), .val (.int c2), .val (.int c3), .val (.int c4), .val (.int c5), .val (.int c6), .val (.int c7), .val (.ref b59), .unset] [])) _
          refine XS.iloadN X66.here hx rfl (hb hby at_204) rfl ?_
          show Steps p.tables e below (T66.setTop (mkF m 205 #[.val (.int p1), .val (.long q1), .second, .val (.int (2 : Int32)), .val (.int c0), .val (.int c1), .val (.int c2), .val (.int c3), .val (.int c4), .val (.int c5), .val (.int c6), .val (.int c7), .val (.ref b59), .unset] [(.int (2 : Int32))])) _
          refine XS.iconst X66.here hx rfl (hb hby at_205) ?_
          show Steps p.tables e below (T66.setTop (mkF m 206 #[.val (.int p1), .val (.long q1), .second, .val (.int (2 : Int32)), .val (.int c0), .val (.int c1), .val (.int c2), .val (.int c3), .val (.int c4), .val (.int c5), .val (.int c6), .val (.int c7), .val (.ref b59), .unset] [(.int (4 : Int32)), (.int (2 : Int32))])) _
          refine XS.icmpYes X66.here hx rfl (pc0 := 206) (pc' := 214) rfl (hb hby at_206) rfl (by decide) (by decide) (by decide) ?_
          show Steps p.tables e below (T66.setTop (mkF m 214 #[.val (.int p1), .val (.long q1), .second, .val (.int (2 : Int32)), .val (.int c0), .val (.int c1), .val (.int c2), .val (.int c3), .val (.int c4), .val (.int c5), .val (.int c6), .val (.int c7), .val (.ref b59), .unset] [])) _
          refine XS.iloadN X66.here hx rfl (hb hby at_214) rfl ?_
          show Steps p.tables e below (T66.setTop (mkF m 215 #[.val (.int p1), .val (.long q1), .second, .val (.int (2 : Int32)), .val (.int c0), .val (.int c1), .val (.int c2), .val (.int c3), .val (.int c4), .val (.int c5), .val (.int c6), .val (.int c7), .val (.ref b59), .unset] [(.int (2 : Int32))])) _
          refine XS.iconst X66.here hx rfl (hb hby at_215) ?_
          show Steps p.tables e below (T66.setTop (mkF m 216 #[.val (.int p1), .val (.long q1), .second, .val (.int (2 : Int32)), .val (.int c0), .val (.int c1), .val (.int c2), .val (.int c3), .val (.int c4), .val (.int c5), .val (.int c6), .val (.int c7), .val (.ref b59), .unset] [(.int (5 : Int32)), (.int (2 : Int32))])) _
          refine XS.icmpYes X66.here hx rfl (pc0 := 216) (pc' := 224) rfl (hb hby at_216) rfl (by decide) (by decide) (by decide) ?_
          show Steps p.tables e below (T66.setTop (mkF m 224 #[.val (.int p1), .val (.long q1), .second, .val (.int (2 : Int32)), .val (.int c0), .val (.int c1), .val (.int c2), .val (.int c3), .val (.int c4), .val (.int c5), .val (.int c6), .val (.int c7), .val (.ref b59), .unset] [])) _
          refine XS.iloadN X66.here hx rfl (hb hby at_224) rfl ?_
          show Steps p.tables e below (T66.setTop (mkF m 225 #[.val (.int p1), .val (.long q1), .second, .val (.int (2 : Int32)), .val (.int c0), .val (.int c1), .val (.int c2), .val (.int c3), .val (.int c4), .val (.int c5), .val (.int c6), .val (.int c7), .val (.ref b59), .unset] [(.int (2 : Int32))])) _
          refine XS.bipush X66.here hx rfl (hb hby at_225) ?_
          show Steps p.tables e below (T66.setTop (mkF m 227 #[.val (.int p1), .val (.long q1), .second, .val (.int (2 : Int32)), .val (.int c0), .val (.int c1), .val (.int c2), .val (.int c3), .val (.int c4), .val (.int c5), .val (.int c6), .val (.int c7), .val (.ref b59), .unset] [(.int (6 : Int32)), (.int (2 : Int32))])) _
          refine XS.icmpYes X66.here hx rfl (pc0 := 227) (pc' := 235) rfl (hb hby at_227) rfl (by decide) (by decide) (by decide) ?_
          show Steps p.tables e below (T66.setTop (mkF m 235 #[.val (.int p1), .val (.long q1), .second, .val (.int (2 : Int32)), .val (.int c0), .val (.int c1), .val (.int c2), .val (.int c3), .val (.int c4), .val (.int c5), .val (.int c6), .val (.int c7), .val (.ref b59), .unset] [])) _
          refine XS.iloadN X66.here hx rfl (hb hby at_235) rfl ?_
          show Steps p.tables e below (T66.setTop (mkF m 236 #[.val (.int p1), .val (.long q1), .second, .val (.int (2 : Int32)), .val (.int c0), .val (.int c1), .val (.int c2), .val (.int c3), .val (.int c4), .val (.int c5), .val (.int c6), .val (.int c7), .val (.ref b59), .unset] [(.int (2 : Int32))])) _
          refine XS.bipush X66.here hx rfl (hb hby at_236) ?_
          show Steps p.tables e below (T66.setTop (mkF m 238 #[.val (.int p1), .val (.long q1), .second, .val (.int (2 : Int32)), .val (.int c0), .val (.int c1), .val (.int c2), .val (.int c3), .val (.int c4), .val (.int c5), .val (.int c6), .val (.int c7), .val (.ref b59), .unset] [(.int (7 : Int32)), (.int (2 : Int32))])) _
          refine XS.icmpYes X66.here hx rfl (pc0 := 238) (pc' := 246) rfl (hb hby at_238) rfl (by decide) (by decide) (by decide) ?_
          show Steps p.tables e below (T66.setTop (mkF m 246 #[.val (.int p1), .val (.long q1), .second, .val (.int (2 : Int32)), .val (.int c0), .val (.int c1), .val (.int c2), .val (.int c3), .val (.int c4), .val (.int c5), .val (.int c6), .val (.int c7), .val (.ref b59), .unset] [])) _
          refine XS.iconst X66.here hx rfl (hb hby at_246) ?_
          show Steps p.tables e below (T66.setTop (mkF m 247 #[.val (.int p1), .val (.long q1), .second, .val (.int (2 : Int32)), .val (.int c0), .val (.int c1), .val (.int c2), .val (.int c3), .val (.int c4), .val (.int c5), .val (.int c6), .val (.int c7), .val (.ref b59), .unset] [(.int (1 : Int32))])) _
          refine XS.goto X66.here hx rfl (pc0 := 247) (pc' := 251) rfl (hb hby at_247) (by decide) (by decide) ?_
          show Steps p.tables e below (T66.setTop (mkF m 251 #[.val (.int p1), .val (.long q1), .second, .val (.int (2 : Int32)), .val (.int c0), .val (.int c1), .val (.int c2), .val (.int c3), .val (.int c4), .val (.int c5), .val (.int c6), .val (.int c7), .val (.ref b59), .unset] [(.int (1 : Int32))])) _
          rw [← hex, if_neg (fun q => q.elim hn0 hn1)] at k
          exact k
    show own_G p.tables e below s _ _ _ (T66.setTop (mkF m 251 #[.val (.int p1), .val (.long q1), .second, .val (.int (2 : Int32)), .val (.int c0), .val (.int c1), .val (.int c2), .val (.int c3), .val (.int c4), .val (.int c5), .val (.int c6), .val (.int c7), .val (.ref b59), .unset] [(.int ex)]))
    refine own_go (fun t k => XS.istore X66.here hx rfl (hb hby at_251) rfl (l' := #[.val (.int p1), .val (.long q1), .second, .val (.int (2 : Int32)), .val (.int c0), .val (.int c1), .val (.int c2), .val (.int c3), .val (.int c4), .val (.int c5), .val (.int c6), .val (.int c7), .val (.ref b59), .val (.int ex)]) rfl k) ?_
    show own_G p.tables e below s _ _ _ (T66.setTop (mkF m 253 #[.val (.int p1), .val (.long q1), .second, .val (.int (2 : Int32)), .val (.int c0), .val (.int c1), .val (.int c2), .val (.int c3), .val (.int c4), .val (.int c5), .val (.int c6), .val (.int c7), .val (.ref b59), .val (.int ex)] []))
    refine own_go (fun t k => XS.aload X66.here hx rfl (hb hby at_253) rfl rfl k) ?_
    show own_G p.tables e below s _ _ _ (T66.setTop (mkF m 255 #[.val (.int p1), .val (.long q1), .second, .val (.int (2 : Int32)), .val (.int c0), .val (.int c1), .val (.int c2), .val (.int c3), .val (.int c4), .val (.int c5), .val (.int c6), .val (.int c7), .val (.ref b59), .val (.int ex)] [(.ref b59)]))
    obtain ⟨_, _, ⟨T69, L69, k69, n69⟩, -, X69, ⟨Lc69, hQ69, l69, y69, z69⟩, st69⟩ := Jvm.LawKit.callS X66 hx (y := (⟨"com/example/cartulary/cartulary/model/Syntax", "isAscii", "([B)Z"⟩ : MethodName)) hown (mvT hZ (hw _ (List.mem_of_getElem? (i := 2) rfl))) (mvT hZ (hw _ (List.mem_of_getElem? (i := 3) rfl))) (mvT hZ (hw _ (List.mem_of_getElem? (i := 4) rfl))) (mvT hZ (hw _ (List.mem_of_getElem? (i := 5) rfl))) (by decide) (backOf (W := 0) (rm1_2 l Z a0 hw [] b59 k59 c0 c1 ex h66 n0 z68 v67 hex) hZ (hw _ (List.mem_of_getElem? (i := 5) rfl)) (hw _ (List.mem_of_getElem? (i := 4) rfl)) (by decide) (by decide)) (g := (mkF m 255 #[.val (.int p1), .val (.long q1), .second, .val (.int (2 : Int32)), .val (.int c0), .val (.int c1), .val (.int c2), .val (.int c3), .val (.int c4), .val (.int c5), .val (.int c6), .val (.int c7), .val (.ref b59), .val (.int ex)] [(.ref b59)])) rfl (by rw [hml]; rfl) (argsL := [(.ref b59)]) (rest := []) (lenOf pd___B_Z rfl) rfl (by show 2 * 0 + _ ≤ _; exact Nat.le_of_eq rfl) (hb hby at_255) (fun _ _ => ⟨rfl, e66, (by decide : 1 + 0 ≤ _), (by decide : 2 + 0 ≤ _)⟩)
    dsimp only [Pt.U, Pt.locs, Pt.cells, Pt.slots] at X69 l69 y69 z69 st69 hQ69
    subst l69 y69 z69
    obtain ⟨rfl, N69q, hh69⟩ := hQ69
    have N69 := Fr.app N66 N69q
    refine own_go st69 ?_
    show own_G p.tables e below s _ _ _ (T69.setTop (mkF m 258 #[.val (.int p1), .val (.long q1), .second, .val (.int (2 : Int32)), .val (.int c0), .val (.int c1), .val (.int c2), .val (.int c3), .val (.int c4), .val (.int c5), .val (.int c6), .val (.int c7), .val (.ref b59), .val (.int ex)] [(.int ex)]))
    refine own_go (fun t k => XS.iload X69.here hx rfl (hb hby at_258) rfl k) ?_
    show own_G p.tables e below s _ _ _ (T69.setTop (mkF m 260 #[.val (.int p1), .val (.long q1), .second, .val (.int (2 : Int32)), .val (.int c0), .val (.int c1), .val (.int c2), .val (.int c3), .val (.int c4), .val (.int c5), .val (.int c6), .val (.int c7), .val (.ref b59), .val (.int ex)] [(.int ex), (.int ex)]))
    refine own_go (fun t k => XS.icmpNo X69.here hx rfl (hb hby at_260) rfl (Jvm.Free.XT.ii_ne_f rfl) k) ?_
    show own_G p.tables e below s _ _ _ (T69.setTop (mkF m 263 #[.val (.int p1), .val (.long q1), .second, .val (.int (2 : Int32)), .val (.int c0), .val (.int c1), .val (.int c2), .val (.int c3), .val (.int c4), .val (.int c5), .val (.int c6), .val (.int c7), .val (.ref b59), .val (.int ex)] []))
    refine own_go (fun t k => XS.iconst X69.here hx rfl (hb hby at_263) k) ?_
    show own_G p.tables e below s _ _ _ (T69.setTop (mkF m 264 #[.val (.int p1), .val (.long q1), .second, .val (.int (2 : Int32)), .val (.int c0), .val (.int c1), .val (.int c2), .val (.int c3), .val (.int c4), .val (.int c5), .val (.int c6), .val (.int c7), .val (.ref b59), .val (.int ex)] [(.int (1 : Int32))]))
    refine own_go (fun t k => XS.goto X69.here hx rfl (pc0 := 264) (pc' := 268) rfl (hb hby at_264) (by decide) (by decide) k) ?_
    show own_G p.tables e below s _ _ _ (T69.setTop (mkF m 268 #[.val (.int p1), .val (.long q1), .second, .val (.int (2 : Int32)), .val (.int c0), .val (.int c1), .val (.int c2), .val (.int c3), .val (.int c4), .val (.int c5), .val (.int c6), .val (.int c7), .val (.ref b59), .val (.int ex)] [(.int (1 : Int32))]))
    exact own_retN X69 hx hlk (t := .boolean) (z' := (1 : Int32)) Bd.returns (by simp) (hb hby at_268) (rfl) (by rw [hh69]; exact ⟨rfl, N69⟩) (by decide) (by decide)
  · show own_G p.tables e below s _ _ _ (s₁.setTop (mkF m 69 #[.val (.int p1), .val (.long q1), .second, .val (.int (3 : Int32)), .val (.int c0), .val (.int c1), .val (.int c2), .val (.int c3), .val (.int c4), .val (.int c5), .val (.int c6), .val (.int c7), .unset, .unset] []))
    refine own_go (fun t k => XS.iloadN X0.here hx rfl (hb hby at_69) rfl k) ?_
    show own_G p.tables e below s _ _ _ (s₁.setTop (mkF m 70 #[.val (.int p1), .val (.long q1), .second, .val (.int (3 : Int32)), .val (.int c0), .val (.int c1), .val (.int c2), .val (.int c3), .val (.int c4), .val (.int c5), .val (.int c6), .val (.int c7), .unset, .unset] [(.int (3 : Int32))]))
    obtain ⟨T70, h70, k70, X70, e70, E70, A70, st70⟩ := newP X0 hx hZ (hw _ (List.mem_of_getElem? (i := 1) rfl)) e0 (g := (mkF m 70 #[.val (.int p1), .val (.long q1), .second, .val (.int (3 : Int32)), .val (.int c0), .val (.int c1), .val (.int c2), .val (.int c3), .val (.int c4), .val (.int c5), .val (.int c6), .val (.int c7), .unset, .unset] [(.int (3 : Int32))])) rfl (hb hby at_70) rfl (by decide) (cap := 3) (by decide) (by decide) (by decide) (by decide)
    obtain ⟨b70, g70⟩ : ∃ z, z = h0.size := ⟨_, rfl⟩
    rw [← g70] at A70 st70
    refine own_go st70 ?_
    have g71 := Nat.le_trans Z0 (Nat.le_of_eq g70.symm)
    have z72 := Nat.le_trans Z0 E70.1
    have v73 : Arv Z h70 b70 k70 .byte (3 : Int32) [(.int (0 : Int32)), (.int (0 : Int32)), (.int (0 : Int32))] (.int (0 : Int32)) := (Arv.new A70 (by decide)).pad (pad_rep [] (.int (0 : Int32)) 3)
    show own_G p.tables e below s _ _ _ (T70.setTop (mkF m 72 #[.val (.int p1), .val (.long q1), .second, .val (.int (3 : Int32)), .val (.int c0), .val (.int c1), .val (.int c2), .val (.int c3), .val (.int c4), .val (.int c5), .val (.int c6), .val (.int c7), .unset, .unset] [(.ref b70)]))
    refine own_go (fun t k => XS.astore X70.here hx rfl (hb hby at_72) rfl rfl (l' := #[.val (.int p1), .val (.long q1), .second, .val (.int (3 : Int32)), .val (.int c0), .val (.int c1), .val (.int c2), .val (.int c3), .val (.int c4), .val (.int c5), .val (.int c6), .val (.int c7), .val (.ref b70), .unset]) rfl k) ?_
    show own_G p.tables e below s _ _ _ (T70.setTop (mkF m 74 #[.val (.int p1), .val (.long q1), .second, .val (.int (3 : Int32)), .val (.int c0), .val (.int c1), .val (.int c2), .val (.int c3), .val (.int c4), .val (.int c5), .val (.int c6), .val (.int c7), .val (.ref b70), .unset] []))
    refine own_go (fun t k => XS.iloadN X70.here hx rfl (hb hby at_74) rfl k) ?_
    show own_G p.tables e below s _ _ _ (T70.setTop (mkF m 75 #[.val (.int p1), .val (.long q1), .second, .val (.int (3 : Int32)), .val (.int c0), .val (.int c1), .val (.int c2), .val (.int c3), .val (.int c4), .val (.int c5), .val (.int c6), .val (.int c7), .val (.ref b70), .unset] [(.int (3 : Int32))]))
    refine own_go (fun t k => XS.ifNo X70.here hx rfl (hb hby at_75) rfl (by decide) k) ?_
    show own_G p.tables e below s _ _ _ (T70.setTop (mkF m 78 #[.val (.int p1), .val (.long q1), .second, .val (.int (3 : Int32)), .val (.int c0), .val (.int c1), .val (.int c2), .val (.int c3), .val (.int c4), .val (.int c5), .val (.int c6), .val (.int c7), .val (.ref b70), .unset] []))
    refine own_go (fun t k => XS.aload X70.here hx rfl (hb hby at_78) rfl rfl k) ?_
    show own_G p.tables e below s _ _ _ (T70.setTop (mkF m 80 #[.val (.int p1), .val (.long q1), .second, .val (.int (3 : Int32)), .val (.int c0), .val (.int c1), .val (.int c2), .val (.int c3), .val (.int c4), .val (.int c5), .val (.int c6), .val (.int c7), .val (.ref b70), .unset] [(.ref b70)]))
    refine own_go (fun t k => XS.iconst X70.here hx rfl (hb hby at_80) k) ?_
    show own_G p.tables e below s _ _ _ (T70.setTop (mkF m 81 #[.val (.int p1), .val (.long q1), .second, .val (.int (3 : Int32)), .val (.int c0), .val (.int c1), .val (.int c2), .val (.int c3), .val (.int c4), .val (.int c5), .val (.int c6), .val (.int c7), .val (.ref b70), .unset] [(.int (0 : Int32)), (.ref b70)]))
    refine own_go (fun t k => XS.iload X70.here hx rfl (hb hby at_81) rfl k) ?_
    show own_G p.tables e below s _ _ _ (T70.setTop (mkF m 83 #[.val (.int p1), .val (.long q1), .second, .val (.int (3 : Int32)), .val (.int c0), .val (.int c1), .val (.int c2), .val (.int c3), .val (.int c4), .val (.int c5), .val (.int c6), .val (.int c7), .val (.ref b70), .unset] [(.int c0), (.int (0 : Int32)), (.ref b70)]))
    obtain ⟨cl74, Ar74, q74, S74, NN74, HH74, GG74⟩ := v73
    have hin74 : ¬ ((0 : Int32) < 0 ∨ cl74.slots.size ≤ ((0 : Int32)).toNatClampNeg) := inb_of S74 ⟨by decide, by decide⟩
    obtain ⟨T74, h74, X74, e74, W74, st74⟩ := stB X70 hx hZ e70 Ar74 (j := (0 : Int32)) hin74 (g := (mkF m 83 #[.val (.int p1), .val (.long q1), .second, .val (.int (3 : Int32)), .val (.int c0), .val (.int c1), .val (.int c2), .val (.int c3), .val (.int c4), .val (.int c5), .val (.int c6), .val (.int c7), .val (.ref b70), .unset] [(.int c0), (.int (0 : Int32)), (.ref b70)])) rfl rfl (hb hby at_83)
    refine own_go st74 ?_
    have v75 : Arv Z h74 b70 k70 .byte (3 : Int32) [(.int (nar .byte c0)), (.int (0 : Int32)), (.int (0 : Int32))] (.int (0 : Int32)) := Arv.set Ar74 q74 S74 NN74 HH74 GG74 (fits_nar_byte _) W74 0 rfl (Nat.le_of_ble_eq_true rfl)
    rw [hb0] at v75
    have z76 := Nat.le_trans z72 (Keep.of_wr W74).1
    have N74 := Fr.snoc X74 N0 g71
    show own_G p.tables e below s _ _ _ (T74.setTop (mkF m 84 #[.val (.int p1), .val (.long q1), .second, .val (.int (3 : Int32)), .val (.int c0), .val (.int c1), .val (.int c2), .val (.int c3), .val (.int c4), .val (.int c5), .val (.int c6), .val (.int c7), .val (.ref b70), .unset] []))
    refine own_go (fun t k => XS.iloadN X74.here hx rfl (hb hby at_84) rfl k) ?_
    show own_G p.tables e below s _ _ _ (T74.setTop (mkF m 85 #[.val (.int p1), .val (.long q1), .second, .val (.int (3 : Int32)), .val (.int c0), .val (.int c1), .val (.int c2), .val (.int c3), .val (.int c4), .val (.int c5), .val (.int c6), .val (.int c7), .val (.ref b70), .unset] [(.int (3 : Int32))]))
    refine own_go (fun t k => XS.iconst X74.here hx rfl (hb hby at_85) k) ?_
    show own_G p.tables e below s _ _ _ (T74.setTop (mkF m 86 #[.val (.int p1), .val (.long q1), .second, .val (.int (3 : Int32)), .val (.int c0), .val (.int c1), .val (.int c2), .val (.int c3), .val (.int c4), .val (.int c5), .val (.int c6), .val (.int c7), .val (.ref b70), .unset] [(.int (1 : Int32)), (.int (3 : Int32))]))
    refine own_go (fun t k => XS.icmpNo X74.here hx rfl (hb hby at_86) rfl (by decide) k) ?_
    show own_G p.tables e below s _ _ _ (T74.setTop (mkF m 89 #[.val (.int p1), .val (.long q1), .second, .val (.int (3 : Int32)), .val (.int c0), .val (.int c1), .val (.int c2), .val (.int c3), .val (.int c4), .val (.int c5), .val (.int c6), .val (.int c7), .val (.ref b70), .unset] []))
    refine own_go (fun t k => XS.aload X74.here hx rfl (hb hby at_89) rfl rfl k) ?_
    show own_G p.tables e below s _ _ _ (T74.setTop (mkF m 91 #[.val (.int p1), .val (.long q1), .second, .val (.int (3 : Int32)), .val (.int c0), .val (.int c1), .val (.int c2), .val (.int c3), .val (.int c4), .val (.int c5), .val (.int c6), .val (.int c7), .val (.ref b70), .unset] [(.ref b70)]))
    refine own_go (fun t k => XS.iconst X74.here hx rfl (hb hby at_91) k) ?_
    show own_G p.tables e below s _ _ _ (T74.setTop (mkF m 92 #[.val (.int p1), .val (.long q1), .second, .val (.int (3 : Int32)), .val (.int c0), .val (.int c1), .val (.int c2), .val (.int c3), .val (.int c4), .val (.int c5), .val (.int c6), .val (.int c7), .val (.ref b70), .unset] [(.int (1 : Int32)), (.ref b70)]))
    refine own_go (fun t k => XS.iload X74.here hx rfl (hb hby at_92) rfl k) ?_
    show own_G p.tables e below s _ _ _ (T74.setTop (mkF m 94 #[.val (.int p1), .val (.long q1), .second, .val (.int (3 : Int32)), .val (.int c0), .val (.int c1), .val (.int c2), .val (.int c3), .val (.int c4), .val (.int c5), .val (.int c6), .val (.int c7), .val (.ref b70), .unset] [(.int c1), (.int (1 : Int32)), (.ref b70)]))
    obtain ⟨cl77, Ar77, q77, S77, NN77, HH77, GG77⟩ := v75
    have hin77 : ¬ ((1 : Int32) < 0 ∨ cl77.slots.size ≤ ((1 : Int32)).toNatClampNeg) := inb_of S77 ⟨by decide, by decide⟩
    obtain ⟨T77, h77, X77, e77, W77, st77⟩ := stB X74 hx hZ e74 Ar77 (j := (1 : Int32)) hin77 (g := (mkF m 94 #[.val (.int p1), .val (.long q1), .second, .val (.int (3 : Int32)), .val (.int c0), .val (.int c1), .val (.int c2), .val (.int c3), .val (.int c4), .val (.int c5), .val (.int c6), .val (.int c7), .val (.ref b70), .unset] [(.int c1), (.int (1 : Int32)), (.ref b70)])) rfl rfl (hb hby at_94)
    refine own_go st77 ?_
    have v78 : Arv Z h77 b70 k70 .byte (3 : Int32) [(.int c0), (.int (nar .byte c1)), (.int (0 : Int32))] (.int (0 : Int32)) := Arv.set Ar77 q77 S77 NN77 HH77 GG77 (fits_nar_byte _) W77 1 rfl (Nat.le_of_ble_eq_true rfl)
    rw [hb1] at v78
    have z79 := Nat.le_trans z76 (Keep.of_wr W77).1
    have N77 := Fr.snoc X77 N74 g71
    show own_G p.tables e below s _ _ _ (T77.setTop (mkF m 95 #[.val (.int p1), .val (.long q1), .second, .val (.int (3 : Int32)), .val (.int c0), .val (.int c1), .val (.int c2), .val (.int c3), .val (.int c4), .val (.int c5), .val (.int c6), .val (.int c7), .val (.ref b70), .unset] []))
    refine own_go (fun t k => XS.iloadN X77.here hx rfl (hb hby at_95) rfl k) ?_
    show own_G p.tables e below s _ _ _ (T77.setTop (mkF m 96 #[.val (.int p1), .val (.long q1), .second, .val (.int (3 : Int32)), .val (.int c0), .val (.int c1), .val (.int c2), .val (.int c3), .val (.int c4), .val (.int c5), .val (.int c6), .val (.int c7), .val (.ref b70), .unset] [(.int (3 : Int32))]))
    refine own_go (fun t k => XS.iconst X77.here hx rfl (hb hby at_96) k) ?_
    show own_G p.tables e below s _ _ _ (T77.setTop (mkF m 97 #[.val (.int p1), .val (.long q1), .second, .val (.int (3 : Int32)), .val (.int c0), .val (.int c1), .val (.int c2), .val (.int c3), .val (.int c4), .val (.int c5), .val (.int c6), .val (.int c7), .val (.ref b70), .unset] [(.int (2 : Int32)), (.int (3 : Int32))]))
    refine own_go (fun t k => XS.icmpNo X77.here hx rfl (hb hby at_97) rfl (by decide) k) ?_
    show own_G p.tables e below s _ _ _ (T77.setTop (mkF m 100 #[.val (.int p1), .val (.long q1), .second, .val (.int (3 : Int32)), .val (.int c0), .val (.int c1), .val (.int c2), .val (.int c3), .val (.int c4), .val (.int c5), .val (.int c6), .val (.int c7), .val (.ref b70), .unset] []))
    refine own_go (fun t k => XS.aload X77.here hx rfl (hb hby at_100) rfl rfl k) ?_
    show own_G p.tables e below s _ _ _ (T77.setTop (mkF m 102 #[.val (.int p1), .val (.long q1), .second, .val (.int (3 : Int32)), .val (.int c0), .val (.int c1), .val (.int c2), .val (.int c3), .val (.int c4), .val (.int c5), .val (.int c6), .val (.int c7), .val (.ref b70), .unset] [(.ref b70)]))
    refine own_go (fun t k => XS.iconst X77.here hx rfl (hb hby at_102) k) ?_
    show own_G p.tables e below s _ _ _ (T77.setTop (mkF m 103 #[.val (.int p1), .val (.long q1), .second, .val (.int (3 : Int32)), .val (.int c0), .val (.int c1), .val (.int c2), .val (.int c3), .val (.int c4), .val (.int c5), .val (.int c6), .val (.int c7), .val (.ref b70), .unset] [(.int (2 : Int32)), (.ref b70)]))
    refine own_go (fun t k => XS.iload X77.here hx rfl (hb hby at_103) rfl k) ?_
    show own_G p.tables e below s _ _ _ (T77.setTop (mkF m 105 #[.val (.int p1), .val (.long q1), .second, .val (.int (3 : Int32)), .val (.int c0), .val (.int c1), .val (.int c2), .val (.int c3), .val (.int c4), .val (.int c5), .val (.int c6), .val (.int c7), .val (.ref b70), .unset] [(.int c2), (.int (2 : Int32)), (.ref b70)]))
    obtain ⟨cl80, Ar80, q80, S80, NN80, HH80, GG80⟩ := v78
    have hin80 : ¬ ((2 : Int32) < 0 ∨ cl80.slots.size ≤ ((2 : Int32)).toNatClampNeg) := inb_of S80 ⟨by decide, by decide⟩
    obtain ⟨T80, h80, X80, e80, W80, st80⟩ := stB X77 hx hZ e77 Ar80 (j := (2 : Int32)) hin80 (g := (mkF m 105 #[.val (.int p1), .val (.long q1), .second, .val (.int (3 : Int32)), .val (.int c0), .val (.int c1), .val (.int c2), .val (.int c3), .val (.int c4), .val (.int c5), .val (.int c6), .val (.int c7), .val (.ref b70), .unset] [(.int c2), (.int (2 : Int32)), (.ref b70)])) rfl rfl (hb hby at_105)
    refine own_go st80 ?_
    have v81 : Arv Z h80 b70 k70 .byte (3 : Int32) [(.int c0), (.int c1), (.int (nar .byte c2))] (.int (0 : Int32)) := Arv.set Ar80 q80 S80 NN80 HH80 GG80 (fits_nar_byte _) W80 2 rfl (Nat.le_of_ble_eq_true rfl)
    rw [hb2] at v81
    have z82 := Nat.le_trans z79 (Keep.of_wr W80).1
    have N80 := Fr.snoc X80 N77 g71
    show own_G p.tables e below s _ _ _ (T80.setTop (mkF m 106 #[.val (.int p1), .val (.long q1), .second, .val (.int (3 : Int32)), .val (.int c0), .val (.int c1), .val (.int c2), .val (.int c3), .val (.int c4), .val (.int c5), .val (.int c6), .val (.int c7), .val (.ref b70), .unset] []))
    refine own_go (fun t k => XS.iloadN X80.here hx rfl (hb hby at_106) rfl k) ?_
    show own_G p.tables e below s _ _ _ (T80.setTop (mkF m 107 #[.val (.int p1), .val (.long q1), .second, .val (.int (3 : Int32)), .val (.int c0), .val (.int c1), .val (.int c2), .val (.int c3), .val (.int c4), .val (.int c5), .val (.int c6), .val (.int c7), .val (.ref b70), .unset] [(.int (3 : Int32))]))
    refine own_go (fun t k => XS.iconst X80.here hx rfl (hb hby at_107) k) ?_
    show own_G p.tables e below s _ _ _ (T80.setTop (mkF m 108 #[.val (.int p1), .val (.long q1), .second, .val (.int (3 : Int32)), .val (.int c0), .val (.int c1), .val (.int c2), .val (.int c3), .val (.int c4), .val (.int c5), .val (.int c6), .val (.int c7), .val (.ref b70), .unset] [(.int (3 : Int32)), (.int (3 : Int32))]))
    refine own_go (fun t k => XS.icmpYes X80.here hx rfl (pc0 := 108) (pc' := 117) rfl (hb hby at_108) rfl (by decide) (by decide) (by decide) k) ?_
    show own_G p.tables e below s _ _ _ (T80.setTop (mkF m 117 #[.val (.int p1), .val (.long q1), .second, .val (.int (3 : Int32)), .val (.int c0), .val (.int c1), .val (.int c2), .val (.int c3), .val (.int c4), .val (.int c5), .val (.int c6), .val (.int c7), .val (.ref b70), .unset] []))
    refine own_go (fun t k => XS.iloadN X80.here hx rfl (hb hby at_117) rfl k) ?_
    show own_G p.tables e below s _ _ _ (T80.setTop (mkF m 118 #[.val (.int p1), .val (.long q1), .second, .val (.int (3 : Int32)), .val (.int c0), .val (.int c1), .val (.int c2), .val (.int c3), .val (.int c4), .val (.int c5), .val (.int c6), .val (.int c7), .val (.ref b70), .unset] [(.int (3 : Int32))]))
    refine own_go (fun t k => XS.iconst X80.here hx rfl (hb hby at_118) k) ?_
    show own_G p.tables e below s _ _ _ (T80.setTop (mkF m 119 #[.val (.int p1), .val (.long q1), .second, .val (.int (3 : Int32)), .val (.int c0), .val (.int c1), .val (.int c2), .val (.int c3), .val (.int c4), .val (.int c5), .val (.int c6), .val (.int c7), .val (.ref b70), .unset] [(.int (4 : Int32)), (.int (3 : Int32))]))
    refine own_go (fun t k => XS.icmpYes X80.here hx rfl (pc0 := 119) (pc' := 128) rfl (hb hby at_119) rfl (by decide) (by decide) (by decide) k) ?_
    show own_G p.tables e below s _ _ _ (T80.setTop (mkF m 128 #[.val (.int p1), .val (.long q1), .second, .val (.int (3 : Int32)), .val (.int c0), .val (.int c1), .val (.int c2), .val (.int c3), .val (.int c4), .val (.int c5), .val (.int c6), .val (.int c7), .val (.ref b70), .unset] []))
    refine own_go (fun t k => XS.iloadN X80.here hx rfl (hb hby at_128) rfl k) ?_
    show own_G p.tables e below s _ _ _ (T80.setTop (mkF m 129 #[.val (.int p1), .val (.long q1), .second, .val (.int (3 : Int32)), .val (.int c0), .val (.int c1), .val (.int c2), .val (.int c3), .val (.int c4), .val (.int c5), .val (.int c6), .val (.int c7), .val (.ref b70), .unset] [(.int (3 : Int32))]))
    refine own_go (fun t k => XS.iconst X80.here hx rfl (hb hby at_129) k) ?_
    show own_G p.tables e below s _ _ _ (T80.setTop (mkF m 130 #[.val (.int p1), .val (.long q1), .second, .val (.int (3 : Int32)), .val (.int c0), .val (.int c1), .val (.int c2), .val (.int c3), .val (.int c4), .val (.int c5), .val (.int c6), .val (.int c7), .val (.ref b70), .unset] [(.int (5 : Int32)), (.int (3 : Int32))]))
    refine own_go (fun t k => XS.icmpYes X80.here hx rfl (pc0 := 130) (pc' := 139) rfl (hb hby at_130) rfl (by decide) (by decide) (by decide) k) ?_
    show own_G p.tables e below s _ _ _ (T80.setTop (mkF m 139 #[.val (.int p1), .val (.long q1), .second, .val (.int (3 : Int32)), .val (.int c0), .val (.int c1), .val (.int c2), .val (.int c3), .val (.int c4), .val (.int c5), .val (.int c6), .val (.int c7), .val (.ref b70), .unset] []))
    refine own_go (fun t k => XS.iloadN X80.here hx rfl (hb hby at_139) rfl k) ?_
    show own_G p.tables e below s _ _ _ (T80.setTop (mkF m 140 #[.val (.int p1), .val (.long q1), .second, .val (.int (3 : Int32)), .val (.int c0), .val (.int c1), .val (.int c2), .val (.int c3), .val (.int c4), .val (.int c5), .val (.int c6), .val (.int c7), .val (.ref b70), .unset] [(.int (3 : Int32))]))
    refine own_go (fun t k => XS.bipush X80.here hx rfl (hb hby at_140) k) ?_
    show own_G p.tables e below s _ _ _ (T80.setTop (mkF m 142 #[.val (.int p1), .val (.long q1), .second, .val (.int (3 : Int32)), .val (.int c0), .val (.int c1), .val (.int c2), .val (.int c3), .val (.int c4), .val (.int c5), .val (.int c6), .val (.int c7), .val (.ref b70), .unset] [(.int (6 : Int32)), (.int (3 : Int32))]))
    refine own_go (fun t k => XS.icmpYes X80.here hx rfl (pc0 := 142) (pc' := 152) rfl (hb hby at_142) rfl (by decide) (by decide) (by decide) k) ?_
    show own_G p.tables e below s _ _ _ (T80.setTop (mkF m 152 #[.val (.int p1), .val (.long q1), .second, .val (.int (3 : Int32)), .val (.int c0), .val (.int c1), .val (.int c2), .val (.int c3), .val (.int c4), .val (.int c5), .val (.int c6), .val (.int c7), .val (.ref b70), .unset] []))
    refine own_go (fun t k => XS.iloadN X80.here hx rfl (hb hby at_152) rfl k) ?_
    show own_G p.tables e below s _ _ _ (T80.setTop (mkF m 153 #[.val (.int p1), .val (.long q1), .second, .val (.int (3 : Int32)), .val (.int c0), .val (.int c1), .val (.int c2), .val (.int c3), .val (.int c4), .val (.int c5), .val (.int c6), .val (.int c7), .val (.ref b70), .unset] [(.int (3 : Int32))]))
    refine own_go (fun t k => XS.bipush X80.here hx rfl (hb hby at_153) k) ?_
    show own_G p.tables e below s _ _ _ (T80.setTop (mkF m 155 #[.val (.int p1), .val (.long q1), .second, .val (.int (3 : Int32)), .val (.int c0), .val (.int c1), .val (.int c2), .val (.int c3), .val (.int c4), .val (.int c5), .val (.int c6), .val (.int c7), .val (.ref b70), .unset] [(.int (7 : Int32)), (.int (3 : Int32))]))
    refine own_go (fun t k => XS.icmpYes X80.here hx rfl (pc0 := 155) (pc' := 165) rfl (hb hby at_155) rfl (by decide) (by decide) (by decide) k) ?_
    show own_G p.tables e below s _ _ _ (T80.setTop (mkF m 165 #[.val (.int p1), .val (.long q1), .second, .val (.int (3 : Int32)), .val (.int c0), .val (.int c1), .val (.int c2), .val (.int c3), .val (.int c4), .val (.int c5), .val (.int c6), .val (.int c7), .val (.ref b70), .unset] []))
    refine own_go (fun t k => XS.iloadN X80.here hx rfl (hb hby at_165) rfl k) ?_
    show own_G p.tables e below s _ _ _ (T80.setTop (mkF m 166 #[.val (.int p1), .val (.long q1), .second, .val (.int (3 : Int32)), .val (.int c0), .val (.int c1), .val (.int c2), .val (.int c3), .val (.int c4), .val (.int c5), .val (.int c6), .val (.int c7), .val (.ref b70), .unset] [(.int (3 : Int32))]))
    refine own_go (fun t k => XS.ifNo X80.here hx rfl (hb hby at_166) rfl (by decide) k) ?_
    show own_G p.tables e below s _ _ _ (T80.setTop (mkF m 169 #[.val (.int p1), .val (.long q1), .second, .val (.int (3 : Int32)), .val (.int c0), .val (.int c1), .val (.int c2), .val (.int c3), .val (.int c4), .val (.int c5), .val (.int c6), .val (.int c7), .val (.ref b70), .unset] []))
    refine own_go (fun t k => XS.iload X80.here hx rfl (hb hby at_169) rfl k) ?_
    show own_G p.tables e below s _ _ _ (T80.setTop (mkF m 171 #[.val (.int p1), .val (.long q1), .second, .val (.int (3 : Int32)), .val (.int c0), .val (.int c1), .val (.int c2), .val (.int c3), .val (.int c4), .val (.int c5), .val (.int c6), .val (.int c7), .val (.ref b70), .unset] [(.int c0)]))
    obtain ⟨ex, hex⟩ : ∃ z, (if c0 < (0 : Int32) ∨ c1 < (0 : Int32) ∨ c2 < (0 : Int32) then (0 : Int32) else 1) = z := ⟨_, rfl⟩
    refine own_go (A := (T80.setTop (mkF m 251 #[.val (.int p1), .val (.long q1), .second, .val (.int (3 : Int32)), .val (.int c0), .val (.int c1), .val (.int c2), .val (.int c3), .val (.int c4), .val (.int c5), .val (.int c6), .val (.int c7), .val (.ref b70), .unset] [(.int ex)]))) (fun t k => ?_) ?_
    · show Steps p.tables e below (T80.setTop (mkF m 171 #[.val (.int p1), .val (.long q1), .second, .val (.int (3 : Int32)), .val (.int c0), .val (.int c1), .val (.int c2), .val (.int c3), .val (.int c4), .val (.int c5), .val (.int c6), .val (.int c7), .val (.ref b70), .unset] [(.int c0)])) _
      by_cases hn0 : c0 < (0 : Int32)
      · refine XS.ifYes X80.here hx rfl (pc0 := 171) (pc' := 250) rfl (hb hby at_171) rfl (Jvm.Free.XT.i0_lt_t hn0) (by decide) (by decide) ?_
        show Steps p.tables e below (T80.setTop (mkF m 250 #[.val (.int p1), .val (.long q1), .second, .val (.int (3 : Int32)), .val (.int c0), .val (.int c1), .val (.int c2), .val (.int c3), .val (.int c4), .val (.int c5), .val (.int c6), .val (.int c7), .val (.ref b70), .unset] [])) _
        refine XS.iconst X80.here hx rfl (hb hby at_250) ?_
        show Steps p.tables e below (T80.setTop (mkF m 251 #[.val (.int p1), .val (.long q1), .second, .val (.int (3 : Int32)), .val (.int c0), .val (.int c1), .val (.int c2), .val (.int c3), .val (.int c4), .val (.int c5), .val (.int c6), .val (.int c7), .val (.ref b70), .unset] [(.int (0 : Int32))])) _
        rw [← hex, if_pos (Or.inl hn0)] at k
        exact k
      · refine XS.ifNo X80.here hx rfl (hb hby at_171) rfl (Jvm.Free.XT.i0_lt_f hn0) ?_
        show Steps p.tables e below (T80.setTop (mkF m 174 #[.val (.int p1), .val (.long q1), .second, .val (.int (3 : Int32)), .val (.int c0), .val (.int c1), .val (.int c2), .val (.int c3), .val (.int c4), .val (.int c5), .val (.int c6), .val (.int c7), .val (.ref b70), .unset] [])) _
        refine XS.iloadN X80.here hx rfl (hb hby at_174) rfl ?_
        show Steps p.tables e below (T80.setTop (mkF m 175 #[.val (.int p1), .val (.long q1), .second, .val (.int (3 : Int32)), .val (.int c0), .val (.int c1), .val (.int c2), .val (.int c3), .val (.int c4), .val (.int c5), .val (.int c6), .val (.int c7), .val (.ref b70), .unset] [(.int (3 : Int32))])) _
        refine XS.iconst X80.here hx rfl (hb hby at_175) ?_
        show Steps p.tables e below (T80.setTop (mkF m 176 #[.val (.int p1), .val (.long q1), .second, .val (.int (3 : Int32)), .val (.int c0), .val (.int c1), .val (.int c2), .val (.int c3), .val (.int c4), .val (.int c5), .val (.int c6), .val (.int c7), .val (.ref b70), .unset] [(.int (1 : Int32)), (.int (3 : Int32))])) _
        refine XS.icmpNo X80.here hx rfl (hb hby at_176) rfl (by decide) ?_
        show Steps p.tables e below (T80.setTop (mkF m 179 #[.val (.int p1), .val (.long q1), .second, .val (.int (3 : Int32)), .val (.int c0), .val (.int c1), .val (.int c2), .val (.int c3), .val (.int c4), .val (.int c5), .val (.int c6), .val (.int c7), .val (.ref b70), .unset] [])) _
        refine XS.iload X80.here hx rfl (hb hby at_179) rfl ?_
        show Steps p.tables e below (T80.setTop (mkF m 181 #[.val (.int p1), .val (.long q1), .second, .val (.int (3 : Int32)), .val (.int c0), .val (.int c1), .val (.int c2), .val (.int c3), .val (.int c4), .val (.int c5), .val (.int c6), .val (.int c7), .val (.ref b70), .unset] [(.int c1)])) _
        by_cases hn1 : c1 < (0 : Int32)
        · refine XS.ifYes X80.here hx rfl (pc0 := 181) (pc' := 250) rfl (hb hby at_181) rfl (Jvm.Free.XT.i0_lt_t hn1) (by decide) (by decide) ?_
          show Steps p.tables e below (T80.setTop (mkF m 250 #[.val (.int p1), .val (.long q1), .second, .val (.int (3 : Int32)), .val (.int c0), .val (.int c1), .val (.int c2), .val (.int c3), .val (.int c4), .val (.int c5), .val (.int c6), .val (.int c7), .val (.ref b70), .unset] [])) _
          refine XS.iconst X80.here hx rfl (hb hby at_250) ?_
          show Steps p.tables e below (T80.setTop (mkF m 251 #[.val (.int p1), .val (.long q1), .second, .val (.int (3 : Int32)), .val (.int c0), .val (.int c1), .val (.int c2), .val (.int c3), .val (.int c4), .val (.int c5), .val (.int c6), .val (.int c7), .val (.ref b70), .unset] [(.int (0 : Int32))])) _
          rw [← hex, if_pos (Or.inr (Or.inl hn1))] at k
          exact k
        · refine XS.ifNo X80.here hx rfl (hb hby at_181) rfl (Jvm.Free.XT.i0_lt_f hn1) ?_
          show Steps p.tables e below (T80.setTop (mkF m 184 #[.val (.int p1), .val (.long q1), .second, .val (.int (3 : Int32)), .val (.int c0), .val (.int c1), .val (.int c2), .val (.int c3), .val (.int c4), .val (.int c5), .val (.int c6), .val (.int c7), .val (.ref b70), .unset] [])) _
          refine XS.iloadN X80.here hx rfl (hb hby at_184) rfl ?_
          show Steps p.tables e below (T80.setTop (mkF m 185 #[.val (.int p1), .val (.long q1), .second, .val (.int (3 : Int32)), .val (.int c0), .val (.int c1), .val (.int c2), .val (.int c3), .val (.int c4), .val (.int c5), .val (.int c6), .val (.int c7), .val (.ref b70), .unset] [(.int (3 : Int32))])) _
          refine XS.iconst X80.here hx rfl (hb hby at_185) ?_
          show Steps p.tables e below (T80.setTop (mkF m 186 #[.val (.int p1), .val (.long q1), .second, .val (.int (3 : Int32)), .val (.int c0), .val (.int c1), .val (.int c2), .val (.int c3), .val (.int c4), .val (.int c5), .val (.int c6), .val (.int c7), .val (.ref b70), .unset] [(.int (2 : Int32)), (.int (3 : Int32))])) _
          refine XS.icmpNo X80.here hx rfl (hb hby at_186) rfl (by decide) ?_
          show Steps p.tables e below (T80.setTop (mkF m 189 #[.val (.int p1), .val (.long q1), .second, .val (.int (3 : Int32)), .val (.int c0), .val (.int c1), .val (.int c2), .val (.int c3), .val (.int c4), .val (.int c5), .val (.int c6), .val (.int c7), .val (.ref b70), .unset] [])) _
          refine XS.iload X80.here hx rfl (hb hby at_189) rfl ?_
          show Steps p.tables e below (T80.setTop (mkF m 191 #[.val (.int p1), .val (.long q1), .second, .val (.int (3 : Int32)), .val (.int c0), .val (.int c1), .val (.int c2), .val (.int c3), .val (.int c4), .val (.int c5), .val (.int c6), .val (.int c7), .val (.ref b70), .unset] [(.int c2)])) _
          by_cases hn2 : c2 < (0 : Int32)
          · refine XS.ifYes X80.here hx rfl (pc0 := 191) (pc' := 250) rfl (hb hby at_191) rfl (Jvm.Free.XT.i0_lt_t hn2) (by decide) (by decide) ?_
            show Steps p.tables e below (T80.setTop (mkF m 250 #[.val (.int p1), .val (.long q1), .second, .val (.int (3 : Int32)), .val (.int c0), .val (.int c1), .val (.int c2), .val (.int c3), .val (.int c4), .val (.int c5), .val (.int c6), .val (.int c7), .val (.ref b70), .unset] [])) _
            refine XS.iconst X80.here hx rfl (hb hby at_250) ?_
            show Steps p.tables e below (T80.setTop (mkF m 251 #[.val (.int p1), .val (.long q1), .second, .val (.int (3 : Int32)), .val (.int c0), .val (.int c1), .val (.int c2), .val (.int c3), .val (.int c4), .val (.int c5), .val (.int c6), .val (.int c7), .val (.ref b70), .unset] [(.int (0 : Int32))])) _
            rw [← hex, if_pos (Or.inr (Or.inr (hn2)))] at k
            exact k
          · refine XS.ifNo X80.here hx rfl (hb hby at_191) rfl (Jvm.Free.XT.i0_lt_f hn2) ?_
            show Steps p.tables e below (T80.setTop (mkF m 194 #[.val (.int p1), .val (.long q1), .second, .val (.int (3 : Int32)), .val (.int c0), .val (.int c1), .val (.int c2), .val (.int c3), .val (.int c4), .val (.int c5), .val (.int c6), .val (.int c7), .val (.ref b70), .unset] [])) _
            refine XS.iloadN X80.here hx rfl (hb hby at_194) rfl ?_
            show Steps p.tables e below (T80.setTop (mkF m 195 #[.val (.int p1), .val (.long q1), .second, .val (.int (3 : Int32)), .val (.int c0), .val (.int c1), .val (.int c2), .val (.int c3), .val (.int c4), .val (.int c5), .val (.int c6), .val (.int c7), .val (.ref b70), .unset] [(.int (3 : Int32))])) _
            refine XS.iconst X80.here hx rfl (hb hby at_195) ?_
            show Steps p.tables e below (T80.setTop (mkF m 196 #[.val (.int p1), .val (.long q1), .second, .val (.int (3 : Int32)), .val (.int c0), .val (.int c1), .val (.int c2), .val (.int c3), .val (.int c4), .val (.int c5), .val (.int c6), .val (.int c7), .val (.ref b70), .unset] [(.int (3 : Int32)), (.int (3 : Int32))])) _
            refine XS.icmpYes X80.here hx rfl (pc0 := 196) (pc' := 204) rfl (hb hby at_196) rfl (by decide) (by decide) (by decide) ?_
            show Steps p.tables e below (T80.setTop (mkF m 204 #[.val (.int p1), .val (.long q1), .second, .val (.int (3 : Int32)), .val (.int c0), .val (.int c1), .val (.int c2), .val (.int c3), .val (.int c4), .val (.int c5), .val (.int c6), .val (.int c7), .val (.ref b70), .unset] [])) _
            refine XS.iloadN X80.here hx rfl (hb hby at_204) rfl ?_
            show Steps p.tables e below (T80.setTop (mkF m 205 #[.val (.int p1), .val (.long q1), .second, .val (.int (3 : Int32)), .val (.int c0), .val (.int c1), .val (.int c2), .val (.int c3), .val (.int c4), .val (.int c5), .val (.int c6), .val (.int c7), .val (.ref b70), .unset] [(.int (3 : Int32))])) _
            refine XS.iconst X80.here hx rfl (hb hby at_205) ?_
            show Steps p.tables e below (T80.setTop (mkF m 206 #[.val (.int p1), .val (.long q1), .second, .val (.int (3 : Int32)), .val (.int c0), .val (.int c1), .val (.int c2), .val (.int c3), .val (.int c4), .val (.int c5), .val (.int c6), .val (.int c7), .val (.ref b70), .unset] [(.int (4 : Int32)), (.int (3 : Int32))])) _
            refine XS.icmpYes X80.here hx rfl (pc0 := 206) (pc' := 214) rfl (hb hby at_206) rfl (by decide) (by decide) (by decide) ?_
            show Steps p.tables e below (T80.setTop (mkF m 214 #[.val (.int p1), .val (.long q1), .second, .val (.int (3 : Int32)), .val (.int c0), .val (.int c1), .val (.int c2), .val (.int c3), .val (.int c4), .val (.int c5), .val (.int c6), .val (.int c7), .val (.ref b70), .unset] [])) _
            refine XS.iloadN X80.here hx rfl (hb hby at_214) rfl ?_
            show Steps p.tables e below (T80.setTop (mkF m 215 #[.val (.int p1), .val (.long q1), .second, .val (.int (3 : Int32)), .val (.int c0), .val (.int c1), .val (.int c2), .val (.int c3), .val (.int c4), .val (.int c5), .val (.int c6), .val (.int c7), .val (.ref b70), .unset] [(.int (3 : Int32))])) _
            refine XS.iconst X80.here hx rfl (hb hby at_215) ?_
            show Steps p.tables e below (T80.setTop (mkF m 216 #[.val (.int p1), .val (.long q1), .second, .val (.int (3 : Int32)), .val (.int c0), .val (.int c1), .val (.int c2), .val (.int c3), .val (.int c4), .val (.int c5), .val (.int c6), .val (.int c7), .val (.ref b70), .unset] [(.int (5 : Int32)), (.int (3 : Int32))])) _
            refine XS.icmpYes X80.here hx rfl (pc0 := 216) (pc' := 224) rfl (hb hby at_216) rfl (by decide) (by decide) (by decide) ?_
            show Steps p.tables e below (T80.setTop (mkF m 224 #[.val (.int p1), .val (.long q1), .second, .val (.int (3 : Int32)), .val (.int c0), .val (.int c1), .val (.int c2), .val (.int c3), .val (.int c4), .val (.int c5), .val (.int c6), .val (.int c7), .val (.ref b70), .unset] [])) _
            refine XS.iloadN X80.here hx rfl (hb hby at_224) rfl ?_
            show Steps p.tables e below (T80.setTop (mkF m 225 #[.val (.int p1), .val (.long q1), .second, .val (.int (3 : Int32)), .val (.int c0), .val (.int c1), .val (.int c2), .val (.int c3), .val (.int c4), .val (.int c5), .val (.int c6), .val (.int c7), .val (.ref b70), .unset] [(.int (3 : Int32))])) _
            refine XS.bipush X80.here hx rfl (hb hby at_225) ?_
            show Steps p.tables e below (T80.setTop (mkF m 227 #[.val (.int p1), .val (.long q1), .second, .val (.int (3 : Int32)), .val (.int c0), .val (.int c1), .val (.int c2), .val (.int c3), .val (.int c4), .val (.int c5), .val (.int c6), .val (.int c7), .val (.ref b70), .unset] [(.int (6 : Int32)), (.int (3 : Int32))])) _
            refine XS.icmpYes X80.here hx rfl (pc0 := 227) (pc' := 235) rfl (hb hby at_227) rfl (by decide) (by decide) (by decide) ?_
            show Steps p.tables e below (T80.setTop (mkF m 235 #[.val (.int p1), .val (.long q1), .second, .val (.int (3 : Int32)), .val (.int c0), .val (.int c1), .val (.int c2), .val (.int c3), .val (.int c4), .val (.int c5), .val (.int c6), .val (.int c7), .val (.ref b70), .unset] [])) _
            refine XS.iloadN X80.here hx rfl (hb hby at_235) rfl ?_
            show Steps p.tables e below (T80.setTop (mkF m 236 #[.val (.int p1), .val (.long q1), .second, .val (.int (3 : Int32)), .val (.int c0), .val (.int c1), .val (.int c2), .val (.int c3), .val (.int c4), .val (.int c5), .val (.int c6), .val (.int c7), .val (.ref b70), .unset] [(.int (3 : Int32))])) _
            refine XS.bipush X80.here hx rfl (hb hby at_236) ?_
            show Steps p.tables e below (T80.setTop (mkF m 238 #[.val (.int p1), .val (.long q1), .second, .val (.int (3 : Int32)), .val (.int c0), .val (.int c1), .val (.int c2), .val (.int c3), .val (.int c4), .val (.int c5), .val (.int c6), .val (.int c7), .val (.ref b70), .unset] [(.int (7 : Int32)), (.int (3 : Int32))])) _
            refine XS.icmpYes X80.here hx rfl (pc0 := 238) (pc' := 246) rfl (hb hby at_238) rfl (by decide) (by decide) (by decide) ?_
            show Steps p.tables e below (T80.setTop (mkF m 246 #[.val (.int p1), .val (.long q1), .second, .val (.int (3 : Int32)), .val (.int c0), .val (.int c1), .val (.int c2), .val (.int c3), .val (.int c4), .val (.int c5), .val (.int c6), .val (.int c7), .val (.ref b70), .unset] [])) _
            refine XS.iconst X80.here hx rfl (hb hby at_246) ?_
            show Steps p.tables e below (T80.setTop (mkF m 247 #[.val (.int p1), .val (.long q1), .second, .val (.int (3 : Int32)), .val (.int c0), .val (.int c1), .val (.int c2), .val (.int c3), .val (.int c4), .val (.int c5), .val (.int c6), .val (.int c7), .val (.ref b70), .unset] [(.int (1 : Int32))])) _
            refine XS.goto X80.here hx rfl (pc0 := 247) (pc' := 251) rfl (hb hby at_247) (by decide) (by decide) ?_
            show Steps p.tables e below (T80.setTop (mkF m 251 #[.val (.int p1), .val (.long q1), .second, .val (.int (3 : Int32)), .val (.int c0), .val (.int c1), .val (.int c2), .val (.int c3), .val (.int c4), .val (.int c5), .val (.int c6), .val (.int c7), .val (.ref b70), .unset] [(.int (1 : Int32))])) _
            rw [← hex, if_neg (fun q => q.elim hn0 (fun q => q.elim hn1 hn2))] at k
            exact k
    show own_G p.tables e below s _ _ _ (T80.setTop (mkF m 251 #[.val (.int p1), .val (.long q1), .second, .val (.int (3 : Int32)), .val (.int c0), .val (.int c1), .val (.int c2), .val (.int c3), .val (.int c4), .val (.int c5), .val (.int c6), .val (.int c7), .val (.ref b70), .unset] [(.int ex)]))
    refine own_go (fun t k => XS.istore X80.here hx rfl (hb hby at_251) rfl (l' := #[.val (.int p1), .val (.long q1), .second, .val (.int (3 : Int32)), .val (.int c0), .val (.int c1), .val (.int c2), .val (.int c3), .val (.int c4), .val (.int c5), .val (.int c6), .val (.int c7), .val (.ref b70), .val (.int ex)]) rfl k) ?_
    show own_G p.tables e below s _ _ _ (T80.setTop (mkF m 253 #[.val (.int p1), .val (.long q1), .second, .val (.int (3 : Int32)), .val (.int c0), .val (.int c1), .val (.int c2), .val (.int c3), .val (.int c4), .val (.int c5), .val (.int c6), .val (.int c7), .val (.ref b70), .val (.int ex)] []))
    refine own_go (fun t k => XS.aload X80.here hx rfl (hb hby at_253) rfl rfl k) ?_
    show own_G p.tables e below s _ _ _ (T80.setTop (mkF m 255 #[.val (.int p1), .val (.long q1), .second, .val (.int (3 : Int32)), .val (.int c0), .val (.int c1), .val (.int c2), .val (.int c3), .val (.int c4), .val (.int c5), .val (.int c6), .val (.int c7), .val (.ref b70), .val (.int ex)] [(.ref b70)]))
    obtain ⟨_, _, ⟨T83, L83, k83, n83⟩, -, X83, ⟨Lc83, hQ83, l83, y83, z83⟩, st83⟩ := Jvm.LawKit.callS X80 hx (y := (⟨"com/example/cartulary/cartulary/model/Syntax", "isAscii", "([B)Z"⟩ : MethodName)) hown (mvT hZ (hw _ (List.mem_of_getElem? (i := 2) rfl))) (mvT hZ (hw _ (List.mem_of_getElem? (i := 3) rfl))) (mvT hZ (hw _ (List.mem_of_getElem? (i := 4) rfl))) (mvT hZ (hw _ (List.mem_of_getElem? (i := 5) rfl))) (by decide) (backOf (W := 0) (rm1_3 l Z a0 hw [] b70 k70 c0 c1 c2 ex h80 n0 z82 v81 hex) hZ (hw _ (List.mem_of_getElem? (i := 5) rfl)) (hw _ (List.mem_of_getElem? (i := 4) rfl)) (by decide) (by decide)) (g := (mkF m 255 #[.val (.int p1), .val (.long q1), .second, .val (.int (3 : Int32)), .val (.int c0), .val (.int c1), .val (.int c2), .val (.int c3), .val (.int c4), .val (.int c5), .val (.int c6), .val (.int c7), .val (.ref b70), .val (.int ex)] [(.ref b70)])) rfl (by rw [hml]; rfl) (argsL := [(.ref b70)]) (rest := []) (lenOf pd___B_Z rfl) rfl (by show 2 * 0 + _ ≤ _; exact Nat.le_of_eq rfl) (hb hby at_255) (fun _ _ => ⟨rfl, e80, (by decide : 1 + 0 ≤ _), (by decide : 3 + 0 ≤ _)⟩)
    dsimp only [Pt.U, Pt.locs, Pt.cells, Pt.slots] at X83 l83 y83 z83 st83 hQ83
    subst l83 y83 z83
    obtain ⟨rfl, N83q, hh83⟩ := hQ83
    have N83 := Fr.app N80 N83q
    refine own_go st83 ?_
    show own_G p.tables e below s _ _ _ (T83.setTop (mkF m 258 #[.val (.int p1), .val (.long q1), .second, .val (.int (3 : Int32)), .val (.int c0), .val (.int c1), .val (.int c2), .val (.int c3), .val (.int c4), .val (.int c5), .val (.int c6), .val (.int c7), .val (.ref b70), .val (.int ex)] [(.int ex)]))
    refine own_go (fun t k => XS.iload X83.here hx rfl (hb hby at_258) rfl k) ?_
    show own_G p.tables e below s _ _ _ (T83.setTop (mkF m 260 #[.val (.int p1), .val (.long q1), .second, .val (.int (3 : Int32)), .val (.int c0), .val (.int c1), .val (.int c2), .val (.int c3), .val (.int c4), .val (.int c5), .val (.int c6), .val (.int c7), .val (.ref b70), .val (.int ex)] [(.int ex), (.int ex)]))
    refine own_go (fun t k => XS.icmpNo X83.here hx rfl (hb hby at_260) rfl (Jvm.Free.XT.ii_ne_f rfl) k) ?_
    show own_G p.tables e below s _ _ _ (T83.setTop (mkF m 263 #[.val (.int p1), .val (.long q1), .second, .val (.int (3 : Int32)), .val (.int c0), .val (.int c1), .val (.int c2), .val (.int c3), .val (.int c4), .val (.int c5), .val (.int c6), .val (.int c7), .val (.ref b70), .val (.int ex)] []))
    refine own_go (fun t k => XS.iconst X83.here hx rfl (hb hby at_263) k) ?_
    show own_G p.tables e below s _ _ _ (T83.setTop (mkF m 264 #[.val (.int p1), .val (.long q1), .second, .val (.int (3 : Int32)), .val (.int c0), .val (.int c1), .val (.int c2), .val (.int c3), .val (.int c4), .val (.int c5), .val (.int c6), .val (.int c7), .val (.ref b70), .val (.int ex)] [(.int (1 : Int32))]))
    refine own_go (fun t k => XS.goto X83.here hx rfl (pc0 := 264) (pc' := 268) rfl (hb hby at_264) (by decide) (by decide) k) ?_
    show own_G p.tables e below s _ _ _ (T83.setTop (mkF m 268 #[.val (.int p1), .val (.long q1), .second, .val (.int (3 : Int32)), .val (.int c0), .val (.int c1), .val (.int c2), .val (.int c3), .val (.int c4), .val (.int c5), .val (.int c6), .val (.int c7), .val (.ref b70), .val (.int ex)] [(.int (1 : Int32))]))
    exact own_retN X83 hx hlk (t := .boolean) (z' := (1 : Int32)) Bd.returns (by simp) (hb hby at_268) (rfl) (by rw [hh83]; exact ⟨rfl, N83⟩) (by decide) (by decide)
  · show own_G p.tables e below s _ _ _ (s₁.setTop (mkF m 69 #[.val (.int p1), .val (.long q1), .second, .val (.int (4 : Int32)), .val (.int c0), .val (.int c1), .val (.int c2), .val (.int c3), .val (.int c4), .val (.int c5), .val (.int c6), .val (.int c7), .unset, .unset] []))
    refine own_go (fun t k => XS.iloadN X0.here hx rfl (hb hby at_69) rfl k) ?_
    show own_G p.tables e below s _ _ _ (s₁.setTop (mkF m 70 #[.val (.int p1), .val (.long q1), .second, .val (.int (4 : Int32)), .val (.int c0), .val (.int c1), .val (.int c2), .val (.int c3), .val (.int c4), .val (.int c5), .val (.int c6), .val (.int c7), .unset, .unset] [(.int (4 : Int32))]))
    obtain ⟨T84, h84, k84, X84, e84, E84, A84, st84⟩ := newP X0 hx hZ (hw _ (List.mem_of_getElem? (i := 1) rfl)) e0 (g := (mkF m 70 #[.val (.int p1), .val (.long q1), .second, .val (.int (4 : Int32)), .val (.int c0), .val (.int c1), .val (.int c2), .val (.int c3), .val (.int c4), .val (.int c5), .val (.int c6), .val (.int c7), .unset, .unset] [(.int (4 : Int32))])) rfl (hb hby at_70) rfl (by decide) (cap := 4) (by decide) (by decide) (by decide) (by decide)
    obtain ⟨b84, g84⟩ : ∃ z, z = h0.size := ⟨_, rfl⟩
    rw [← g84] at A84 st84
    refine own_go st84 ?_
    have g85 := Nat.le_trans Z0 (Nat.le_of_eq g84.symm)
    have z86 := Nat.le_trans Z0 E84.1
    have v87 : Arv Z h84 b84 k84 .byte (4 : Int32) [(.int (0 : Int32)), (.int (0 : Int32)), (.int (0 : Int32)), (.int (0 : Int32))] (.int (0 : Int32)) := (Arv.new A84 (by decide)).pad (pad_rep [] (.int (0 : Int32)) 4)
    show own_G p.tables e below s _ _ _ (T84.setTop (mkF m 72 #[.val (.int p1), .val (.long q1), .second, .val (.int (4 : Int32)), .val (.int c0), .val (.int c1), .val (.int c2), .val (.int c3), .val (.int c4), .val (.int c5), .val (.int c6), .val (.int c7), .unset, .unset] [(.ref b84)]))
    refine own_go (fun t k => XS.astore X84.here hx rfl (hb hby at_72) rfl rfl (l' := #[.val (.int p1), .val (.long q1), .second, .val (.int (4 : Int32)), .val (.int c0), .val (.int c1), .val (.int c2), .val (.int c3), .val (.int c4), .val (.int c5), .val (.int c6), .val (.int c7), .val (.ref b84), .unset]) rfl k) ?_
    show own_G p.tables e below s _ _ _ (T84.setTop (mkF m 74 #[.val (.int p1), .val (.long q1), .second, .val (.int (4 : Int32)), .val (.int c0), .val (.int c1), .val (.int c2), .val (.int c3), .val (.int c4), .val (.int c5), .val (.int c6), .val (.int c7), .val (.ref b84), .unset] []))
    refine own_go (fun t k => XS.iloadN X84.here hx rfl (hb hby at_74) rfl k) ?_
    show own_G p.tables e below s _ _ _ (T84.setTop (mkF m 75 #[.val (.int p1), .val (.long q1), .second, .val (.int (4 : Int32)), .val (.int c0), .val (.int c1), .val (.int c2), .val (.int c3), .val (.int c4), .val (.int c5), .val (.int c6), .val (.int c7), .val (.ref b84), .unset] [(.int (4 : Int32))]))
    refine own_go (fun t k => XS.ifNo X84.here hx rfl (hb hby at_75) rfl (by decide) k) ?_
    show own_G p.tables e below s _ _ _ (T84.setTop (mkF m 78 #[.val (.int p1), .val (.long q1), .second, .val (.int (4 : Int32)), .val (.int c0), .val (.int c1), .val (.int c2), .val (.int c3), .val (.int c4), .val (.int c5), .val (.int c6), .val (.int c7), .val (.ref b84), .unset] []))
    refine own_go (fun t k => XS.aload X84.here hx rfl (hb hby at_78) rfl rfl k) ?_
    show own_G p.tables e below s _ _ _ (T84.setTop (mkF m 80 #[.val (.int p1), .val (.long q1), .second, .val (.int (4 : Int32)), .val (.int c0), .val (.int c1), .val (.int c2), .val (.int c3), .val (.int c4), .val (.int c5), .val (.int c6), .val (.int c7), .val (.ref b84), .unset] [(.ref b84)]))
    refine own_go (fun t k => XS.iconst X84.here hx rfl (hb hby at_80) k) ?_
    show own_G p.tables e below s _ _ _ (T84.setTop (mkF m 81 #[.val (.int p1), .val (.long q1), .second, .val (.int (4 : Int32)), .val (.int c0), .val (.int c1), .val (.int c2), .val (.int c3), .val (.int c4), .val (.int c5), .val (.int c6), .val (.int c7), .val (.ref b84), .unset] [(.int (0 : Int32)), (.ref b84)]))
    refine own_go (fun t k => XS.iload X84.here hx rfl (hb hby at_81) rfl k) ?_
    show own_G p.tables e below s _ _ _ (T84.setTop (mkF m 83 #[.val (.int p1), .val (.long q1), .second, .val (.int (4 : Int32)), .val (.int c0), .val (.int c1), .val (.int c2), .val (.int c3), .val (.int c4), .val (.int c5), .val (.int c6), .val (.int c7), .val (.ref b84), .unset] [(.int c0), (.int (0 : Int32)), (.ref b84)]))
    obtain ⟨cl88, Ar88, q88, S88, NN88, HH88, GG88⟩ := v87
    have hin88 : ¬ ((0 : Int32) < 0 ∨ cl88.slots.size ≤ ((0 : Int32)).toNatClampNeg) := inb_of S88 ⟨by decide, by decide⟩
    obtain ⟨T88, h88, X88, e88, W88, st88⟩ := stB X84 hx hZ e84 Ar88 (j := (0 : Int32)) hin88 (g := (mkF m 83 #[.val (.int p1), .val (.long q1), .second, .val (.int (4 : Int32)), .val (.int c0), .val (.int c1), .val (.int c2), .val (.int c3), .val (.int c4), .val (.int c5), .val (.int c6), .val (.int c7), .val (.ref b84), .unset] [(.int c0), (.int (0 : Int32)), (.ref b84)])) rfl rfl (hb hby at_83)
    refine own_go st88 ?_
    have v89 : Arv Z h88 b84 k84 .byte (4 : Int32) [(.int (nar .byte c0)), (.int (0 : Int32)), (.int (0 : Int32)), (.int (0 : Int32))] (.int (0 : Int32)) := Arv.set Ar88 q88 S88 NN88 HH88 GG88 (fits_nar_byte _) W88 0 rfl (Nat.le_of_ble_eq_true rfl)
    rw [hb0] at v89
    have z90 := Nat.le_trans z86 (Keep.of_wr W88).1
    have N88 := Fr.snoc X88 N0 g85
    show own_G p.tables e below s _ _ _ (T88.setTop (mkF m 84 #[.val (.int p1), .val (.long q1), .second, .val (.int (4 : Int32)), .val (.int c0), .val (.int c1), .val (.int c2), .val (.int c3), .val (.int c4), .val (.int c5), .val (.int c6), .val (.int c7), .val (.ref b84), .unset] []))
    refine own_go (fun t k => XS.iloadN X88.here hx rfl (hb hby at_84) rfl k) ?_
    show own_G p.tables e below s _ _ _ (T88.setTop (mkF m 85 #[.val (.int p1), .val (.long q1), .second, .val (.int (4 : Int32)), .val (.int c0), .val (.int c1), .val (.int c2), .val (.int c3), .val (.int c4), .val (.int c5), .val (.int c6), .val (.int c7), .val (.ref b84), .unset] [(.int (4 : Int32))]))
    refine own_go (fun t k => XS.iconst X88.here hx rfl (hb hby at_85) k) ?_
    show own_G p.tables e below s _ _ _ (T88.setTop (mkF m 86 #[.val (.int p1), .val (.long q1), .second, .val (.int (4 : Int32)), .val (.int c0), .val (.int c1), .val (.int c2), .val (.int c3), .val (.int c4), .val (.int c5), .val (.int c6), .val (.int c7), .val (.ref b84), .unset] [(.int (1 : Int32)), (.int (4 : Int32))]))
    refine own_go (fun t k => XS.icmpNo X88.here hx rfl (hb hby at_86) rfl (by decide) k) ?_
    show own_G p.tables e below s _ _ _ (T88.setTop (mkF m 89 #[.val (.int p1), .val (.long q1), .second, .val (.int (4 : Int32)), .val (.int c0), .val (.int c1), .val (.int c2), .val (.int c3), .val (.int c4), .val (.int c5), .val (.int c6), .val (.int c7), .val (.ref b84), .unset] []))
    refine own_go (fun t k => XS.aload X88.here hx rfl (hb hby at_89) rfl rfl k) ?_
    show own_G p.tables e below s _ _ _ (T88.setTop (mkF m 91 #[.val (.int p1), .val (.long q1), .second, .val (.int (4 : Int32)), .val (.int c0), .val (.int c1), .val (.int c2), .val (.int c3), .val (.int c4), .val (.int c5), .val (.int c6), .val (.int c7), .val (.ref b84), .unset] [(.ref b84)]))
    refine own_go (fun t k => XS.iconst X88.here hx rfl (hb hby at_91) k) ?_
    show own_G p.tables e below s _ _ _ (T88.setTop (mkF m 92 #[.val (.int p1), .val (.long q1), .second, .val (.int (4 : Int32)), .val (.int c0), .val (.int c1), .val (.int c2), .val (.int c3), .val (.int c4), .val (.int c5), .val (.int c6), .val (.int c7), .val (.ref b84), .unset] [(.int (1 : Int32)), (.ref b84)]))
    refine own_go (fun t k => XS.iload X88.here hx rfl (hb hby at_92) rfl k) ?_
    show own_G p.tables e below s _ _ _ (T88.setTop (mkF m 94 #[.val (.int p1), .val (.long q1), .second, .val (.int (4 : Int32)), .val (.int c0), .val (.int c1), .val (.int c2), .val (.int c3), .val (.int c4), .val (.int c5), .val (.int c6), .val (.int c7), .val (.ref b84), .unset] [(.int c1), (.int (1 : Int32)), (.ref b84)]))
    obtain ⟨cl91, Ar91, q91, S91, NN91, HH91, GG91⟩ := v89
    have hin91 : ¬ ((1 : Int32) < 0 ∨ cl91.slots.size ≤ ((1 : Int32)).toNatClampNeg) := inb_of S91 ⟨by decide, by decide⟩
    obtain ⟨T91, h91, X91, e91, W91, st91⟩ := stB X88 hx hZ e88 Ar91 (j := (1 : Int32)) hin91 (g := (mkF m 94 #[.val (.int p1), .val (.long q1), .second, .val (.int (4 : Int32)), .val (.int c0), .val (.int c1), .val (.int c2), .val (.int c3), .val (.int c4), .val (.int c5), .val (.int c6), .val (.int c7), .val (.ref b84), .unset] [(.int c1), (.int (1 : Int32)), (.ref b84)])) rfl rfl (hb hby at_94)
    refine own_go st91 ?_
    have v92 : Arv Z h91 b84 k84 .byte (4 : Int32) [(.int c0), (.int (nar .byte c1)), (.int (0 : Int32)), (.int (0 : Int32))] (.int (0 : Int32)) := Arv.set Ar91 q91 S91 NN91 HH91 GG91 (fits_nar_byte _) W91 1 rfl (Nat.le_of_ble_eq_true rfl)
    rw [hb1] at v92
    have z93 := Nat.le_trans z90 (Keep.of_wr W91).1
    have N91 := Fr.snoc X91 N88 g85
    show own_G p.tables e below s _ _ _ (T91.setTop (mkF m 95 #[.val (.int p1), .val (.long q1), .second, .val (.int (4 : Int32)), .val (.int c0), .val (.int c1), .val (.int c2), .val (.int c3), .val (.int c4), .val (.int c5), .val (.int c6), .val (.int c7), .val (.ref b84), .unset] []))
    refine own_go (fun t k => XS.iloadN X91.here hx rfl (hb hby at_95) rfl k) ?_
    show own_G p.tables e below s _ _ _ (T91.setTop (mkF m 96 #[.val (.int p1), .val (.long q1), .second, .val (.int (4 : Int32)), .val (.int c0), .val (.int c1), .val (.int c2), .val (.int c3), .val (.int c4), .val (.int c5), .val (.int c6), .val (.int c7), .val (.ref b84), .unset] [(.int (4 : Int32))]))
    refine own_go (fun t k => XS.iconst X91.here hx rfl (hb hby at_96) k) ?_
    show own_G p.tables e below s _ _ _ (T91.setTop (mkF m 97 #[.val (.int p1), .val (.long q1), .second, .val (.int (4 : Int32)), .val (.int c0), .val (.int c1), .val (.int c2), .val (.int c3), .val (.int c4), .val (.int c5), .val (.int c6), .val (.int c7), .val (.ref b84), .unset] [(.int (2 : Int32)), (.int (4 : Int32))]))
    refine own_go (fun t k => XS.icmpNo X91.here hx rfl (hb hby at_97) rfl (by decide) k) ?_
    show own_G p.tables e below s _ _ _ (T91.setTop (mkF m 100 #[.val (.int p1), .val (.long q1), .second, .val (.int (4 : Int32)), .val (.int c0), .val (.int c1), .val (.int c2), .val (.int c3), .val (.int c4), .val (.int c5), .val (.int c6), .val (.int c7), .val (.ref b84), .unset] []))
    refine own_go (fun t k => XS.aload X91.here hx rfl (hb hby at_100) rfl rfl k) ?_
    show own_G p.tables e below s _ _ _ (T91.setTop (mkF m 102 #[.val (.int p1), .val (.long q1), .second, .val (.int (4 : Int32)), .val (.int c0), .val (.int c1), .val (.int c2), .val (.int c3), .val (.int c4), .val (.int c5), .val (.int c6), .val (.int c7), .val (.ref b84), .unset] [(.ref b84)]))
    refine own_go (fun t k => XS.iconst X91.here hx rfl (hb hby at_102) k) ?_
    show own_G p.tables e below s _ _ _ (T91.setTop (mkF m 103 #[.val (.int p1), .val (.long q1), .second, .val (.int (4 : Int32)), .val (.int c0), .val (.int c1), .val (.int c2), .val (.int c3), .val (.int c4), .val (.int c5), .val (.int c6), .val (.int c7), .val (.ref b84), .unset] [(.int (2 : Int32)), (.ref b84)]))
    refine own_go (fun t k => XS.iload X91.here hx rfl (hb hby at_103) rfl k) ?_
    show own_G p.tables e below s _ _ _ (T91.setTop (mkF m 105 #[.val (.int p1), .val (.long q1), .second, .val (.int (4 : Int32)), .val (.int c0), .val (.int c1), .val (.int c2), .val (.int c3), .val (.int c4), .val (.int c5), .val (.int c6), .val (.int c7), .val (.ref b84), .unset] [(.int c2), (.int (2 : Int32)), (.ref b84)]))
    obtain ⟨cl94, Ar94, q94, S94, NN94, HH94, GG94⟩ := v92
    have hin94 : ¬ ((2 : Int32) < 0 ∨ cl94.slots.size ≤ ((2 : Int32)).toNatClampNeg) := inb_of S94 ⟨by decide, by decide⟩
    obtain ⟨T94, h94, X94, e94, W94, st94⟩ := stB X91 hx hZ e91 Ar94 (j := (2 : Int32)) hin94 (g := (mkF m 105 #[.val (.int p1), .val (.long q1), .second, .val (.int (4 : Int32)), .val (.int c0), .val (.int c1), .val (.int c2), .val (.int c3), .val (.int c4), .val (.int c5), .val (.int c6), .val (.int c7), .val (.ref b84), .unset] [(.int c2), (.int (2 : Int32)), (.ref b84)])) rfl rfl (hb hby at_105)
    refine own_go st94 ?_
    have v95 : Arv Z h94 b84 k84 .byte (4 : Int32) [(.int c0), (.int c1), (.int (nar .byte c2)), (.int (0 : Int32))] (.int (0 : Int32)) := Arv.set Ar94 q94 S94 NN94 HH94 GG94 (fits_nar_byte _) W94 2 rfl (Nat.le_of_ble_eq_true rfl)
    rw [hb2] at v95
    have z96 := Nat.le_trans z93 (Keep.of_wr W94).1
    have N94 := Fr.snoc X94 N91 g85
    show own_G p.tables e below s _ _ _ (T94.setTop (mkF m 106 #[.val (.int p1), .val (.long q1), .second, .val (.int (4 : Int32)), .val (.int c0), .val (.int c1), .val (.int c2), .val (.int c3), .val (.int c4), .val (.int c5), .val (.int c6), .val (.int c7), .val (.ref b84), .unset] []))
    refine own_go (fun t k => XS.iloadN X94.here hx rfl (hb hby at_106) rfl k) ?_
    show own_G p.tables e below s _ _ _ (T94.setTop (mkF m 107 #[.val (.int p1), .val (.long q1), .second, .val (.int (4 : Int32)), .val (.int c0), .val (.int c1), .val (.int c2), .val (.int c3), .val (.int c4), .val (.int c5), .val (.int c6), .val (.int c7), .val (.ref b84), .unset] [(.int (4 : Int32))]))
    refine own_go (fun t k => XS.iconst X94.here hx rfl (hb hby at_107) k) ?_
    show own_G p.tables e below s _ _ _ (T94.setTop (mkF m 108 #[.val (.int p1), .val (.long q1), .second, .val (.int (4 : Int32)), .val (.int c0), .val (.int c1), .val (.int c2), .val (.int c3), .val (.int c4), .val (.int c5), .val (.int c6), .val (.int c7), .val (.ref b84), .unset] [(.int (3 : Int32)), (.int (4 : Int32))]))
    refine own_go (fun t k => XS.icmpNo X94.here hx rfl (hb hby at_108) rfl (by decide) k) ?_
    show own_G p.tables e below s _ _ _ (T94.setTop (mkF m 111 #[.val (.int p1), .val (.long q1), .second, .val (.int (4 : Int32)), .val (.int c0), .val (.int c1), .val (.int c2), .val (.int c3), .val (.int c4), .val (.int c5), .val (.int c6), .val (.int c7), .val (.ref b84), .unset] []))
    refine own_go (fun t k => XS.aload X94.here hx rfl (hb hby at_111) rfl rfl k) ?_
    show own_G p.tables e below s _ _ _ (T94.setTop (mkF m 113 #[.val (.int p1), .val (.long q1), .second, .val (.int (4 : Int32)), .val (.int c0), .val (.int c1), .val (.int c2), .val (.int c3), .val (.int c4), .val (.int c5), .val (.int c6), .val (.int c7), .val (.ref b84), .unset] [(.ref b84)]))
    refine own_go (fun t k => XS.iconst X94.here hx rfl (hb hby at_113) k) ?_
    show own_G p.tables e below s _ _ _ (T94.setTop (mkF m 114 #[.val (.int p1), .val (.long q1), .second, .val (.int (4 : Int32)), .val (.int c0), .val (.int c1), .val (.int c2), .val (.int c3), .val (.int c4), .val (.int c5), .val (.int c6), .val (.int c7), .val (.ref b84), .unset] [(.int (3 : Int32)), (.ref b84)]))
    refine own_go (fun t k => XS.iload X94.here hx rfl (hb hby at_114) rfl k) ?_
    show own_G p.tables e below s _ _ _ (T94.setTop (mkF m 116 #[.val (.int p1), .val (.long q1), .second, .val (.int (4 : Int32)), .val (.int c0), .val (.int c1), .val (.int c2), .val (.int c3), .val (.int c4), .val (.int c5), .val (.int c6), .val (.int c7), .val (.ref b84), .unset] [(.int c3), (.int (3 : Int32)), (.ref b84)]))
    obtain ⟨cl97, Ar97, q97, S97, NN97, HH97, GG97⟩ := v95
    have hin97 : ¬ ((3 : Int32) < 0 ∨ cl97.slots.size ≤ ((3 : Int32)).toNatClampNeg) := inb_of S97 ⟨by decide, by decide⟩
    obtain ⟨T97, h97, X97, e97, W97, st97⟩ := stB X94 hx hZ e94 Ar97 (j := (3 : Int32)) hin97 (g := (mkF m 116 #[.val (.int p1), .val (.long q1), .second, .val (.int (4 : Int32)), .val (.int c0), .val (.int c1), .val (.int c2), .val (.int c3), .val (.int c4), .val (.int c5), .val (.int c6), .val (.int c7), .val (.ref b84), .unset] [(.int c3), (.int (3 : Int32)), (.ref b84)])) rfl rfl (hb hby at_116)
    refine own_go st97 ?_
    have v98 : Arv Z h97 b84 k84 .byte (4 : Int32) [(.int c0), (.int c1), (.int c2), (.int (nar .byte c3))] (.int (0 : Int32)) := Arv.set Ar97 q97 S97 NN97 HH97 GG97 (fits_nar_byte _) W97 3 rfl (Nat.le_of_ble_eq_true rfl)
    rw [hb3] at v98
    have z99 := Nat.le_trans z96 (Keep.of_wr W97).1
    have N97 := Fr.snoc X97 N94 g85
    show own_G p.tables e below s _ _ _ (T97.setTop (mkF m 117 #[.val (.int p1), .val (.long q1), .second, .val (.int (4 : Int32)), .val (.int c0), .val (.int c1), .val (.int c2), .val (.int c3), .val (.int c4), .val (.int c5), .val (.int c6), .val (.int c7), .val (.ref b84), .unset] []))
    refine own_go (fun t k => XS.iloadN X97.here hx rfl (hb hby at_117) rfl k) ?_
    show own_G p.tables e below s _ _ _ (T97.setTop (mkF m 118 #[.val (.int p1), .val (.long q1), .second, .val (.int (4 : Int32)), .val (.int c0), .val (.int c1), .val (.int c2), .val (.int c3), .val (.int c4), .val (.int c5), .val (.int c6), .val (.int c7), .val (.ref b84), .unset] [(.int (4 : Int32))]))
    refine own_go (fun t k => XS.iconst X97.here hx rfl (hb hby at_118) k) ?_
    show own_G p.tables e below s _ _ _ (T97.setTop (mkF m 119 #[.val (.int p1), .val (.long q1), .second, .val (.int (4 : Int32)), .val (.int c0), .val (.int c1), .val (.int c2), .val (.int c3), .val (.int c4), .val (.int c5), .val (.int c6), .val (.int c7), .val (.ref b84), .unset] [(.int (4 : Int32)), (.int (4 : Int32))]))
    refine own_go (fun t k => XS.icmpYes X97.here hx rfl (pc0 := 119) (pc' := 128) rfl (hb hby at_119) rfl (by decide) (by decide) (by decide) k) ?_
    show own_G p.tables e below s _ _ _ (T97.setTop (mkF m 128 #[.val (.int p1), .val (.long q1), .second, .val (.int (4 : Int32)), .val (.int c0), .val (.int c1), .val (.int c2), .val (.int c3), .val (.int c4), .val (.int c5), .val (.int c6), .val (.int c7), .val (.ref b84), .unset] []))
    refine own_go (fun t k => XS.iloadN X97.here hx rfl (hb hby at_128) rfl k) ?_
    show own_G p.tables e below s _ _ _ (T97.setTop (mkF m 129 #[.val (.int p1), .val (.long q1), .second, .val (.int (4 : Int32)), .val (.int c0), .val (.int c1), .val (.int c2), .val (.int c3), .val (.int c4), .val (.int c5), .val (.int c6), .val (.int c7), .val (.ref b84), .unset] [(.int (4 : Int32))]))
    refine own_go (fun t k => XS.iconst X97.here hx rfl (hb hby at_129) k) ?_
    show own_G p.tables e below s _ _ _ (T97.setTop (mkF m 130 #[.val (.int p1), .val (.long q1), .second, .val (.int (4 : Int32)), .val (.int c0), .val (.int c1), .val (.int c2), .val (.int c3), .val (.int c4), .val (.int c5), .val (.int c6), .val (.int c7), .val (.ref b84), .unset] [(.int (5 : Int32)), (.int (4 : Int32))]))
    refine own_go (fun t k => XS.icmpYes X97.here hx rfl (pc0 := 130) (pc' := 139) rfl (hb hby at_130) rfl (by decide) (by decide) (by decide) k) ?_
    show own_G p.tables e below s _ _ _ (T97.setTop (mkF m 139 #[.val (.int p1), .val (.long q1), .second, .val (.int (4 : Int32)), .val (.int c0), .val (.int c1), .val (.int c2), .val (.int c3), .val (.int c4), .val (.int c5), .val (.int c6), .val (.int c7), .val (.ref b84), .unset] []))
    refine own_go (fun t k => XS.iloadN X97.here hx rfl (hb hby at_139) rfl k) ?_
    show own_G p.tables e below s _ _ _ (T97.setTop (mkF m 140 #[.val (.int p1), .val (.long q1), .second, .val (.int (4 : Int32)), .val (.int c0), .val (.int c1), .val (.int c2), .val (.int c3), .val (.int c4), .val (.int c5), .val (.int c6), .val (.int c7), .val (.ref b84), .unset] [(.int (4 : Int32))]))
    refine own_go (fun t k => XS.bipush X97.here hx rfl (hb hby at_140) k) ?_
    show own_G p.tables e below s _ _ _ (T97.setTop (mkF m 142 #[.val (.int p1), .val (.long q1), .second, .val (.int (4 : Int32)), .val (.int c0), .val (.int c1), .val (.int c2), .val (.int c3), .val (.int c4), .val (.int c5), .val (.int c6), .val (.int c7), .val (.ref b84), .unset] [(.int (6 : Int32)), (.int (4 : Int32))]))
    refine own_go (fun t k => XS.icmpYes X97.here hx rfl (pc0 := 142) (pc' := 152) rfl (hb hby at_142) rfl (by decide) (by decide) (by decide) k) ?_
    show own_G p.tables e below s _ _ _ (T97.setTop (mkF m 152 #[.val (.int p1), .val (.long q1), .second, .val (.int (4 : Int32)), .val (.int c0), .val (.int c1), .val (.int c2), .val (.int c3), .val (.int c4), .val (.int c5), .val (.int c6), .val (.int c7), .val (.ref b84), .unset] []))
    refine own_go (fun t k => XS.iloadN X97.here hx rfl (hb hby at_152) rfl k) ?_
    show own_G p.tables e below s _ _ _ (T97.setTop (mkF m 153 #[.val (.int p1), .val (.long q1), .second, .val (.int (4 : Int32)), .val (.int c0), .val (.int c1), .val (.int c2), .val (.int c3), .val (.int c4), .val (.int c5), .val (.int c6), .val (.int c7), .val (.ref b84), .unset] [(.int (4 : Int32))]))
    refine own_go (fun t k => XS.bipush X97.here hx rfl (hb hby at_153) k) ?_
    show own_G p.tables e below s _ _ _ (T97.setTop (mkF m 155 #[.val (.int p1), .val (.long q1), .second, .val (.int (4 : Int32)), .val (.int c0), .val (.int c1), .val (.int c2), .val (.int c3), .val (.int c4), .val (.int c5), .val (.int c6), .val (.int c7), .val (.ref b84), .unset] [(.int (7 : Int32)), (.int (4 : Int32))]))
    refine own_go (fun t k => XS.icmpYes X97.here hx rfl (pc0 := 155) (pc' := 165) rfl (hb hby at_155) rfl (by decide) (by decide) (by decide) k) ?_
    show own_G p.tables e below s _ _ _ (T97.setTop (mkF m 165 #[.val (.int p1), .val (.long q1), .second, .val (.int (4 : Int32)), .val (.int c0), .val (.int c1), .val (.int c2), .val (.int c3), .val (.int c4), .val (.int c5), .val (.int c6), .val (.int c7), .val (.ref b84), .unset] []))
    refine own_go (fun t k => XS.iloadN X97.here hx rfl (hb hby at_165) rfl k) ?_
    show own_G p.tables e below s _ _ _ (T97.setTop (mkF m 166 #[.val (.int p1), .val (.long q1), .second, .val (.int (4 : Int32)), .val (.int c0), .val (.int c1), .val (.int c2), .val (.int c3), .val (.int c4), .val (.int c5), .val (.int c6), .val (.int c7), .val (.ref b84), .unset] [(.int (4 : Int32))]))
    refine own_go (fun t k => XS.ifNo X97.here hx rfl (hb hby at_166) rfl (by decide) k) ?_
    show own_G p.tables e below s _ _ _ (T97.setTop (mkF m 169 #[.val (.int p1), .val (.long q1), .second, .val (.int (4 : Int32)), .val (.int c0), .val (.int c1), .val (.int c2), .val (.int c3), .val (.int c4), .val (.int c5), .val (.int c6), .val (.int c7), .val (.ref b84), .unset] []))
    refine own_go (fun t k => XS.iload X97.here hx rfl (hb hby at_169) rfl k) ?_
    show own_G p.tables e below s _ _ _ (T97.setTop (mkF m 171 #[.val (.int p1), .val (.long q1), .second, .val (.int (4 : Int32)), .val (.int c0), .val (.int c1), .val (.int c2), .val (.int c3), .val (.int c4), .val (.int c5), .val (.int c6), .val (.int c7), .val (.ref b84), .unset] [(.int c0)]))
    obtain ⟨ex, hex⟩ : ∃ z, (if c0 < (0 : Int32) ∨ c1 < (0 : Int32) ∨ c2 < (0 : Int32) ∨ c3 < (0 : Int32) then (0 : Int32) else 1) = z := ⟨_, rfl⟩
    refine own_go (A := (T97.setTop (mkF m 251 #[.val (.int p1), .val (.long q1), .second, .val (.int (4 : Int32)), .val (.int c0), .val (.int c1), .val (.int c2), .val (.int c3), .val (.int c4), .val (.int c5), .val (.int c6), .val (.int c7), .val (.ref b84), .unset] [(.int ex)]))) (fun t k => ?_) ?_
    · show Steps p.tables e below (T97.setTop (mkF m 171 #[.val (.int p1), .val (.long q1), .second, .val (.int (4 : Int32)), .val (.int c0), .val (.int c1), .val (.int c2), .val (.int c3), .val (.int c4), .val (.int c5), .val (.int c6), .val (.int c7), .val (.ref b84), .unset] [(.int c0)])) _
      by_cases hn0 : c0 < (0 : Int32)
      · refine XS.ifYes X97.here hx rfl (pc0 := 171) (pc' := 250) rfl (hb hby at_171) rfl (Jvm.Free.XT.i0_lt_t hn0) (by decide) (by decide) ?_
        show Steps p.tables e below (T97.setTop (mkF m 250 #[.val (.int p1), .val (.long q1), .second, .val (.int (4 : Int32)), .val (.int c0), .val (.int c1), .val (.int c2), .val (.int c3), .val (.int c4), .val (.int c5), .val (.int c6), .val (.int c7), .val (.ref b84), .unset] [])) _
        refine XS.iconst X97.here hx rfl (hb hby at_250) ?_
        show Steps p.tables e below (T97.setTop (mkF m 251 #[.val (.int p1), .val (.long q1), .second, .val (.int (4 : Int32)), .val (.int c0), .val (.int c1), .val (.int c2), .val (.int c3), .val (.int c4), .val (.int c5), .val (.int c6), .val (.int c7), .val (.ref b84), .unset] [(.int (0 : Int32))])) _
        rw [← hex, if_pos (Or.inl hn0)] at k
        exact k
      · refine XS.ifNo X97.here hx rfl (hb hby at_171) rfl (Jvm.Free.XT.i0_lt_f hn0) ?_
        show Steps p.tables e below (T97.setTop (mkF m 174 #[.val (.int p1), .val (.long q1), .second, .val (.int (4 : Int32)), .val (.int c0), .val (.int c1), .val (.int c2), .val (.int c3), .val (.int c4), .val (.int c5), .val (.int c6), .val (.int c7), .val (.ref b84), .unset] [])) _
        refine XS.iloadN X97.here hx rfl (hb hby at_174) rfl ?_
        show Steps p.tables e below (T97.setTop (mkF m 175 #[.val (.int p1), .val (.long q1), .second, .val (.int (4 : Int32)), .val (.int c0), .val (.int c1), .val (.int c2), .val (.int c3), .val (.int c4), .val (.int c5), .val (.int c6), .val (.int c7), .val (.ref b84), .unset] [(.int (4 : Int32))])) _
        refine XS.iconst X97.here hx rfl (hb hby at_175) ?_
        show Steps p.tables e below (T97.setTop (mkF m 176 #[.val (.int p1), .val (.long q1), .second, .val (.int (4 : Int32)), .val (.int c0), .val (.int c1), .val (.int c2), .val (.int c3), .val (.int c4), .val (.int c5), .val (.int c6), .val (.int c7), .val (.ref b84), .unset] [(.int (1 : Int32)), (.int (4 : Int32))])) _
        refine XS.icmpNo X97.here hx rfl (hb hby at_176) rfl (by decide) ?_
        show Steps p.tables e below (T97.setTop (mkF m 179 #[.val (.int p1), .val (.long q1), .second, .val (.int (4 : Int32)), .val (.int c0), .val (.int c1), .val (.int c2), .val (.int c3), .val (.int c4), .val (.int c5), .val (.int c6), .val (.int c7), .val (.ref b84), .unset] [])) _
        refine XS.iload X97.here hx rfl (hb hby at_179) rfl ?_
        show Steps p.tables e below (T97.setTop (mkF m 181 #[.val (.int p1), .val (.long q1), .second, .val (.int (4 : Int32)), .val (.int c0), .val (.int c1), .val (.int c2), .val (.int c3), .val (.int c4), .val (.int c5), .val (.int c6), .val (.int c7), .val (.ref b84), .unset] [(.int c1)])) _
        by_cases hn1 : c1 < (0 : Int32)
        · refine XS.ifYes X97.here hx rfl (pc0 := 181) (pc' := 250) rfl (hb hby at_181) rfl (Jvm.Free.XT.i0_lt_t hn1) (by decide) (by decide) ?_
          show Steps p.tables e below (T97.setTop (mkF m 250 #[.val (.int p1), .val (.long q1), .second, .val (.int (4 : Int32)), .val (.int c0), .val (.int c1), .val (.int c2), .val (.int c3), .val (.int c4), .val (.int c5), .val (.int c6), .val (.int c7), .val (.ref b84), .unset] [])) _
          refine XS.iconst X97.here hx rfl (hb hby at_250) ?_
          show Steps p.tables e below (T97.setTop (mkF m 251 #[.val (.int p1), .val (.long q1), .second, .val (.int (4 : Int32)), .val (.int c0), .val (.int c1), .val (.int c2), .val (.int c3), .val (.int c4), .val (.int c5), .val (.int c6), .val (.int c7), .val (.ref b84), .unset] [(.int (0 : Int32))])) _
          rw [← hex, if_pos (Or.inr (Or.inl hn1))] at k
          exact k
        · refine XS.ifNo X97.here hx rfl (hb hby at_181) rfl (Jvm.Free.XT.i0_lt_f hn1) ?_
          show Steps p.tables e below (T97.setTop (mkF m 184 #[.val (.int p1), .val (.long q1), .second, .val (.int (4 : Int32)), .val (.int c0), .val (.int c1), .val (.int c2), .val (.int c3), .val (.int c4), .val (.int c5), .val (.int c6), .val (.int c7), .val (.ref b84), .unset] [])) _
          refine XS.iloadN X97.here hx rfl (hb hby at_184) rfl ?_
          show Steps p.tables e below (T97.setTop (mkF m 185 #[.val (.int p1), .val (.long q1), .second, .val (.int (4 : Int32)), .val (.int c0), .val (.int c1), .val (.int c2), .val (.int c3), .val (.int c4), .val (.int c5), .val (.int c6), .val (.int c7), .val (.ref b84), .unset] [(.int (4 : Int32))])) _
          refine XS.iconst X97.here hx rfl (hb hby at_185) ?_
          show Steps p.tables e below (T97.setTop (mkF m 186 #[.val (.int p1), .val (.long q1), .second, .val (.int (4 : Int32)), .val (.int c0), .val (.int c1), .val (.int c2), .val (.int c3), .val (.int c4), .val (.int c5), .val (.int c6), .val (.int c7), .val (.ref b84), .unset] [(.int (2 : Int32)), (.int (4 : Int32))])) _
          refine XS.icmpNo X97.here hx rfl (hb hby at_186) rfl (by decide) ?_
          show Steps p.tables e below (T97.setTop (mkF m 189 #[.val (.int p1), .val (.long q1), .second, .val (.int (4 : Int32)), .val (.int c0), .val (.int c1), .val (.int c2), .val (.int c3), .val (.int c4), .val (.int c5), .val (.int c6), .val (.int c7), .val (.ref b84), .unset] [])) _
          refine XS.iload X97.here hx rfl (hb hby at_189) rfl ?_
          show Steps p.tables e below (T97.setTop (mkF m 191 #[.val (.int p1), .val (.long q1), .second, .val (.int (4 : Int32)), .val (.int c0), .val (.int c1), .val (.int c2), .val (.int c3), .val (.int c4), .val (.int c5), .val (.int c6), .val (.int c7), .val (.ref b84), .unset] [(.int c2)])) _
          by_cases hn2 : c2 < (0 : Int32)
          · refine XS.ifYes X97.here hx rfl (pc0 := 191) (pc' := 250) rfl (hb hby at_191) rfl (Jvm.Free.XT.i0_lt_t hn2) (by decide) (by decide) ?_
            show Steps p.tables e below (T97.setTop (mkF m 250 #[.val (.int p1), .val (.long q1), .second, .val (.int (4 : Int32)), .val (.int c0), .val (.int c1), .val (.int c2), .val (.int c3), .val (.int c4), .val (.int c5), .val (.int c6), .val (.int c7), .val (.ref b84), .unset] [])) _
            refine XS.iconst X97.here hx rfl (hb hby at_250) ?_
            show Steps p.tables e below (T97.setTop (mkF m 251 #[.val (.int p1), .val (.long q1), .second, .val (.int (4 : Int32)), .val (.int c0), .val (.int c1), .val (.int c2), .val (.int c3), .val (.int c4), .val (.int c5), .val (.int c6), .val (.int c7), .val (.ref b84), .unset] [(.int (0 : Int32))])) _
            rw [← hex, if_pos (Or.inr (Or.inr (Or.inl hn2)))] at k
            exact k
          · refine XS.ifNo X97.here hx rfl (hb hby at_191) rfl (Jvm.Free.XT.i0_lt_f hn2) ?_
            show Steps p.tables e below (T97.setTop (mkF m 194 #[.val (.int p1), .val (.long q1), .second, .val (.int (4 : Int32)), .val (.int c0), .val (.int c1), .val (.int c2), .val (.int c3), .val (.int c4), .val (.int c5), .val (.int c6), .val (.int c7), .val (.ref b84), .unset] [])) _
            refine XS.iloadN X97.here hx rfl (hb hby at_194) rfl ?_
            show Steps p.tables e below (T97.setTop (mkF m 195 #[.val (.int p1), .val (.long q1), .second, .val (.int (4 : Int32)), .val (.int c0), .val (.int c1), .val (.int c2), .val (.int c3), .val (.int c4), .val (.int c5), .val (.int c6), .val (.int c7), .val (.ref b84), .unset] [(.int (4 : Int32))])) _
            refine XS.iconst X97.here hx rfl (hb hby at_195) ?_
            show Steps p.tables e below (T97.setTop (mkF m 196 #[.val (.int p1), .val (.long q1), .second, .val (.int (4 : Int32)), .val (.int c0), .val (.int c1), .val (.int c2), .val (.int c3), .val (.int c4), .val (.int c5), .val (.int c6), .val (.int c7), .val (.ref b84), .unset] [(.int (3 : Int32)), (.int (4 : Int32))])) _
            refine XS.icmpNo X97.here hx rfl (hb hby at_196) rfl (by decide) ?_
            show Steps p.tables e below (T97.setTop (mkF m 199 #[.val (.int p1), .val (.long q1), .second, .val (.int (4 : Int32)), .val (.int c0), .val (.int c1), .val (.int c2), .val (.int c3), .val (.int c4), .val (.int c5), .val (.int c6), .val (.int c7), .val (.ref b84), .unset] [])) _
            refine XS.iload X97.here hx rfl (hb hby at_199) rfl ?_
            show Steps p.tables e below (T97.setTop (mkF m 201 #[.val (.int p1), .val (.long q1), .second, .val (.int (4 : Int32)), .val (.int c0), .val (.int c1), .val (.int c2), .val (.int c3), .val (.int c4), .val (.int c5), .val (.int c6), .val (.int c7), .val (.ref b84), .unset] [(.int c3)])) _
            by_cases hn3 : c3 < (0 : Int32)
            · refine XS.ifYes X97.here hx rfl (pc0 := 201) (pc' := 250) rfl (hb hby at_201) rfl (Jvm.Free.XT.i0_lt_t hn3) (by decide) (by decide) ?_
              show Steps p.tables e below (T97.setTop (mkF m 250 #[.val (.int p1), .val (.long q1), .second, .val (.int (4 : Int32)), .val (.int c0), .val (.int c1), .val (.int c2), .val (.int c3), .val (.int c4), .val (.int c5), .val (.int c6), .val (.int c7), .val (.ref b84), .unset] [])) _
              refine XS.iconst X97.here hx rfl (hb hby at_250) ?_
              show Steps p.tables e below (T97.setTop (mkF m 251 #[.val (.int p1), .val (.long q1), .second, .val (.int (4 : Int32)), .val (.int c0), .val (.int c1), .val (.int c2), .val (.int c3), .val (.int c4), .val (.int c5), .val (.int c6), .val (.int c7), .val (.ref b84), .unset] [(.int (0 : Int32))])) _
              rw [← hex, if_pos (Or.inr (Or.inr (Or.inr (hn3))))] at k
              exact k
            · refine XS.ifNo X97.here hx rfl (hb hby at_201) rfl (Jvm.Free.XT.i0_lt_f hn3) ?_
              show Steps p.tables e below (T97.setTop (mkF m 204 #[.val (.int p1), .val (.long q1), .second, .val (.int (4 : Int32)), .val (.int c0), .val (.int c1), .val (.int c2), .val (.int c3), .val (.int c4), .val (.int c5), .val (.int c6), .val (.int c7), .val (.ref b84), .unset] [])) _
              refine XS.iloadN X97.here hx rfl (hb hby at_204) rfl ?_
              show Steps p.tables e below (T97.setTop (mkF m 205 #[.val (.int p1), .val (.long q1), .second, .val (.int (4 : Int32)), .val (.int c0), .val (.int c1), .val (.int c2), .val (.int c3), .val (.int c4), .val (.int c5), .val (.int c6), .val (.int c7), .val (.ref b84), .unset] [(.int (4 : Int32))])) _
              refine XS.iconst X97.here hx rfl (hb hby at_205) ?_
              show Steps p.tables e below (T97.setTop (mkF m 206 #[.val (.int p1), .val (.long q1), .second, .val (.int (4 : Int32)), .val (.int c0), .val (.int c1), .val (.int c2), .val (.int c3), .val (.int c4), .val (.int c5), .val (.int c6), .val (.int c7), .val (.ref b84), .unset] [(.int (4 : Int32)), (.int (4 : Int32))])) _
              refine XS.icmpYes X97.here hx rfl (pc0 := 206) (pc' := 214) rfl (hb hby at_206) rfl (by decide) (by decide) (by decide) ?_
              show Steps p.tables e below (T97.setTop (mkF m 214 #[.val (.int p1), .val (.long q1), .second, .val (.int (4 : Int32)), .val (.int c0), .val (.int c1), .val (.int c2), .val (.int c3), .val (.int c4), .val (.int c5), .val (.int c6), .val (.int c7), .val (.ref b84), .unset] [])) _
              refine XS.iloadN X97.here hx rfl (hb hby at_214) rfl ?_
              show Steps p.tables e below (T97.setTop (mkF m 215 #[.val (.int p1), .val (.long q1), .second, .val (.int (4 : Int32)), .val (.int c0), .val (.int c1), .val (.int c2), .val (.int c3), .val (.int c4), .val (.int c5), .val (.int c6), .val (.int c7), .val (.ref b84), .unset] [(.int (4 : Int32))])) _
              refine XS.iconst X97.here hx rfl (hb hby at_215) ?_
              show Steps p.tables e below (T97.setTop (mkF m 216 #[.val (.int p1), .val (.long q1), .second, .val (.int (4 : Int32)), .val (.int c0), .val (.int c1), .val (.int c2), .val (.int c3), .val (.int c4), .val (.int c5), .val (.int c6), .val (.int c7), .val (.ref b84), .unset] [(.int (5 : Int32)), (.int (4 : Int32))])) _
              refine XS.icmpYes X97.here hx rfl (pc0 := 216) (pc' := 224) rfl (hb hby at_216) rfl (by decide) (by decide) (by decide) ?_
              show Steps p.tables e below (T97.setTop (mkF m 224 #[.val (.int p1), .val (.long q1), .second, .val (.int (4 : Int32)), .val (.int c0), .val (.int c1), .val (.int c2), .val (.int c3), .val (.int c4), .val (.int c5), .val (.int c6), .val (.int c7), .val (.ref b84), .unset] [])) _
              refine XS.iloadN X97.here hx rfl (hb hby at_224) rfl ?_
              show Steps p.tables e below (T97.setTop (mkF m 225 #[.val (.int p1), .val (.long q1), .second, .val (.int (4 : Int32)), .val (.int c0), .val (.int c1), .val (.int c2), .val (.int c3), .val (.int c4), .val (.int c5), .val (.int c6), .val (.int c7), .val (.ref b84), .unset] [(.int (4 : Int32))])) _
              refine XS.bipush X97.here hx rfl (hb hby at_225) ?_
              show Steps p.tables e below (T97.setTop (mkF m 227 #[.val (.int p1), .val (.long q1), .second, .val (.int (4 : Int32)), .val (.int c0), .val (.int c1), .val (.int c2), .val (.int c3), .val (.int c4), .val (.int c5), .val (.int c6), .val (.int c7), .val (.ref b84), .unset] [(.int (6 : Int32)), (.int (4 : Int32))])) _
              refine XS.icmpYes X97.here hx rfl (pc0 := 227) (pc' := 235) rfl (hb hby at_227) rfl (by decide) (by decide) (by decide) ?_
              show Steps p.tables e below (T97.setTop (mkF m 235 #[.val (.int p1), .val (.long q1), .second, .val (.int (4 : Int32)), .val (.int c0), .val (.int c1), .val (.int c2), .val (.int c3), .val (.int c4), .val (.int c5), .val (.int c6), .val (.int c7), .val (.ref b84), .unset] [])) _
              refine XS.iloadN X97.here hx rfl (hb hby at_235) rfl ?_
              show Steps p.tables e below (T97.setTop (mkF m 236 #[.val (.int p1), .val (.long q1), .second, .val (.int (4 : Int32)), .val (.int c0), .val (.int c1), .val (.int c2), .val (.int c3), .val (.int c4), .val (.int c5), .val (.int c6), .val (.int c7), .val (.ref b84), .unset] [(.int (4 : Int32))])) _
              refine XS.bipush X97.here hx rfl (hb hby at_236) ?_
              show Steps p.tables e below (T97.setTop (mkF m 238 #[.val (.int p1), .val (.long q1), .second, .val (.int (4 : Int32)), .val (.int c0), .val (.int c1), .val (.int c2), .val (.int c3), .val (.int c4), .val (.int c5), .val (.int c6), .val (.int c7), .val (.ref b84), .unset] [(.int (7 : Int32)), (.int (4 : Int32))])) _
              refine XS.icmpYes X97.here hx rfl (pc0 := 238) (pc' := 246) rfl (hb hby at_238) rfl (by decide) (by decide) (by decide) ?_
              show Steps p.tables e below (T97.setTop (mkF m 246 #[.val (.int p1), .val (.long q1), .second, .val (.int (4 : Int32)), .val (.int c0), .val (.int c1), .val (.int c2), .val (.int c3), .val (.int c4), .val (.int c5), .val (.int c6), .val (.int c7), .val (.ref b84), .unset] [])) _
              refine XS.iconst X97.here hx rfl (hb hby at_246) ?_
              show Steps p.tables e below (T97.setTop (mkF m 247 #[.val (.int p1), .val (.long q1), .second, .val (.int (4 : Int32)), .val (.int c0), .val (.int c1), .val (.int c2), .val (.int c3), .val (.int c4), .val (.int c5), .val (.int c6), .val (.int c7), .val (.ref b84), .unset] [(.int (1 : Int32))])) _
              refine XS.goto X97.here hx rfl (pc0 := 247) (pc' := 251) rfl (hb hby at_247) (by decide) (by decide) ?_
              show Steps p.tables e below (T97.setTop (mkF m 251 #[.val (.int p1), .val (.long q1), .second, .val (.int (4 : Int32)), .val (.int c0), .val (.int c1), .val (.int c2), .val (.int c3), .val (.int c4), .val (.int c5), .val (.int c6), .val (.int c7), .val (.ref b84), .unset] [(.int (1 : Int32))])) _
              rw [← hex, if_neg (fun q => q.elim hn0 (fun q => q.elim hn1 (fun q => q.elim hn2 hn3)))] at k
              exact k
    show own_G p.tables e below s _ _ _ (T97.setTop (mkF m 251 #[.val (.int p1), .val (.long q1), .second, .val (.int (4 : Int32)), .val (.int c0), .val (.int c1), .val (.int c2), .val (.int c3), .val (.int c4), .val (.int c5), .val (.int c6), .val (.int c7), .val (.ref b84), .unset] [(.int ex)]))
    refine own_go (fun t k => XS.istore X97.here hx rfl (hb hby at_251) rfl (l' := #[.val (.int p1), .val (.long q1), .second, .val (.int (4 : Int32)), .val (.int c0), .val (.int c1), .val (.int c2), .val (.int c3), .val (.int c4), .val (.int c5), .val (.int c6), .val (.int c7), .val (.ref b84), .val (.int ex)]) rfl k) ?_
    show own_G p.tables e below s _ _ _ (T97.setTop (mkF m 253 #[.val (.int p1), .val (.long q1), .second, .val (.int (4 : Int32)), .val (.int c0), .val (.int c1), .val (.int c2), .val (.int c3), .val (.int c4), .val (.int c5), .val (.int c6), .val (.int c7), .val (.ref b84), .val (.int ex)] []))
    refine own_go (fun t k => XS.aload X97.here hx rfl (hb hby at_253) rfl rfl k) ?_
    show own_G p.tables e below s _ _ _ (T97.setTop (mkF m 255 #[.val (.int p1), .val (.long q1), .second, .val (.int (4 : Int32)), .val (.int c0), .val (.int c1), .val (.int c2), .val (.int c3), .val (.int c4), .val (.int c5), .val (.int c6), .val (.int c7), .val (.ref b84), .val (.int ex)] [(.ref b84)]))
    obtain ⟨_, _, ⟨T100, L100, k100, n100⟩, -, X100, ⟨Lc100, hQ100, l100, y100, z100⟩, st100⟩ := Jvm.LawKit.callS X97 hx (y := (⟨"com/example/cartulary/cartulary/model/Syntax", "isAscii", "([B)Z"⟩ : MethodName)) hown (mvT hZ (hw _ (List.mem_of_getElem? (i := 2) rfl))) (mvT hZ (hw _ (List.mem_of_getElem? (i := 3) rfl))) (mvT hZ (hw _ (List.mem_of_getElem? (i := 4) rfl))) (mvT hZ (hw _ (List.mem_of_getElem? (i := 5) rfl))) (by decide) (backOf (W := 0) (rm1_4 l Z a0 hw [] b84 k84 c0 c1 c2 c3 ex h97 n0 z99 v98 hex) hZ (hw _ (List.mem_of_getElem? (i := 5) rfl)) (hw _ (List.mem_of_getElem? (i := 4) rfl)) (by decide) (by decide)) (g := (mkF m 255 #[.val (.int p1), .val (.long q1), .second, .val (.int (4 : Int32)), .val (.int c0), .val (.int c1), .val (.int c2), .val (.int c3), .val (.int c4), .val (.int c5), .val (.int c6), .val (.int c7), .val (.ref b84), .val (.int ex)] [(.ref b84)])) rfl (by rw [hml]; rfl) (argsL := [(.ref b84)]) (rest := []) (lenOf pd___B_Z rfl) rfl (by show 2 * 0 + _ ≤ _; exact Nat.le_of_eq rfl) (hb hby at_255) (fun _ _ => ⟨rfl, e97, (by decide : 1 + 0 ≤ _), (by decide : 4 + 0 ≤ _)⟩)
    dsimp only [Pt.U, Pt.locs, Pt.cells, Pt.slots] at X100 l100 y100 z100 st100 hQ100
    subst l100 y100 z100
    obtain ⟨rfl, N100q, hh100⟩ := hQ100
    have N100 := Fr.app N97 N100q
    refine own_go st100 ?_
    show own_G p.tables e below s _ _ _ (T100.setTop (mkF m 258 #[.val (.int p1), .val (.long q1), .second, .val (.int (4 : Int32)), .val (.int c0), .val (.int c1), .val (.int c2), .val (.int c3), .val (.int c4), .val (.int c5), .val (.int c6), .val (.int c7), .val (.ref b84), .val (.int ex)] [(.int ex)]))
    refine own_go (fun t k => XS.iload X100.here hx rfl (hb hby at_258) rfl k) ?_
    show own_G p.tables e below s _ _ _ (T100.setTop (mkF m 260 #[.val (.int p1), .val (.long q1), .second, .val (.int (4 : Int32)), .val (.int c0), .val (.int c1), .val (.int c2), .val (.int c3), .val (.int c4), .val (.int c5), .val (.int c6), .val (.int c7), .val (.ref b84), .val (.int ex)] [(.int ex), (.int ex)]))
    refine own_go (fun t k => XS.icmpNo X100.here hx rfl (hb hby at_260) rfl (Jvm.Free.XT.ii_ne_f rfl) k) ?_
    show own_G p.tables e below s _ _ _ (T100.setTop (mkF m 263 #[.val (.int p1), .val (.long q1), .second, .val (.int (4 : Int32)), .val (.int c0), .val (.int c1), .val (.int c2), .val (.int c3), .val (.int c4), .val (.int c5), .val (.int c6), .val (.int c7), .val (.ref b84), .val (.int ex)] []))
    refine own_go (fun t k => XS.iconst X100.here hx rfl (hb hby at_263) k) ?_
    show own_G p.tables e below s _ _ _ (T100.setTop (mkF m 264 #[.val (.int p1), .val (.long q1), .second, .val (.int (4 : Int32)), .val (.int c0), .val (.int c1), .val (.int c2), .val (.int c3), .val (.int c4), .val (.int c5), .val (.int c6), .val (.int c7), .val (.ref b84), .val (.int ex)] [(.int (1 : Int32))]))
    refine own_go (fun t k => XS.goto X100.here hx rfl (pc0 := 264) (pc' := 268) rfl (hb hby at_264) (by decide) (by decide) k) ?_
    show own_G p.tables e below s _ _ _ (T100.setTop (mkF m 268 #[.val (.int p1), .val (.long q1), .second, .val (.int (4 : Int32)), .val (.int c0), .val (.int c1), .val (.int c2), .val (.int c3), .val (.int c4), .val (.int c5), .val (.int c6), .val (.int c7), .val (.ref b84), .val (.int ex)] [(.int (1 : Int32))]))
    exact own_retN X100 hx hlk (t := .boolean) (z' := (1 : Int32)) Bd.returns (by simp) (hb hby at_268) (rfl) (by rw [hh100]; exact ⟨rfl, N100⟩) (by decide) (by decide)
  · show own_G p.tables e below s _ _ _ (s₁.setTop (mkF m 69 #[.val (.int p1), .val (.long q1), .second, .val (.int (5 : Int32)), .val (.int c0), .val (.int c1), .val (.int c2), .val (.int c3), .val (.int c4), .val (.int c5), .val (.int c6), .val (.int c7), .unset, .unset] []))
    refine own_go (fun t k => XS.iloadN X0.here hx rfl (hb hby at_69) rfl k) ?_
    show own_G p.tables e below s _ _ _ (s₁.setTop (mkF m 70 #[.val (.int p1), .val (.long q1), .second, .val (.int (5 : Int32)), .val (.int c0), .val (.int c1), .val (.int c2), .val (.int c3), .val (.int c4), .val (.int c5), .val (.int c6), .val (.int c7), .unset, .unset] [(.int (5 : Int32))]))
    obtain ⟨T101, h101, k101, X101, e101, E101, A101, st101⟩ := newP X0 hx hZ (hw _ (List.mem_of_getElem? (i := 1) rfl)) e0 (g := (mkF m 70 #[.val (.int p1), .val (.long q1), .second, .val (.int (5 : Int32)), .val (.int c0), .val (.int c1), .val (.int c2), .val (.int c3), .val (.int c4), .val (.int c5), .val (.int c6), .val (.int c7), .unset, .unset] [(.int (5 : Int32))])) rfl (hb hby at_70) rfl (by decide) (cap := 5) (by decide) (by decide) (by decide) (by decide)
    obtain ⟨b101, g101⟩ : ∃ z, z = h0.size := ⟨_, rfl⟩
    rw [← g101] at A101 st101
    refine own_go st101 ?_
    have g102 := Nat.le_trans Z0 (Nat.le_of_eq g101.symm)
    have z103 := Nat.le_trans Z0 E101.1
    have v104 : Arv Z h101 b101 k101 .byte (5 : Int32) [(.int (0 : Int32)), (.int (0 : Int32)), (.int (0 : Int32)), (.int (0 : Int32)), (.int (0 : Int32))] (.int (0 : Int32)) := (Arv.new A101 (by decide)).pad (pad_rep [] (.int (0 : Int32)) 5)
    show own_G p.tables e below s _ _ _ (T101.setTop (mkF m 72 #[.val (.int p1), .val (.long q1), .second, .val (.int (5 : Int32)), .val (.int c0), .val (.int c1), .val (.int c2), .val (.int c3), .val (.int c4), .val (.int c5), .val (.int c6), .val (.int c7), .unset, .unset] [(.ref b101)]))
    refine own_go (fun t k => XS.astore X101.here hx rfl (hb hby at_72) rfl rfl (l' := #[.val (.int p1), .val (.long q1), .second, .val (.int (5 : Int32)), .val (.int c0), .val (.int c1), .val (.int c2), .val (.int c3), .val (.int c4), .val (.int c5), .val (.int c6), .val (.int c7), .val (.ref b101), .unset]) rfl k) ?_
    show own_G p.tables e below s _ _ _ (T101.setTop (mkF m 74 #[.val (.int p1), .val (.long q1), .second, .val (.int (5 : Int32)), .val (.int c0), .val (.int c1), .val (.int c2), .val (.int c3), .val (.int c4), .val (.int c5), .val (.int c6), .val (.int c7), .val (.ref b101), .unset] []))
    refine own_go (fun t k => XS.iloadN X101.here hx rfl (hb hby at_74) rfl k) ?_
    show own_G p.tables e below s _ _ _ (T101.setTop (mkF m 75 #[.val (.int p1), .val (.long q1), .second, .val (.int (5 : Int32)), .val (.int c0), .val (.int c1), .val (.int c2), .val (.int c3), .val (.int c4), .val (.int c5), .val (.int c6), .val (.int c7), .val (.ref b101), .unset] [(.int (5 : Int32))]))
    refine own_go (fun t k => XS.ifNo X101.here hx rfl (hb hby at_75) rfl (by decide) k) ?_
    show own_G p.tables e below s _ _ _ (T101.setTop (mkF m 78 #[.val (.int p1), .val (.long q1), .second, .val (.int (5 : Int32)), .val (.int c0), .val (.int c1), .val (.int c2), .val (.int c3), .val (.int c4), .val (.int c5), .val (.int c6), .val (.int c7), .val (.ref b101), .unset] []))
    refine own_go (fun t k => XS.aload X101.here hx rfl (hb hby at_78) rfl rfl k) ?_
    show own_G p.tables e below s _ _ _ (T101.setTop (mkF m 80 #[.val (.int p1), .val (.long q1), .second, .val (.int (5 : Int32)), .val (.int c0), .val (.int c1), .val (.int c2), .val (.int c3), .val (.int c4), .val (.int c5), .val (.int c6), .val (.int c7), .val (.ref b101), .unset] [(.ref b101)]))
    refine own_go (fun t k => XS.iconst X101.here hx rfl (hb hby at_80) k) ?_
    show own_G p.tables e below s _ _ _ (T101.setTop (mkF m 81 #[.val (.int p1), .val (.long q1), .second, .val (.int (5 : Int32)), .val (.int c0), .val (.int c1), .val (.int c2), .val (.int c3), .val (.int c4), .val (.int c5), .val (.int c6), .val (.int c7), .val (.ref b101), .unset] [(.int (0 : Int32)), (.ref b101)]))
    refine own_go (fun t k => XS.iload X101.here hx rfl (hb hby at_81) rfl k) ?_
    show own_G p.tables e below s _ _ _ (T101.setTop (mkF m 83 #[.val (.int p1), .val (.long q1), .second, .val (.int (5 : Int32)), .val (.int c0), .val (.int c1), .val (.int c2), .val (.int c3), .val (.int c4), .val (.int c5), .val (.int c6), .val (.int c7), .val (.ref b101), .unset] [(.int c0), (.int (0 : Int32)), (.ref b101)]))
    obtain ⟨cl105, Ar105, q105, S105, NN105, HH105, GG105⟩ := v104
    have hin105 : ¬ ((0 : Int32) < 0 ∨ cl105.slots.size ≤ ((0 : Int32)).toNatClampNeg) := inb_of S105 ⟨by decide, by decide⟩
    obtain ⟨T105, h105, X105, e105, W105, st105⟩ := stB X101 hx hZ e101 Ar105 (j := (0 : Int32)) hin105 (g := (mkF m 83 #[.val (.int p1), .val (.long q1), .second, .val (.int (5 : Int32)), .val (.int c0), .val (.int c1), .val (.int c2), .val (.int c3), .val (.int c4), .val (.int c5), .val (.int c6), .val (.int c7), .val (.ref b101), .unset] [(.int c0), (.int (0 : Int32)), (.ref b101)])) rfl rfl (hb hby at_83)
    refine own_go st105 ?_
    have v106 : Arv Z h105 b101 k101 .byte (5 : Int32) [(.int (nar .byte c0)), (.int (0 : Int32)), (.int (0 : Int32)), (.int (0 : Int32)), (.int (0 : Int32))] (.int (0 : Int32)) := Arv.set Ar105 q105 S105 NN105 HH105 GG105 (fits_nar_byte _) W105 0 rfl (Nat.le_of_ble_eq_true rfl)
    rw [hb0] at v106
    have z107 := Nat.le_trans z103 (Keep.of_wr W105).1
    have N105 := Fr.snoc X105 N0 g102
    show own_G p.tables e below s _ _ _ (T105.setTop (mkF m 84 #[.val (.int p1), .val (.long q1), .second, .val (.int (5 : Int32)), .val (.int c0), .val (.int c1), .val (.int c2), .val (.int c3), .val (.int c4), .val (.int c5), .val (.int c6), .val (.int c7), .val (.ref b101), .unset] []))
    refine own_go (fun t k => XS.iloadN X105.here hx rfl (hb hby at_84) rfl k) ?_
    show own_G p.tables e below s _ _ _ (T105.setTop (mkF m 85 #[.val (.int p1), .val (.long q1), .second, .val (.int (5 : Int32)), .val (.int c0), .val (.int c1), .val (.int c2), .val (.int c3), .val (.int c4), .val (.int c5), .val (.int c6), .val (.int c7), .val (.ref b101), .unset] [(.int (5 : Int32))]))
    refine own_go (fun t k => XS.iconst X105.here hx rfl (hb hby at_85) k) ?_
    show own_G p.tables e below s _ _ _ (T105.setTop (mkF m 86 #[.val (.int p1), .val (.long q1), .second, .val (.int (5 : Int32)), .val (.int c0), .val (.int c1), .val (.int c2), .val (.int c3), .val (.int c4), .val (.int c5), .val (.int c6), .val (.int c7), .val (.ref b101), .unset] [(.int (1 : Int32)), (.int (5 : Int32))]))
    refine own_go (fun t k => XS.icmpNo X105.here hx rfl (hb hby at_86) rfl (by decide) k) ?_
    show own_G p.tables e below s _ _ _ (T105.setTop (mkF m 89 #[.val (.int p1), .val (.long q1), .second, .val (.int (5 : Int32)), .val (.int c0), .val (.int c1), .val (.int c2), .val (.int c3), .val (.int c4), .val (.int c5), .val (.int c6), .val (.int c7), .val (.ref b101), .unset] []))
    refine own_go (fun t k => XS.aload X105.here hx rfl (hb hby at_89) rfl rfl k) ?_
    show own_G p.tables e below s _ _ _ (T105.setTop (mkF m 91 #[.val (.int p1), .val (.long q1), .second, .val (.int (5 : Int32)), .val (.int c0), .val (.int c1), .val (.int c2), .val (.int c3), .val (.int c4), .val (.int c5), .val (.int c6), .val (.int c7), .val (.ref b101), .unset] [(.ref b101)]))
    refine own_go (fun t k => XS.iconst X105.here hx rfl (hb hby at_91) k) ?_
    show own_G p.tables e below s _ _ _ (T105.setTop (mkF m 92 #[.val (.int p1), .val (.long q1), .second, .val (.int (5 : Int32)), .val (.int c0), .val (.int c1), .val (.int c2), .val (.int c3), .val (.int c4), .val (.int c5), .val (.int c6), .val (.int c7), .val (.ref b101), .unset] [(.int (1 : Int32)), (.ref b101)]))
    refine own_go (fun t k => XS.iload X105.here hx rfl (hb hby at_92) rfl k) ?_
    show own_G p.tables e below s _ _ _ (T105.setTop (mkF m 94 #[.val (.int p1), .val (.long q1), .second, .val (.int (5 : Int32)), .val (.int c0), .val (.int c1), .val (.int c2), .val (.int c3), .val (.int c4), .val (.int c5), .val (.int c6), .val (.int c7), .val (.ref b101), .unset] [(.int c1), (.int (1 : Int32)), (.ref b101)]))
    obtain ⟨cl108, Ar108, q108, S108, NN108, HH108, GG108⟩ := v106
    have hin108 : ¬ ((1 : Int32) < 0 ∨ cl108.slots.size ≤ ((1 : Int32)).toNatClampNeg) := inb_of S108 ⟨by decide, by decide⟩
    obtain ⟨T108, h108, X108, e108, W108, st108⟩ := stB X105 hx hZ e105 Ar108 (j := (1 : Int32)) hin108 (g := (mkF m 94 #[.val (.int p1), .val (.long q1), .second, .val (.int (5 : Int32)), .val (.int c0), .val (.int c1), .val (.int c2), .val (.int c3), .val (.int c4), .val (.int c5), .val (.int c6), .val (.int c7), .val (.ref b101), .unset] [(.int c1), (.int (1 : Int32)), (.ref b101)])) rfl rfl (hb hby at_94)
    refine own_go st108 ?_
    have v109 : Arv Z h108 b101 k101 .byte (5 : Int32) [(.int c0), (.int (nar .byte c1)), (.int (0 : Int32)), (.int (0 : Int32)), (.int (0 : Int32))] (.int (0 : Int32)) := Arv.set Ar108 q108 S108 NN108 HH108 GG108 (fits_nar_byte _) W108 1 rfl (Nat.le_of_ble_eq_true rfl)
    rw [hb1] at v109
    have z110 := Nat.le_trans z107 (Keep.of_wr W108).1
    have N108 := Fr.snoc X108 N105 g102
    show own_G p.tables e below s _ _ _ (T108.setTop (mkF m 95 #[.val (.int p1), .val (.long q1), .second, .val (.int (5 : Int32)), .val (.int c0), .val (.int c1), .val (.int c2), .val (.int c3), .val (.int c4), .val (.int c5), .val (.int c6), .val (.int c7), .val (.ref b101), .unset] []))
    refine own_go (fun t k => XS.iloadN X108.here hx rfl (hb hby at_95) rfl k) ?_
    show own_G p.tables e below s _ _ _ (T108.setTop (mkF m 96 #[.val (.int p1), .val (.long q1), .second, .val (.int (5 : Int32)), .val (.int c0), .val (.int c1), .val (.int c2), .val (.int c3), .val (.int c4), .val (.int c5), .val (.int c6), .val (.int c7), .val (.ref b101), .unset] [(.int (5 : Int32))]))
    refine own_go (fun t k => XS.iconst X108.here hx rfl (hb hby at_96) k) ?_
    show own_G p.tables e below s _ _ _ (T108.setTop (mkF m 97 #[.val (.int p1), .val (.long q1), .second, .val (.int (5 : Int32)), .val (.int c0), .val (.int c1), .val (.int c2), .val (.int c3), .val (.int c4), .val (.int c5), .val (.int c6), .val (.int c7), .val (.ref b101), .unset] [(.int (2 : Int32)), (.int (5 : Int32))]))
    refine own_go (fun t k => XS.icmpNo X108.here hx rfl (hb hby at_97) rfl (by decide) k) ?_
    show own_G p.tables e below s _ _ _ (T108.setTop (mkF m 100 #[.val (.int p1), .val (.long q1), .second, .val (.int (5 : Int32)), .val (.int c0), .val (.int c1), .val (.int c2), .val (.int c3), .val (.int c4), .val (.int c5), .val (.int c6), .val (.int c7), .val (.ref b101), .unset] []))
    refine own_go (fun t k => XS.aload X108.here hx rfl (hb hby at_100) rfl rfl k) ?_
    show own_G p.tables e below s _ _ _ (T108.setTop (mkF m 102 #[.val (.int p1), .val (.long q1), .second, .val (.int (5 : Int32)), .val (.int c0), .val (.int c1), .val (.int c2), .val (.int c3), .val (.int c4), .val (.int c5), .val (.int c6), .val (.int c7), .val (.ref b101), .unset] [(.ref b101)]))
    refine own_go (fun t k => XS.iconst X108.here hx rfl (hb hby at_102) k) ?_
    show own_G p.tables e below s _ _ _ (T108.setTop (mkF m 103 #[.val (.int p1), .val (.long q1), .second, .val (.int (5 : Int32)), .val (.int c0), .val (.int c1), .val (.int c2), .val (.int c3), .val (.int c4), .val (.int c5), .val (.int c6), .val (.int c7), .val (.ref b101), .unset] [(.int (2 : Int32)), (.ref b101)]))
    refine own_go (fun t k => XS.iload X108.here hx rfl (hb hby at_103) rfl k) ?_
    show own_G p.tables e below s _ _ _ (T108.setTop (mkF m 105 #[.val (.int p1), .val (.long q1), .second, .val (.int (5 : Int32)), .val (.int c0), .val (.int c1), .val (.int c2), .val (.int c3), .val (.int c4), .val (.int c5), .val (.int c6), .val (.int c7), .val (.ref b101), .unset] [(.int c2), (.int (2 : Int32)), (.ref b101)]))
    obtain ⟨cl111, Ar111, q111, S111, NN111, HH111, GG111⟩ := v109
    have hin111 : ¬ ((2 : Int32) < 0 ∨ cl111.slots.size ≤ ((2 : Int32)).toNatClampNeg) := inb_of S111 ⟨by decide, by decide⟩
    obtain ⟨T111, h111, X111, e111, W111, st111⟩ := stB X108 hx hZ e108 Ar111 (j := (2 : Int32)) hin111 (g := (mkF m 105 #[.val (.int p1), .val (.long q1), .second, .val (.int (5 : Int32)), .val (.int c0), .val (.int c1), .val (.int c2), .val (.int c3), .val (.int c4), .val (.int c5), .val (.int c6), .val (.int c7), .val (.ref b101), .unset] [(.int c2), (.int (2 : Int32)), (.ref b101)])) rfl rfl (hb hby at_105)
    refine own_go st111 ?_
    have v112 : Arv Z h111 b101 k101 .byte (5 : Int32) [(.int c0), (.int c1), (.int (nar .byte c2)), (.int (0 : Int32)), (.int (0 : Int32))] (.int (0 : Int32)) := Arv.set Ar111 q111 S111 NN111 HH111 GG111 (fits_nar_byte _) W111 2 rfl (Nat.le_of_ble_eq_true rfl)
    rw [hb2] at v112
    have z113 := Nat.le_trans z110 (Keep.of_wr W111).1
    have N111 := Fr.snoc X111 N108 g102
    show own_G p.tables e below s _ _ _ (T111.setTop (mkF m 106 #[.val (.int p1), .val (.long q1), .second, .val (.int (5 : Int32)), .val (.int c0), .val (.int c1), .val (.int c2), .val (.int c3), .val (.int c4), .val (.int c5), .val (.int c6), .val (.int c7), .val (.ref b101), .unset] []))
    refine own_go (fun t k => XS.iloadN X111.here hx rfl (hb hby at_106) rfl k) ?_
    show own_G p.tables e below s _ _ _ (T111.setTop (mkF m 107 #[.val (.int p1), .val (.long q1), .second, .val (.int (5 : Int32)), .val (.int c0), .val (.int c1), .val (.int c2), .val (.int c3), .val (.int c4), .val (.int c5), .val (.int c6), .val (.int c7), .val (.ref b101), .unset] [(.int (5 : Int32))]))
    refine own_go (fun t k => XS.iconst X111.here hx rfl (hb hby at_107) k) ?_
    show own_G p.tables e below s _ _ _ (T111.setTop (mkF m 108 #[.val (.int p1), .val (.long q1), .second, .val (.int (5 : Int32)), .val (.int c0), .val (.int c1), .val (.int c2), .val (.int c3), .val (.int c4), .val (.int c5), .val (.int c6), .val (.int c7), .val (.ref b101), .unset] [(.int (3 : Int32)), (.int (5 : Int32))]))
    refine own_go (fun t k => XS.icmpNo X111.here hx rfl (hb hby at_108) rfl (by decide) k) ?_
    show own_G p.tables e below s _ _ _ (T111.setTop (mkF m 111 #[.val (.int p1), .val (.long q1), .second, .val (.int (5 : Int32)), .val (.int c0), .val (.int c1), .val (.int c2), .val (.int c3), .val (.int c4), .val (.int c5), .val (.int c6), .val (.int c7), .val (.ref b101), .unset] []))
    refine own_go (fun t k => XS.aload X111.here hx rfl (hb hby at_111) rfl rfl k) ?_
    show own_G p.tables e below s _ _ _ (T111.setTop (mkF m 113 #[.val (.int p1), .val (.long q1), .second, .val (.int (5 : Int32)), .val (.int c0), .val (.int c1), .val (.int c2), .val (.int c3), .val (.int c4), .val (.int c5), .val (.int c6), .val (.int c7), .val (.ref b101), .unset] [(.ref b101)]))
    refine own_go (fun t k => XS.iconst X111.here hx rfl (hb hby at_113) k) ?_
    show own_G p.tables e below s _ _ _ (T111.setTop (mkF m 114 #[.val (.int p1), .val (.long q1), .second, .val (.int (5 : Int32)), .val (.int c0), .val (.int c1), .val (.int c2), .val (.int c3), .val (.int c4), .val (.int c5), .val (.int c6), .val (.int c7), .val (.ref b101), .unset] [(.int (3 : Int32)), (.ref b101)]))
    refine own_go (fun t k => XS.iload X111.here hx rfl (hb hby at_114) rfl k) ?_
    show own_G p.tables e below s _ _ _ (T111.setTop (mkF m 116 #[.val (.int p1), .val (.long q1), .second, .val (.int (5 : Int32)), .val (.int c0), .val (.int c1), .val (.int c2), .val (.int c3), .val (.int c4), .val (.int c5), .val (.int c6), .val (.int c7), .val (.ref b101), .unset] [(.int c3), (.int (3 : Int32)), (.ref b101)]))
    obtain ⟨cl114, Ar114, q114, S114, NN114, HH114, GG114⟩ := v112
    have hin114 : ¬ ((3 : Int32) < 0 ∨ cl114.slots.size ≤ ((3 : Int32)).toNatClampNeg) := inb_of S114 ⟨by decide, by decide⟩
    obtain ⟨T114, h114, X114, e114, W114, st114⟩ := stB X111 hx hZ e111 Ar114 (j := (3 : Int32)) hin114 (g := (mkF m 116 #[.val (.int p1), .val (.long q1), .second, .val (.int (5 : Int32)), .val (.int c0), .val (.int c1), .val (.int c2), .val (.int c3), .val (.int c4), .val (.int c5), .val (.int c6), .val (.int c7), .val (.ref b101), .unset] [(.int c3), (.int (3 : Int32)), (.ref b101)])) rfl rfl (hb hby at_116)
    refine own_go st114 ?_
    have v115 : Arv Z h114 b101 k101 .byte (5 : Int32) [(.int c0), (.int c1), (.int c2), (.int (nar .byte c3)), (.int (0 : Int32))] (.int (0 : Int32)) := Arv.set Ar114 q114 S114 NN114 HH114 GG114 (fits_nar_byte _) W114 3 rfl (Nat.le_of_ble_eq_true rfl)
    rw [hb3] at v115
    have z116 := Nat.le_trans z113 (Keep.of_wr W114).1
    have N114 := Fr.snoc X114 N111 g102
    show own_G p.tables e below s _ _ _ (T114.setTop (mkF m 117 #[.val (.int p1), .val (.long q1), .second, .val (.int (5 : Int32)), .val (.int c0), .val (.int c1), .val (.int c2), .val (.int c3), .val (.int c4), .val (.int c5), .val (.int c6), .val (.int c7), .val (.ref b101), .unset] []))
    refine own_go (fun t k => XS.iloadN X114.here hx rfl (hb hby at_117) rfl k) ?_
    show own_G p.tables e below s _ _ _ (T114.setTop (mkF m 118 #[.val (.int p1), .val (.long q1), .second, .val (.int (5 : Int32)), .val (.int c0), .val (.int c1), .val (.int c2), .val (.int c3), .val (.int c4), .val (.int c5), .val (.int c6), .val (.int c7), .val (.ref b101), .unset] [(.int (5 : Int32))]))
    refine own_go (fun t k => XS.iconst X114.here hx rfl (hb hby at_118) k) ?_
    show own_G p.tables e below s _ _ _ (T114.setTop (mkF m 119 #[.val (.int p1), .val (.long q1), .second, .val (.int (5 : Int32)), .val (.int c0), .val (.int c1), .val (.int c2), .val (.int c3), .val (.int c4), .val (.int c5), .val (.int c6), .val (.int c7), .val (.ref b101), .unset] [(.int (4 : Int32)), (.int (5 : Int32))]))
    refine own_go (fun t k => XS.icmpNo X114.here hx rfl (hb hby at_119) rfl (by decide) k) ?_
    show own_G p.tables e below s _ _ _ (T114.setTop (mkF m 122 #[.val (.int p1), .val (.long q1), .second, .val (.int (5 : Int32)), .val (.int c0), .val (.int c1), .val (.int c2), .val (.int c3), .val (.int c4), .val (.int c5), .val (.int c6), .val (.int c7), .val (.ref b101), .unset] []))
    refine own_go (fun t k => XS.aload X114.here hx rfl (hb hby at_122) rfl rfl k) ?_
    show own_G p.tables e below s _ _ _ (T114.setTop (mkF m 124 #[.val (.int p1), .val (.long q1), .second, .val (.int (5 : Int32)), .val (.int c0), .val (.int c1), .val (.int c2), .val (.int c3), .val (.int c4), .val (.int c5), .val (.int c6), .val (.int c7), .val (.ref b101), .unset] [(.ref b101)]))
    refine own_go (fun t k => XS.iconst X114.here hx rfl (hb hby at_124) k) ?_
    show own_G p.tables e below s _ _ _ (T114.setTop (mkF m 125 #[.val (.int p1), .val (.long q1), .second, .val (.int (5 : Int32)), .val (.int c0), .val (.int c1), .val (.int c2), .val (.int c3), .val (.int c4), .val (.int c5), .val (.int c6), .val (.int c7), .val (.ref b101), .unset] [(.int (4 : Int32)), (.ref b101)]))
    refine own_go (fun t k => XS.iload X114.here hx rfl (hb hby at_125) rfl k) ?_
    show own_G p.tables e below s _ _ _ (T114.setTop (mkF m 127 #[.val (.int p1), .val (.long q1), .second, .val (.int (5 : Int32)), .val (.int c0), .val (.int c1), .val (.int c2), .val (.int c3), .val (.int c4), .val (.int c5), .val (.int c6), .val (.int c7), .val (.ref b101), .unset] [(.int c4), (.int (4 : Int32)), (.ref b101)]))
    obtain ⟨cl117, Ar117, q117, S117, NN117, HH117, GG117⟩ := v115
    have hin117 : ¬ ((4 : Int32) < 0 ∨ cl117.slots.size ≤ ((4 : Int32)).toNatClampNeg) := inb_of S117 ⟨by decide, by decide⟩
    obtain ⟨T117, h117, X117, e117, W117, st117⟩ := stB X114 hx hZ e114 Ar117 (j := (4 : Int32)) hin117 (g := (mkF m 127 #[.val (.int p1), .val (.long q1), .second, .val (.int (5 : Int32)), .val (.int c0), .val (.int c1), .val (.int c2), .val (.int c3), .val (.int c4), .val (.int c5), .val (.int c6), .val (.int c7), .val (.ref b101), .unset] [(.int c4), (.int (4 : Int32)), (.ref b101)])) rfl rfl (hb hby at_127)
    refine own_go st117 ?_
    have v118 : Arv Z h117 b101 k101 .byte (5 : Int32) [(.int c0), (.int c1), (.int c2), (.int c3), (.int (nar .byte c4))] (.int (0 : Int32)) := Arv.set Ar117 q117 S117 NN117 HH117 GG117 (fits_nar_byte _) W117 4 rfl (Nat.le_of_ble_eq_true rfl)
    rw [hb4] at v118
    have z119 := Nat.le_trans z116 (Keep.of_wr W117).1
    have N117 := Fr.snoc X117 N114 g102
    show own_G p.tables e below s _ _ _ (T117.setTop (mkF m 128 #[.val (.int p1), .val (.long q1), .second, .val (.int (5 : Int32)), .val (.int c0), .val (.int c1), .val (.int c2), .val (.int c3), .val (.int c4), .val (.int c5), .val (.int c6), .val (.int c7), .val (.ref b101), .unset] []))
    refine own_go (fun t k => XS.iloadN X117.here hx rfl (hb hby at_128) rfl k) ?_
    show own_G p.tables e below s _ _ _ (T117.setTop (mkF m 129 #[.val (.int p1), .val (.long q1), .second, .val (.int (5 : Int32)), .val (.int c0), .val (.int c1), .val (.int c2), .val (.int c3), .val (.int c4), .val (.int c5), .val (.int c6), .val (.int c7), .val (.ref b101), .unset] [(.int (5 : Int32))]))
    refine own_go (fun t k => XS.iconst X117.here hx rfl (hb hby at_129) k) ?_
    show own_G p.tables e below s _ _ _ (T117.setTop (mkF m 130 #[.val (.int p1), .val (.long q1), .second, .val (.int (5 : Int32)), .val (.int c0), .val (.int c1), .val (.int c2), .val (.int c3), .val (.int c4), .val (.int c5), .val (.int c6), .val (.int c7), .val (.ref b101), .unset] [(.int (5 : Int32)), (.int (5 : Int32))]))
    refine own_go (fun t k => XS.icmpYes X117.here hx rfl (pc0 := 130) (pc' := 139) rfl (hb hby at_130) rfl (by decide) (by decide) (by decide) k) ?_
    show own_G p.tables e below s _ _ _ (T117.setTop (mkF m 139 #[.val (.int p1), .val (.long q1), .second, .val (.int (5 : Int32)), .val (.int c0), .val (.int c1), .val (.int c2), .val (.int c3), .val (.int c4), .val (.int c5), .val (.int c6), .val (.int c7), .val (.ref b101), .unset] []))
    refine own_go (fun t k => XS.iloadN X117.here hx rfl (hb hby at_139) rfl k) ?_
    show own_G p.tables e below s _ _ _ (T117.setTop (mkF m 140 #[.val (.int p1), .val (.long q1), .second, .val (.int (5 : Int32)), .val (.int c0), .val (.int c1), .val (.int c2), .val (.int c3), .val (.int c4), .val (.int c5), .val (.int c6), .val (.int c7), .val (.ref b101), .unset] [(.int (5 : Int32))]))
    refine own_go (fun t k => XS.bipush X117.here hx rfl (hb hby at_140) k) ?_
    show own_G p.tables e below s _ _ _ (T117.setTop (mkF m 142 #[.val (.int p1), .val (.long q1), .second, .val (.int (5 : Int32)), .val (.int c0), .val (.int c1), .val (.int c2), .val (.int c3), .val (.int c4), .val (.int c5), .val (.int c6), .val (.int c7), .val (.ref b101), .unset] [(.int (6 : Int32)), (.int (5 : Int32))]))
    refine own_go (fun t k => XS.icmpYes X117.here hx rfl (pc0 := 142) (pc' := 152) rfl (hb hby at_142) rfl (by decide) (by decide) (by decide) k) ?_
    show own_G p.tables e below s _ _ _ (T117.setTop (mkF m 152 #[.val (.int p1), .val (.long q1), .second, .val (.int (5 : Int32)), .val (.int c0), .val (.int c1), .val (.int c2), .val (.int c3), .val (.int c4), .val (.int c5), .val (.int c6), .val (.int c7), .val (.ref b101), .unset] []))
    refine own_go (fun t k => XS.iloadN X117.here hx rfl (hb hby at_152) rfl k) ?_
    show own_G p.tables e below s _ _ _ (T117.setTop (mkF m 153 #[.val (.int p1), .val (.long q1), .second, .val (.int (5 : Int32)), .val (.int c0), .val (.int c1), .val (.int c2), .val (.int c3), .val (.int c4), .val (.int c5), .val (.int c6), .val (.int c7), .val (.ref b101), .unset] [(.int (5 : Int32))]))
    refine own_go (fun t k => XS.bipush X117.here hx rfl (hb hby at_153) k) ?_
    show own_G p.tables e below s _ _ _ (T117.setTop (mkF m 155 #[.val (.int p1), .val (.long q1), .second, .val (.int (5 : Int32)), .val (.int c0), .val (.int c1), .val (.int c2), .val (.int c3), .val (.int c4), .val (.int c5), .val (.int c6), .val (.int c7), .val (.ref b101), .unset] [(.int (7 : Int32)), (.int (5 : Int32))]))
    refine own_go (fun t k => XS.icmpYes X117.here hx rfl (pc0 := 155) (pc' := 165) rfl (hb hby at_155) rfl (by decide) (by decide) (by decide) k) ?_
    show own_G p.tables e below s _ _ _ (T117.setTop (mkF m 165 #[.val (.int p1), .val (.long q1), .second, .val (.int (5 : Int32)), .val (.int c0), .val (.int c1), .val (.int c2), .val (.int c3), .val (.int c4), .val (.int c5), .val (.int c6), .val (.int c7), .val (.ref b101), .unset] []))
    refine own_go (fun t k => XS.iloadN X117.here hx rfl (hb hby at_165) rfl k) ?_
    show own_G p.tables e below s _ _ _ (T117.setTop (mkF m 166 #[.val (.int p1), .val (.long q1), .second, .val (.int (5 : Int32)), .val (.int c0), .val (.int c1), .val (.int c2), .val (.int c3), .val (.int c4), .val (.int c5), .val (.int c6), .val (.int c7), .val (.ref b101), .unset] [(.int (5 : Int32))]))
    refine own_go (fun t k => XS.ifNo X117.here hx rfl (hb hby at_166) rfl (by decide) k) ?_
    show own_G p.tables e below s _ _ _ (T117.setTop (mkF m 169 #[.val (.int p1), .val (.long q1), .second, .val (.int (5 : Int32)), .val (.int c0), .val (.int c1), .val (.int c2), .val (.int c3), .val (.int c4), .val (.int c5), .val (.int c6), .val (.int c7), .val (.ref b101), .unset] []))
    refine own_go (fun t k => XS.iload X117.here hx rfl (hb hby at_169) rfl k) ?_
    show own_G p.tables e below s _ _ _ (T117.setTop (mkF m 171 #[.val (.int p1), .val (.long q1), .second, .val (.int (5 : Int32)), .val (.int c0), .val (.int c1), .val (.int c2), .val (.int c3), .val (.int c4), .val (.int c5), .val (.int c6), .val (.int c7), .val (.ref b101), .unset] [(.int c0)]))
    obtain ⟨ex, hex⟩ : ∃ z, (if c0 < (0 : Int32) ∨ c1 < (0 : Int32) ∨ c2 < (0 : Int32) ∨ c3 < (0 : Int32) ∨ c4 < (0 : Int32) then (0 : Int32) else 1) = z := ⟨_, rfl⟩
    refine own_go (A := (T117.setTop (mkF m 251 #[.val (.int p1), .val (.long q1), .second, .val (.int (5 : Int32)), .val (.int c0), .val (.int c1), .val (.int c2), .val (.int c3), .val (.int c4), .val (.int c5), .val (.int c6), .val (.int c7), .val (.ref b101), .unset] [(.int ex)]))) (fun t k => ?_) ?_
    · show Steps p.tables e below (T117.setTop (mkF m 171 #[.val (.int p1), .val (.long q1), .second, .val (.int (5 : Int32)), .val (.int c0), .val (.int c1), .val (.int c2), .val (.int c3), .val (.int c4), .val (.int c5), .val (.int c6), .val (.int c7), .val (.ref b101), .unset] [(.int c0)])) _
      by_cases hn0 : c0 < (0 : Int32)
      · refine XS.ifYes X117.here hx rfl (pc0 := 171) (pc' := 250) rfl (hb hby at_171) rfl (Jvm.Free.XT.i0_lt_t hn0) (by decide) (by decide) ?_
        show Steps p.tables e below (T117.setTop (mkF m 250 #[.val (.int p1), .val (.long q1), .second, .val (.int (5 : Int32)), .val (.int c0), .val (.int c1), .val (.int c2), .val (.int c3), .val (.int c4), .val (.int c5), .val (.int c6), .val (.int c7), .val (.ref b101), .unset] [])) _
        refine XS.iconst X117.here hx rfl (hb hby at_250) ?_
        show Steps p.tables e below (T117.setTop (mkF m 251 #[.val (.int p1), .val (.long q1), .second, .val (.int (5 : Int32)), .val (.int c0), .val (.int c1), .val (.int c2), .val (.int c3), .val (.int c4), .val (.int c5), .val (.int c6), .val (.int c7), .val (.ref b101), .unset] [(.int (0 : Int32))])) _
        rw [← hex, if_pos (Or.inl hn0)] at k
        exact k
      · refine XS.ifNo X117.here hx rfl (hb hby at_171) rfl (Jvm.Free.XT.i0_lt_f hn0) ?_
        show Steps p.tables e below (T117.setTop (mkF m 174 #[.val (.int p1), .val (.long q1), .second, .val (.int (5 : Int32)), .val (.int c0), .val (.int c1), .val (.int c2), .val (.int c3), .val (.int c4), .val (.int c5), .val (.int c6), .val (.int c7), .val (.ref b101), .unset] [])) _
        refine XS.iloadN X117.here hx rfl (hb hby at_174) rfl ?_
        show Steps p.tables e below (T117.setTop (mkF m 175 #[.val (.int p1), .val (.long q1), .second, .val (.int (5 : Int32)), .val (.int c0), .val (.int c1), .val (.int c2), .val (.int c3), .val (.int c4), .val (.int c5), .val (.int c6), .val (.int c7), .val (.ref b101), .unset] [(.int (5 : Int32))])) _
        refine XS.iconst X117.here hx rfl (hb hby at_175) ?_
        show Steps p.tables e below (T117.setTop (mkF m 176 #[.val (.int p1), .val (.long q1), .second, .val (.int (5 : Int32)), .val (.int c0), .val (.int c1), .val (.int c2), .val (.int c3), .val (.int c4), .val (.int c5), .val (.int c6), .val (.int c7), .val (.ref b101), .unset] [(.int (1 : Int32)), (.int (5 : Int32))])) _
        refine XS.icmpNo X117.here hx rfl (hb hby at_176) rfl (by decide) ?_
        show Steps p.tables e below (T117.setTop (mkF m 179 #[.val (.int p1), .val (.long q1), .second, .val (.int (5 : Int32)), .val (.int c0), .val (.int c1), .val (.int c2), .val (.int c3), .val (.int c4), .val (.int c5), .val (.int c6), .val (.int c7), .val (.ref b101), .unset] [])) _
        refine XS.iload X117.here hx rfl (hb hby at_179) rfl ?_
        show Steps p.tables e below (T117.setTop (mkF m 181 #[.val (.int p1), .val (.long q1), .second, .val (.int (5 : Int32)), .val (.int c0), .val (.int c1), .val (.int c2), .val (.int c3), .val (.int c4), .val (.int c5), .val (.int c6), .val (.int c7), .val (.ref b101), .unset] [(.int c1)])) _
        by_cases hn1 : c1 < (0 : Int32)
        · refine XS.ifYes X117.here hx rfl (pc0 := 181) (pc' := 250) rfl (hb hby at_181) rfl (Jvm.Free.XT.i0_lt_t hn1) (by decide) (by decide) ?_
          show Steps p.tables e below (T117.setTop (mkF m 250 #[.val (.int p1), .val (.long q1), .second, .val (.int (5 : Int32)), .val (.int c0), .val (.int c1), .val (.int c2), .val (.int c3), .val (.int c4), .val (.int c5), .val (.int c6), .val (.int c7), .val (.ref b101), .unset] [])) _
          refine XS.iconst X117.here hx rfl (hb hby at_250) ?_
          show Steps p.tables e below (T117.setTop (mkF m 251 #[.val (.int p1), .val (.long q1), .second, .val (.int (5 : Int32)), .val (.int c0), .val (.int c1), .val (.int c2), .val (.int c3), .val (.int c4), .val (.int c5), .val (.int c6), .val (.int c7), .val (.ref b101), .unset] [(.int (0 : Int32))])) _
          rw [← hex, if_pos (Or.inr (Or.inl hn1))] at k
          exact k
        · refine XS.ifNo X117.here hx rfl (hb hby at_181) rfl (Jvm.Free.XT.i0_lt_f hn1) ?_
          show Steps p.tables e below (T117.setTop (mkF m 184 #[.val (.int p1), .val (.long q1), .second, .val (.int (5 : Int32)), .val (.int c0), .val (.int c1), .val (.int c2), .val (.int c3), .val (.int c4), .val (.int c5), .val (.int c6), .val (.int c7), .val (.ref b101), .unset] [])) _
          refine XS.iloadN X117.here hx rfl (hb hby at_184) rfl ?_
          show Steps p.tables e below (T117.setTop (mkF m 185 #[.val (.int p1), .val (.long q1), .second, .val (.int (5 : Int32)), .val (.int c0), .val (.int c1), .val (.int c2), .val (.int c3), .val (.int c4), .val (.int c5), .val (.int c6), .val (.int c7), .val (.ref b101), .unset] [(.int (5 : Int32))])) _
          refine XS.iconst X117.here hx rfl (hb hby at_185) ?_
          show Steps p.tables e below (T117.setTop (mkF m 186 #[.val (.int p1), .val (.long q1), .second, .val (.int (5 : Int32)), .val (.int c0), .val (.int c1), .val (.int c2), .val (.int c3), .val (.int c4), .val (.int c5), .val (.int c6), .val (.int c7), .val (.ref b101), .unset] [(.int (2 : Int32)), (.int (5 : Int32))])) _
          refine XS.icmpNo X117.here hx rfl (hb hby at_186) rfl (by decide) ?_
          show Steps p.tables e below (T117.setTop (mkF m 189 #[.val (.int p1), .val (.long q1), .second, .val (.int (5 : Int32)), .val (.int c0), .val (.int c1), .val (.int c2), .val (.int c3), .val (.int c4), .val (.int c5), .val (.int c6), .val (.int c7), .val (.ref b101), .unset] [])) _
          refine XS.iload X117.here hx rfl (hb hby at_189) rfl ?_
          show Steps p.tables e below (T117.setTop (mkF m 191 #[.val (.int p1), .val (.long q1), .second, .val (.int (5 : Int32)), .val (.int c0), .val (.int c1), .val (.int c2), .val (.int c3), .val (.int c4), .val (.int c5), .val (.int c6), .val (.int c7), .val (.ref b101), .unset] [(.int c2)])) _
          by_cases hn2 : c2 < (0 : Int32)
          · refine XS.ifYes X117.here hx rfl (pc0 := 191) (pc' := 250) rfl (hb hby at_191) rfl (Jvm.Free.XT.i0_lt_t hn2) (by decide) (by decide) ?_
            show Steps p.tables e below (T117.setTop (mkF m 250 #[.val (.int p1), .val (.long q1), .second, .val (.int (5 : Int32)), .val (.int c0), .val (.int c1), .val (.int c2), .val (.int c3), .val (.int c4), .val (.int c5), .val (.int c6), .val (.int c7), .val (.ref b101), .unset] [])) _
            refine XS.iconst X117.here hx rfl (hb hby at_250) ?_
            show Steps p.tables e below (T117.setTop (mkF m 251 #[.val (.int p1), .val (.long q1), .second, .val (.int (5 : Int32)), .val (.int c0), .val (.int c1), .val (.int c2), .val (.int c3), .val (.int c4), .val (.int c5), .val (.int c6), .val (.int c7), .val (.ref b101), .unset] [(.int (0 : Int32))])) _
            rw [← hex, if_pos (Or.inr (Or.inr (Or.inl hn2)))] at k
            exact k
          · refine XS.ifNo X117.here hx rfl (hb hby at_191) rfl (Jvm.Free.XT.i0_lt_f hn2) ?_
            show Steps p.tables e below (T117.setTop (mkF m 194 #[.val (.int p1), .val (.long q1), .second, .val (.int (5 : Int32)), .val (.int c0), .val (.int c1), .val (.int c2), .val (.int c3), .val (.int c4), .val (.int c5), .val (.int c6), .val (.int c7), .val (.ref b101), .unset] [])) _
            refine XS.iloadN X117.here hx rfl (hb hby at_194) rfl ?_
            show Steps p.tables e below (T117.setTop (mkF m 195 #[.val (.int p1), .val (.long q1), .second, .val (.int (5 : Int32)), .val (.int c0), .val (.int c1), .val (.int c2), .val (.int c3), .val (.int c4), .val (.int c5), .val (.int c6), .val (.int c7), .val (.ref b101), .unset] [(.int (5 : Int32))])) _
            refine XS.iconst X117.here hx rfl (hb hby at_195) ?_
            show Steps p.tables e below (T117.setTop (mkF m 196 #[.val (.int p1), .val (.long q1), .second, .val (.int (5 : Int32)), .val (.int c0), .val (.int c1), .val (.int c2), .val (.int c3), .val (.int c4), .val (.int c5), .val (.int c6), .val (.int c7), .val (.ref b101), .unset] [(.int (3 : Int32)), (.int (5 : Int32))])) _
            refine XS.icmpNo X117.here hx rfl (hb hby at_196) rfl (by decide) ?_
            show Steps p.tables e below (T117.setTop (mkF m 199 #[.val (.int p1), .val (.long q1), .second, .val (.int (5 : Int32)), .val (.int c0), .val (.int c1), .val (.int c2), .val (.int c3), .val (.int c4), .val (.int c5), .val (.int c6), .val (.int c7), .val (.ref b101), .unset] [])) _
            refine XS.iload X117.here hx rfl (hb hby at_199) rfl ?_
            show Steps p.tables e below (T117.setTop (mkF m 201 #[.val (.int p1), .val (.long q1), .second, .val (.int (5 : Int32)), .val (.int c0), .val (.int c1), .val (.int c2), .val (.int c3), .val (.int c4), .val (.int c5), .val (.int c6), .val (.int c7), .val (.ref b101), .unset] [(.int c3)])) _
            by_cases hn3 : c3 < (0 : Int32)
            · refine XS.ifYes X117.here hx rfl (pc0 := 201) (pc' := 250) rfl (hb hby at_201) rfl (Jvm.Free.XT.i0_lt_t hn3) (by decide) (by decide) ?_
              show Steps p.tables e below (T117.setTop (mkF m 250 #[.val (.int p1), .val (.long q1), .second, .val (.int (5 : Int32)), .val (.int c0), .val (.int c1), .val (.int c2), .val (.int c3), .val (.int c4), .val (.int c5), .val (.int c6), .val (.int c7), .val (.ref b101), .unset] [])) _
              refine XS.iconst X117.here hx rfl (hb hby at_250) ?_
              show Steps p.tables e below (T117.setTop (mkF m 251 #[.val (.int p1), .val (.long q1), .second, .val (.int (5 : Int32)), .val (.int c0), .val (.int c1), .val (.int c2), .val (.int c3), .val (.int c4), .val (.int c5), .val (.int c6), .val (.int c7), .val (.ref b101), .unset] [(.int (0 : Int32))])) _
              rw [← hex, if_pos (Or.inr (Or.inr (Or.inr (Or.inl hn3))))] at k
              exact k
            · refine XS.ifNo X117.here hx rfl (hb hby at_201) rfl (Jvm.Free.XT.i0_lt_f hn3) ?_
              show Steps p.tables e below (T117.setTop (mkF m 204 #[.val (.int p1), .val (.long q1), .second, .val (.int (5 : Int32)), .val (.int c0), .val (.int c1), .val (.int c2), .val (.int c3), .val (.int c4), .val (.int c5), .val (.int c6), .val (.int c7), .val (.ref b101), .unset] [])) _
              refine XS.iloadN X117.here hx rfl (hb hby at_204) rfl ?_
              show Steps p.tables e below (T117.setTop (mkF m 205 #[.val (.int p1), .val (.long q1), .second, .val (.int (5 : Int32)), .val (.int c0), .val (.int c1), .val (.int c2), .val (.int c3), .val (.int c4), .val (.int c5), .val (.int c6), .val (.int c7), .val (.ref b101), .unset] [(.int (5 : Int32))])) _
              refine XS.iconst X117.here hx rfl (hb hby at_205) ?_
              show Steps p.tables e below (T117.setTop (mkF m 206 #[.val (.int p1), .val (.long q1), .second, .val (.int (5 : Int32)), .val (.int c0), .val (.int c1), .val (.int c2), .val (.int c3), .val (.int c4), .val (.int c5), .val (.int c6), .val (.int c7), .val (.ref b101), .unset] [(.int (4 : Int32)), (.int (5 : Int32))])) _
              refine XS.icmpNo X117.here hx rfl (hb hby at_206) rfl (by decide) ?_
              show Steps p.tables e below (T117.setTop (mkF m 209 #[.val (.int p1), .val (.long q1), .second, .val (.int (5 : Int32)), .val (.int c0), .val (.int c1), .val (.int c2), .val (.int c3), .val (.int c4), .val (.int c5), .val (.int c6), .val (.int c7), .val (.ref b101), .unset] [])) _
              refine XS.iload X117.here hx rfl (hb hby at_209) rfl ?_
              show Steps p.tables e below (T117.setTop (mkF m 211 #[.val (.int p1), .val (.long q1), .second, .val (.int (5 : Int32)), .val (.int c0), .val (.int c1), .val (.int c2), .val (.int c3), .val (.int c4), .val (.int c5), .val (.int c6), .val (.int c7), .val (.ref b101), .unset] [(.int c4)])) _
              by_cases hn4 : c4 < (0 : Int32)
              · refine XS.ifYes X117.here hx rfl (pc0 := 211) (pc' := 250) rfl (hb hby at_211) rfl (Jvm.Free.XT.i0_lt_t hn4) (by decide) (by decide) ?_
                show Steps p.tables e below (T117.setTop (mkF m 250 #[.val (.int p1), .val (.long q1), .second, .val (.int (5 : Int32)), .val (.int c0), .val (.int c1), .val (.int c2), .val (.int c3), .val (.int c4), .val (.int c5), .val (.int c6), .val (.int c7), .val (.ref b101), .unset] [])) _
                refine XS.iconst X117.here hx rfl (hb hby at_250) ?_
                show Steps p.tables e below (T117.setTop (mkF m 251 #[.val (.int p1), .val (.long q1), .second, .val (.int (5 : Int32)), .val (.int c0), .val (.int c1), .val (.int c2), .val (.int c3), .val (.int c4), .val (.int c5), .val (.int c6), .val (.int c7), .val (.ref b101), .unset] [(.int (0 : Int32))])) _
                rw [← hex, if_pos (Or.inr (Or.inr (Or.inr (Or.inr (hn4)))))] at k
                exact k
              · refine XS.ifNo X117.here hx rfl (hb hby at_211) rfl (Jvm.Free.XT.i0_lt_f hn4) ?_
                show Steps p.tables e below (T117.setTop (mkF m 214 #[.val (.int p1), .val (.long q1), .second, .val (.int (5 : Int32)), .val (.int c0), .val (.int c1), .val (.int c2), .val (.int c3), .val (.int c4), .val (.int c5), .val (.int c6), .val (.int c7), .val (.ref b101), .unset] [])) _
                refine XS.iloadN X117.here hx rfl (hb hby at_214) rfl ?_
                show Steps p.tables e below (T117.setTop (mkF m 215 #[.val (.int p1), .val (.long q1), .second, .val (.int (5 : Int32)), .val (.int c0), .val (.int c1), .val (.int c2), .val (.int c3), .val (.int c4), .val (.int c5), .val (.int c6), .val (.int c7), .val (.ref b101), .unset] [(.int (5 : Int32))])) _
                refine XS.iconst X117.here hx rfl (hb hby at_215) ?_
                show Steps p.tables e below (T117.setTop (mkF m 216 #[.val (.int p1), .val (.long q1), .second, .val (.int (5 : Int32)), .val (.int c0), .val (.int c1), .val (.int c2), .val (.int c3), .val (.int c4), .val (.int c5), .val (.int c6), .val (.int c7), .val (.ref b101), .unset] [(.int (5 : Int32)), (.int (5 : Int32))])) _
                refine XS.icmpYes X117.here hx rfl (pc0 := 216) (pc' := 224) rfl (hb hby at_216) rfl (by decide) (by decide) (by decide) ?_
                show Steps p.tables e below (T117.setTop (mkF m 224 #[.val (.int p1), .val (.long q1), .second, .val (.int (5 : Int32)), .val (.int c0), .val (.int c1), .val (.int c2), .val (.int c3), .val (.int c4), .val (.int c5), .val (.int c6), .val (.int c7), .val (.ref b101), .unset] [])) _
                refine XS.iloadN X117.here hx rfl (hb hby at_224) rfl ?_
                show Steps p.tables e below (T117.setTop (mkF m 225 #[.val (.int p1), .val (.long q1), .second, .val (.int (5 : Int32)), .val (.int c0), .val (.int c1), .val (.int c2), .val (.int c3), .val (.int c4), .val (.int c5), .val (.int c6), .val (.int c7), .val (.ref b101), .unset] [(.int (5 : Int32))])) _
                refine XS.bipush X117.here hx rfl (hb hby at_225) ?_
                show Steps p.tables e below (T117.setTop (mkF m 227 #[.val (.int p1), .val (.long q1), .second, .val (.int (5 : Int32)), .val (.int c0), .val (.int c1), .val (.int c2), .val (.int c3), .val (.int c4), .val (.int c5), .val (.int c6), .val (.int c7), .val (.ref b101), .unset] [(.int (6 : Int32)), (.int (5 : Int32))])) _
                refine XS.icmpYes X117.here hx rfl (pc0 := 227) (pc' := 235) rfl (hb hby at_227) rfl (by decide) (by decide) (by decide) ?_
                show Steps p.tables e below (T117.setTop (mkF m 235 #[.val (.int p1), .val (.long q1), .second, .val (.int (5 : Int32)), .val (.int c0), .val (.int c1), .val (.int c2), .val (.int c3), .val (.int c4), .val (.int c5), .val (.int c6), .val (.int c7), .val (.ref b101), .unset] [])) _
                refine XS.iloadN X117.here hx rfl (hb hby at_235) rfl ?_
                show Steps p.tables e below (T117.setTop (mkF m 236 #[.val (.int p1), .val (.long q1), .second, .val (.int (5 : Int32)), .val (.int c0), .val (.int c1), .val (.int c2), .val (.int c3), .val (.int c4), .val (.int c5), .val (.int c6), .val (.int c7), .val (.ref b101), .unset] [(.int (5 : Int32))])) _
                refine XS.bipush X117.here hx rfl (hb hby at_236) ?_
                show Steps p.tables e below (T117.setTop (mkF m 238 #[.val (.int p1), .val (.long q1), .second, .val (.int (5 : Int32)), .val (.int c0), .val (.int c1), .val (.int c2), .val (.int c3), .val (.int c4), .val (.int c5), .val (.int c6), .val (.int c7), .val (.ref b101), .unset] [(.int (7 : Int32)), (.int (5 : Int32))])) _
                refine XS.icmpYes X117.here hx rfl (pc0 := 238) (pc' := 246) rfl (hb hby at_238) rfl (by decide) (by decide) (by decide) ?_
                show Steps p.tables e below (T117.setTop (mkF m 246 #[.val (.int p1), .val (.long q1), .second, .val (.int (5 : Int32)), .val (.int c0), .val (.int c1), .val (.int c2), .val (.int c3), .val (.int c4), .val (.int c5), .val (.int c6), .val (.int c7), .val (.ref b101), .unset] [])) _
                refine XS.iconst X117.here hx rfl (hb hby at_246) ?_
                show Steps p.tables e below (T117.setTop (mkF m 247 #[.val (.int p1), .val (.long q1), .second, .val (.int (5 : Int32)), .val (.int c0), .val (.int c1), .val (.int c2), .val (.int c3), .val (.int c4), .val (.int c5), .val (.int c6), .val (.int c7), .val (.ref b101), .unset] [(.int (1 : Int32))])) _
                refine XS.goto X117.here hx rfl (pc0 := 247) (pc' := 251) rfl (hb hby at_247) (by decide) (by decide) ?_
                show Steps p.tables e below (T117.setTop (mkF m 251 #[.val (.int p1), .val (.long q1), .second, .val (.int (5 : Int32)), .val (.int c0), .val (.int c1), .val (.int c2), .val (.int c3), .val (.int c4), .val (.int c5), .val (.int c6), .val (.int c7), .val (.ref b101), .unset] [(.int (1 : Int32))])) _
                rw [← hex, if_neg (fun q => q.elim hn0 (fun q => q.elim hn1 (fun q => q.elim hn2 (fun q => q.elim hn3 hn4))))] at k
                exact k
    show own_G p.tables e below s _ _ _ (T117.setTop (mkF m 251 #[.val (.int p1), .val (.long q1), .second, .val (.int (5 : Int32)), .val (.int c0), .val (.int c1), .val (.int c2), .val (.int c3), .val (.int c4), .val (.int c5), .val (.int c6), .val (.int c7), .val (.ref b101), .unset] [(.int ex)]))
    refine own_go (fun t k => XS.istore X117.here hx rfl (hb hby at_251) rfl (l' := #[.val (.int p1), .val (.long q1), .second, .val (.int (5 : Int32)), .val (.int c0), .val (.int c1), .val (.int c2), .val (.int c3), .val (.int c4), .val (.int c5), .val (.int c6), .val (.int c7), .val (.ref b101), .val (.int ex)]) rfl k) ?_
    show own_G p.tables e below s _ _ _ (T117.setTop (mkF m 253 #[.val (.int p1), .val (.long q1), .second, .val (.int (5 : Int32)), .val (.int c0), .val (.int c1), .val (.int c2), .val (.int c3), .val (.int c4), .val (.int c5), .val (.int c6), .val (.int c7), .val (.ref b101), .val (.int ex)] []))
    refine own_go (fun t k => XS.aload X117.here hx rfl (hb hby at_253) rfl rfl k) ?_
    show own_G p.tables e below s _ _ _ (T117.setTop (mkF m 255 #[.val (.int p1), .val (.long q1), .second, .val (.int (5 : Int32)), .val (.int c0), .val (.int c1), .val (.int c2), .val (.int c3), .val (.int c4), .val (.int c5), .val (.int c6), .val (.int c7), .val (.ref b101), .val (.int ex)] [(.ref b101)]))
    obtain ⟨_, _, ⟨T120, L120, k120, n120⟩, -, X120, ⟨Lc120, hQ120, l120, y120, z120⟩, st120⟩ := Jvm.LawKit.callS X117 hx (y := (⟨"com/example/cartulary/cartulary/model/Syntax", "isAscii", "([B)Z"⟩ : MethodName)) hown (mvT hZ (hw _ (List.mem_of_getElem? (i := 2) rfl))) (mvT hZ (hw _ (List.mem_of_getElem? (i := 3) rfl))) (mvT hZ (hw _ (List.mem_of_getElem? (i := 4) rfl))) (mvT hZ (hw _ (List.mem_of_getElem? (i := 5) rfl))) (by decide) (backOf (W := 0) (rm1_5 l Z a0 hw [] b101 k101 c0 c1 c2 c3 c4 ex h117 n0 z119 v118 hex) hZ (hw _ (List.mem_of_getElem? (i := 5) rfl)) (hw _ (List.mem_of_getElem? (i := 4) rfl)) (by decide) (by decide)) (g := (mkF m 255 #[.val (.int p1), .val (.long q1), .second, .val (.int (5 : Int32)), .val (.int c0), .val (.int c1), .val (.int c2), .val (.int c3), .val (.int c4), .val (.int c5), .val (.int c6), .val (.int c7), .val (.ref b101), .val (.int ex)] [(.ref b101)])) rfl (by rw [hml]; rfl) (argsL := [(.ref b101)]) (rest := []) (lenOf pd___B_Z rfl) rfl (by show 2 * 0 + _ ≤ _; exact Nat.le_of_eq rfl) (hb hby at_255) (fun _ _ => ⟨rfl, e117, (by decide : 1 + 0 ≤ _), (by decide : 5 + 0 ≤ _)⟩)
    dsimp only [Pt.U, Pt.locs, Pt.cells, Pt.slots] at X120 l120 y120 z120 st120 hQ120
    subst l120 y120 z120
    obtain ⟨rfl, N120q, hh120⟩ := hQ120
    have N120 := Fr.app N117 N120q
    refine own_go st120 ?_
    show own_G p.tables e below s _ _ _ (T120.setTop (mkF m 258 #[.val (.int p1), .val (.long q1), .second, .val (.int (5 : Int32)), .val (.int c0), .val (.int c1), .val (.int c2), .val (.int c3), .val (.int c4), .val (.int c5), .val (.int c6), .val (.int c7), .val (.ref b101), .val (.int ex)] [(.int ex)]))
    refine own_go (fun t k => XS.iload X120.here hx rfl (hb hby at_258) rfl k) ?_
    show own_G p.tables e below s _ _ _ (T120.setTop (mkF m 260 #[.val (.int p1), .val (.long q1), .second, .val (.int (5 : Int32)), .val (.int c0), .val (.int c1), .val (.int c2), .val (.int c3), .val (.int c4), .val (.int c5), .val (.int c6), .val (.int c7), .val (.ref b101), .val (.int ex)] [(.int ex), (.int ex)]))
    refine own_go (fun t k => XS.icmpNo X120.here hx rfl (hb hby at_260) rfl (Jvm.Free.XT.ii_ne_f rfl) k) ?_
    show own_G p.tables e below s _ _ _ (T120.setTop (mkF m 263 #[.val (.int p1), .val (.long q1), .second, .val (.int (5 : Int32)), .val (.int c0), .val (.int c1), .val (.int c2), .val (.int c3), .val (.int c4), .val (.int c5), .val (.int c6), .val (.int c7), .val (.ref b101), .val (.int ex)] []))
    refine own_go (fun t k => XS.iconst X120.here hx rfl (hb hby at_263) k) ?_
    show own_G p.tables e below s _ _ _ (T120.setTop (mkF m 264 #[.val (.int p1), .val (.long q1), .second, .val (.int (5 : Int32)), .val (.int c0), .val (.int c1), .val (.int c2), .val (.int c3), .val (.int c4), .val (.int c5), .val (.int c6), .val (.int c7), .val (.ref b101), .val (.int ex)] [(.int (1 : Int32))]))
    refine own_go (fun t k => XS.goto X120.here hx rfl (pc0 := 264) (pc' := 268) rfl (hb hby at_264) (by decide) (by decide) k) ?_
    show own_G p.tables e below s _ _ _ (T120.setTop (mkF m 268 #[.val (.int p1), .val (.long q1), .second, .val (.int (5 : Int32)), .val (.int c0), .val (.int c1), .val (.int c2), .val (.int c3), .val (.int c4), .val (.int c5), .val (.int c6), .val (.int c7), .val (.ref b101), .val (.int ex)] [(.int (1 : Int32))]))
    exact own_retN X120 hx hlk (t := .boolean) (z' := (1 : Int32)) Bd.returns (by simp) (hb hby at_268) (rfl) (by rw [hh120]; exact ⟨rfl, N120⟩) (by decide) (by decide)
  · show own_G p.tables e below s _ _ _ (s₁.setTop (mkF m 69 #[.val (.int p1), .val (.long q1), .second, .val (.int (6 : Int32)), .val (.int c0), .val (.int c1), .val (.int c2), .val (.int c3), .val (.int c4), .val (.int c5), .val (.int c6), .val (.int c7), .unset, .unset] []))
    refine own_go (fun t k => XS.iloadN X0.here hx rfl (hb hby at_69) rfl k) ?_
    show own_G p.tables e below s _ _ _ (s₁.setTop (mkF m 70 #[.val (.int p1), .val (.long q1), .second, .val (.int (6 : Int32)), .val (.int c0), .val (.int c1), .val (.int c2), .val (.int c3), .val (.int c4), .val (.int c5), .val (.int c6), .val (.int c7), .unset, .unset] [(.int (6 : Int32))]))
    obtain ⟨T121, h121, k121, X121, e121, E121, A121, st121⟩ := newP X0 hx hZ (hw _ (List.mem_of_getElem? (i := 1) rfl)) e0 (g := (mkF m 70 #[.val (.int p1), .val (.long q1), .second, .val (.int (6 : Int32)), .val (.int c0), .val (.int c1), .val (.int c2), .val (.int c3), .val (.int c4), .val (.int c5), .val (.int c6), .val (.int c7), .unset, .unset] [(.int (6 : Int32))])) rfl (hb hby at_70) rfl (by decide) (cap := 6) (by decide) (by decide) (by decide) (by decide)
    obtain ⟨b121, g121⟩ : ∃ z, z = h0.size := ⟨_, rfl⟩
    rw [← g121] at A121 st121
    refine own_go st121 ?_
    have g122 := Nat.le_trans Z0 (Nat.le_of_eq g121.symm)
    have z123 := Nat.le_trans Z0 E121.1
    have v124 : Arv Z h121 b121 k121 .byte (6 : Int32) [(.int (0 : Int32)), (.int (0 : Int32)), (.int (0 : Int32)), (.int (0 : Int32)), (.int (0 : Int32)), (.int (0 : Int32))] (.int (0 : Int32)) := (Arv.new A121 (by decide)).pad (pad_rep [] (.int (0 : Int32)) 6)
    show own_G p.tables e below s _ _ _ (T121.setTop (mkF m 72 #[.val (.int p1), .val (.long q1), .second, .val (.int (6 : Int32)), .val (.int c0), .val (.int c1), .val (.int c2), .val (.int c3), .val (.int c4), .val (.int c5), .val (.int c6), .val (.int c7), .unset, .unset] [(.ref b121)]))
    refine own_go (fun t k => XS.astore X121.here hx rfl (hb hby at_72) rfl rfl (l' := #[.val (.int p1), .val (.long q1), .second, .val (.int (6 : Int32)), .val (.int c0), .val (.int c1), .val (.int c2), .val (.int c3), .val (.int c4), .val (.int c5), .val (.int c6), .val (.int c7), .val (.ref b121), .unset]) rfl k) ?_
    show own_G p.tables e below s _ _ _ (T121.setTop (mkF m 74 #[.val (.int p1), .val (.long q1), .second, .val (.int (6 : Int32)), .val (.int c0), .val (.int c1), .val (.int c2), .val (.int c3), .val (.int c4), .val (.int c5), .val (.int c6), .val (.int c7), .val (.ref b121), .unset] []))
    refine own_go (fun t k => XS.iloadN X121.here hx rfl (hb hby at_74) rfl k) ?_
    show own_G p.tables e below s _ _ _ (T121.setTop (mkF m 75 #[.val (.int p1), .val (.long q1), .second, .val (.int (6 : Int32)), .val (.int c0), .val (.int c1), .val (.int c2), .val (.int c3), .val (.int c4), .val (.int c5), .val (.int c6), .val (.int c7), .val (.ref b121), .unset] [(.int (6 : Int32))]))
    refine own_go (fun t k => XS.ifNo X121.here hx rfl (hb hby at_75) rfl (by decide) k) ?_
    show own_G p.tables e below s _ _ _ (T121.setTop (mkF m 78 #[.val (.int p1), .val (.long q1), .second, .val (.int (6 : Int32)), .val (.int c0), .val (.int c1), .val (.int c2), .val (.int c3), .val (.int c4), .val (.int c5), .val (.int c6), .val (.int c7), .val (.ref b121), .unset] []))
    refine own_go (fun t k => XS.aload X121.here hx rfl (hb hby at_78) rfl rfl k) ?_
    show own_G p.tables e below s _ _ _ (T121.setTop (mkF m 80 #[.val (.int p1), .val (.long q1), .second, .val (.int (6 : Int32)), .val (.int c0), .val (.int c1), .val (.int c2), .val (.int c3), .val (.int c4), .val (.int c5), .val (.int c6), .val (.int c7), .val (.ref b121), .unset] [(.ref b121)]))
    refine own_go (fun t k => XS.iconst X121.here hx rfl (hb hby at_80) k) ?_
    show own_G p.tables e below s _ _ _ (T121.setTop (mkF m 81 #[.val (.int p1), .val (.long q1), .second, .val (.int (6 : Int32)), .val (.int c0), .val (.int c1), .val (.int c2), .val (.int c3), .val (.int c4), .val (.int c5), .val (.int c6), .val (.int c7), .val (.ref b121), .unset] [(.int (0 : Int32)), (.ref b121)]))
    refine own_go (fun t k => XS.iload X121.here hx rfl (hb hby at_81) rfl k) ?_
    show own_G p.tables e below s _ _ _ (T121.setTop (mkF m 83 #[.val (.int p1), .val (.long q1), .second, .val (.int (6 : Int32)), .val (.int c0), .val (.int c1), .val (.int c2), .val (.int c3), .val (.int c4), .val (.int c5), .val (.int c6), .val (.int c7), .val (.ref b121), .unset] [(.int c0), (.int (0 : Int32)), (.ref b121)]))
    obtain ⟨cl125, Ar125, q125, S125, NN125, HH125, GG125⟩ := v124
    have hin125 : ¬ ((0 : Int32) < 0 ∨ cl125.slots.size ≤ ((0 : Int32)).toNatClampNeg) := inb_of S125 ⟨by decide, by decide⟩
    obtain ⟨T125, h125, X125, e125, W125, st125⟩ := stB X121 hx hZ e121 Ar125 (j := (0 : Int32)) hin125 (g := (mkF m 83 #[.val (.int p1), .val (.long q1), .second, .val (.int (6 : Int32)), .val (.int c0), .val (.int c1), .val (.int c2), .val (.int c3), .val (.int c4), .val (.int c5), .val (.int c6), .val (.int c7), .val (.ref b121), .unset] [(.int c0), (.int (0 : Int32)), (.ref b121)])) rfl rfl (hb hby at_83)
    refine own_go st125 ?_
    have v126 : Arv Z h125 b121 k121 .byte (6 : Int32) [(.int (nar .byte c0)), (.int (0 : Int32)), (.int (0 : Int32)), (.int (0 : Int32)), (.int (0 : Int32)), (.int (0 : Int32))] (.int (0 : Int32)) := Arv.set Ar125 q125 S125 NN125 HH125 GG125 (fits_nar_byte _) W125 0 rfl (Nat.le_of_ble_eq_true rfl)
    rw [hb0] at v126
    have z127 := Nat.le_trans z123 (Keep.of_wr W125).1
    have N125 := Fr.snoc X125 N0 g122
    show own_G p.tables e below s _ _ _ (T125.setTop (mkF m 84 #[.val (.int p1), .val (.long q1), .second, .val (.int (6 : Int32)), .val (.int c0), .val (.int c1), .val (.int c2), .val (.int c3), .val (.int c4), .val (.int c5), .val (.int c6), .val (.int c7), .val (.ref b121), .unset] []))
    refine own_go (fun t k => XS.iloadN X125.here hx rfl (hb hby at_84) rfl k) ?_
    show own_G p.tables e below s _ _ _ (T125.setTop (mkF m 85 #[.val (.int p1), .val (.long q1), .second, .val (.int (6 : Int32)), .val (.int c0), .val (.int c1), .val (.int c2), .val (.int c3), .val (.int c4), .val (.int c5), .val (.int c6), .val (.int c7), .val (.ref b121), .unset] [(.int (6 : Int32))]))
    refine own_go (fun t k => XS.iconst X125.here hx rfl (hb hby at_85) k) ?_
    show own_G p.tables e below s _ _ _ (T125.setTop (mkF m 86 #[.val (.int p1), .val (.long q1), .second, .val (.int (6 : Int32)), .val (.int c0), .val (.int c1), .val (.int c2), .val (.int c3), .val (.int c4), .val (.int c5), .val (.int c6), .val (.int c7), .val (.ref b121), .unset] [(.int (1 : Int32)), (.int (6 : Int32))]))
    refine own_go (fun t k => XS.icmpNo X125.here hx rfl (hb hby at_86) rfl (by decide) k) ?_
    show own_G p.tables e below s _ _ _ (T125.setTop (mkF m 89 #[.val (.int p1), .val (.long q1), .second, .val (.int (6 : Int32)), .val (.int c0), .val (.int c1), .val (.int c2), .val (.int c3), .val (.int c4), .val (.int c5), .val (.int c6), .val (.int c7), .val (.ref b121), .unset] []))
    refine own_go (fun t k => XS.aload X125.here hx rfl (hb hby at_89) rfl rfl k) ?_
    show own_G p.tables e below s _ _ _ (T125.setTop (mkF m 91 #[.val (.int p1), .val (.long q1), .second, .val (.int (6 : Int32)), .val (.int c0), .val (.int c1), .val (.int c2), .val (.int c3), .val (.int c4), .val (.int c5), .val (.int c6), .val (.int c7), .val (.ref b121), .unset] [(.ref b121)]))
    refine own_go (fun t k => XS.iconst X125.here hx rfl (hb hby at_91) k) ?_
    show own_G p.tables e below s _ _ _ (T125.setTop (mkF m 92 #[.val (.int p1), .val (.long q1), .second, .val (.int (6 : Int32)), .val (.int c0), .val (.int c1), .val (.int c2), .val (.int c3), .val (.int c4), .val (.int c5), .val (.int c6), .val (.int c7), .val (.ref b121), .unset] [(.int (1 : Int32)), (.ref b121)]))
    refine own_go (fun t k => XS.iload X125.here hx rfl (hb hby at_92) rfl k) ?_
    show own_G p.tables e below s _ _ _ (T125.setTop (mkF m 94 #[.val (.int p1), .val (.long q1), .second, .val (.int (6 : Int32)), .val (.int c0), .val (.int c1), .val (.int c2), .val (.int c3), .val (.int c4), .val (.int c5), .val (.int c6), .val (.int c7), .val (.ref b121), .unset] [(.int c1), (.int (1 : Int32)), (.ref b121)]))
    obtain ⟨cl128, Ar128, q128, S128, NN128, HH128, GG128⟩ := v126
    have hin128 : ¬ ((1 : Int32) < 0 ∨ cl128.slots.size ≤ ((1 : Int32)).toNatClampNeg) := inb_of S128 ⟨by decide, by decide⟩
    obtain ⟨T128, h128, X128, e128, W128, st128⟩ := stB X125 hx hZ e125 Ar128 (j := (1 : Int32)) hin128 (g := (mkF m 94 #[.val (.int p1), .val (.long q1), .second, .val (.int (6 : Int32)), .val (.int c0), .val (.int c1), .val (.int c2), .val (.int c3), .val (.int c4), .val (.int c5), .val (.int c6), .val (.int c7), .val (.ref b121), .unset] [(.int c1), (.int (1 : Int32)), (.ref b121)])) rfl rfl (hb hby at_94)
    refine own_go st128 ?_
    have v129 : Arv Z h128 b121 k121 .byte (6 : Int32) [(.int c0), (.int (nar .byte c1)), (.int (0 : Int32)), (.int (0 : Int32)), (.int (0 : Int32)), (.int (0 : Int32))] (.int (0 : Int32)) := Arv.set Ar128 q128 S128 NN128 HH128 GG128 (fits_nar_byte _) W128 1 rfl (Nat.le_of_ble_eq_true rfl)
    rw [hb1] at v129
    have z130 := Nat.le_trans z127 (Keep.of_wr W128).1
    have N128 := Fr.snoc X128 N125 g122
    show own_G p.tables e below s _ _ _ (T128.setTop (mkF m 95 #[.val (.int p1), .val (.long q1), .second, .val (.int (6 : Int32)), .val (.int c0), .val (.int c1), .val (.int c2), .val (.int c3), .val (.int c4), .val (.int c5), .val (.int c6), .val (.int c7), .val (.ref b121), .unset] []))
    refine own_go (fun t k => XS.iloadN X128.here hx rfl (hb hby at_95) rfl k) ?_
    show own_G p.tables e below s _ _ _ (T128.setTop (mkF m 96 #[.val (.int p1), .val (.long q1), .second, .val (.int (6 : Int32)), .val (.int c0), .val (.int c1), .val (.int c2), .val (.int c3), .val (.int c4), .val (.int c5), .val (.int c6), .val (.int c7), .val (.ref b121), .unset] [(.int (6 : Int32))]))
    refine own_go (fun t k => XS.iconst X128.here hx rfl (hb hby at_96) k) ?_
    show own_G p.tables e below s _ _ _ (T128.setTop (mkF m 97 #[.val (.int p1), .val (.long q1), .second, .val (.int (6 : Int32)), .val (.int c0), .val (.int c1), .val (.int c2), .val (.int c3), .val (.int c4), .val (.int c5), .val (.int c6), .val (.int c7), .val (.ref b121), .unset] [(.int (2 : Int32)), (.int (6 : Int32))]))
    refine own_go (fun t k => XS.icmpNo X128.here hx rfl (hb hby at_97) rfl (by decide) k) ?_
    show own_G p.tables e below s _ _ _ (T128.setTop (mkF m 100 #[.val (.int p1), .val (.long q1), .second, .val (.int (6 : Int32)), .val (.int c0), .val (.int c1), .val (.int c2), .val (.int c3), .val (.int c4), .val (.int c5), .val (.int c6), .val (.int c7), .val (.ref b121), .unset] []))
    refine own_go (fun t k => XS.aload X128.here hx rfl (hb hby at_100) rfl rfl k) ?_
    show own_G p.tables e below s _ _ _ (T128.setTop (mkF m 102 #[.val (.int p1), .val (.long q1), .second, .val (.int (6 : Int32)), .val (.int c0), .val (.int c1), .val (.int c2), .val (.int c3), .val (.int c4), .val (.int c5), .val (.int c6), .val (.int c7), .val (.ref b121), .unset] [(.ref b121)]))
    refine own_go (fun t k => XS.iconst X128.here hx rfl (hb hby at_102) k) ?_
    show own_G p.tables e below s _ _ _ (T128.setTop (mkF m 103 #[.val (.int p1), .val (.long q1), .second, .val (.int (6 : Int32)), .val (.int c0), .val (.int c1), .val (.int c2), .val (.int c3), .val (.int c4), .val (.int c5), .val (.int c6), .val (.int c7), .val (.ref b121), .unset] [(.int (2 : Int32)), (.ref b121)]))
    refine own_go (fun t k => XS.iload X128.here hx rfl (hb hby at_103) rfl k) ?_
    show own_G p.tables e below s _ _ _ (T128.setTop (mkF m 105 #[.val (.int p1), .val (.long q1), .second, .val (.int (6 : Int32)), .val (.int c0), .val (.int c1), .val (.int c2), .val (.int c3), .val (.int c4), .val (.int c5), .val (.int c6), .val (.int c7), .val (.ref b121), .unset] [(.int c2), (.int (2 : Int32)), (.ref b121)]))
    obtain ⟨cl131, Ar131, q131, S131, NN131, HH131, GG131⟩ := v129
    have hin131 : ¬ ((2 : Int32) < 0 ∨ cl131.slots.size ≤ ((2 : Int32)).toNatClampNeg) := inb_of S131 ⟨by decide, by decide⟩
    obtain ⟨T131, h131, X131, e131, W131, st131⟩ := stB X128 hx hZ e128 Ar131 (j := (2 : Int32)) hin131 (g := (mkF m 105 #[.val (.int p1), .val (.long q1), .second, .val (.int (6 : Int32)), .val (.int c0), .val (.int c1), .val (.int c2), .val (.int c3), .val (.int c4), .val (.int c5), .val (.int c6), .val (.int c7), .val (.ref b121), .unset] [(.int c2), (.int (2 : Int32)), (.ref b121)])) rfl rfl (hb hby at_105)
    refine own_go st131 ?_
    have v132 : Arv Z h131 b121 k121 .byte (6 : Int32) [(.int c0), (.int c1), (.int (nar .byte c2)), (.int (0 : Int32)), (.int (0 : Int32)), (.int (0 : Int32))] (.int (0 : Int32)) := Arv.set Ar131 q131 S131 NN131 HH131 GG131 (fits_nar_byte _) W131 2 rfl (Nat.le_of_ble_eq_true rfl)
    rw [hb2] at v132
    have z133 := Nat.le_trans z130 (Keep.of_wr W131).1
    have N131 := Fr.snoc X131 N128 g122
    show own_G p.tables e below s _ _ _ (T131.setTop (mkF m 106 #[.val (.int p1), .val (.long q1), .second, .val (.int (6 : Int32)), .val (.int c0), .val (.int c1), .val (.int c2), .val (.int c3), .val (.int c4), .val (.int c5), .val (.int c6), .val (.int c7), .val (.ref b121), .unset] []))
    refine own_go (fun t k => XS.iloadN X131.here hx rfl (hb hby at_106) rfl k) ?_
    show own_G p.tables e below s _ _ _ (T131.setTop (mkF m 107 #[.val (.int p1), .val (.long q1), .second, .val (.int (6 : Int32)), .val (.int c0), .val (.int c1), .val (.int c2), .val (.int c3), .val (.int c4), .val (.int c5), .val (.int c6), .val (.int c7), .val (.ref b121), .unset] [(.int (6 : Int32))]))
    refine own_go (fun t k => XS.iconst X131.here hx rfl (hb hby at_107) k) ?_
    show own_G p.tables e below s _ _ _ (T131.setTop (mkF m 108 #[.val (.int p1), .val (.long q1), .second, .val (.int (6 : Int32)), .val (.int c0), .val (.int c1), .val (.int c2), .val (.int c3), .val (.int c4), .val (.int c5), .val (.int c6), .val (.int c7), .val (.ref b121), .unset] [(.int (3 : Int32)), (.int (6 : Int32))]))
    refine own_go (fun t k => XS.icmpNo X131.here hx rfl (hb hby at_108) rfl (by decide) k) ?_
    show own_G p.tables e below s _ _ _ (T131.setTop (mkF m 111 #[.val (.int p1), .val (.long q1), .second, .val (.int (6 : Int32)), .val (.int c0), .val (.int c1), .val (.int c2), .val (.int c3), .val (.int c4), .val (.int c5), .val (.int c6), .val (.int c7), .val (.ref b121), .unset] []))
    refine own_go (fun t k => XS.aload X131.here hx rfl (hb hby at_111) rfl rfl k) ?_
    show own_G p.tables e below s _ _ _ (T131.setTop (mkF m 113 #[.val (.int p1), .val (.long q1), .second, .val (.int (6 : Int32)), .val (.int c0), .val (.int c1), .val (.int c2), .val (.int c3), .val (.int c4), .val (.int c5), .val (.int c6), .val (.int c7), .val (.ref b121), .unset] [(.ref b121)]))
    refine own_go (fun t k => XS.iconst X131.here hx rfl (hb hby at_113) k) ?_
    show own_G p.tables e below s _ _ _ (T131.setTop (mkF m 114 #[.val (.int p1), .val (.long q1), .second, .val (.int (6 : Int32)), .val (.int c0), .val (.int c1), .val (.int c2), .val (.int c3), .val (.int c4), .val (.int c5), .val (.int c6), .val (.int c7), .val (.ref b121), .unset] [(.int (3 : Int32)), (.ref b121)]))
    refine own_go (fun t k => XS.iload X131.here hx rfl (hb hby at_114) rfl k) ?_
    show own_G p.tables e below s _ _ _ (T131.setTop (mkF m 116 #[.val (.int p1), .val (.long q1), .second, .val (.int (6 : Int32)), .val (.int c0), .val (.int c1), .val (.int c2), .val (.int c3), .val (.int c4), .val (.int c5), .val (.int c6), .val (.int c7), .val (.ref b121), .unset] [(.int c3), (.int (3 : Int32)), (.ref b121)]))
    obtain ⟨cl134, Ar134, q134, S134, NN134, HH134, GG134⟩ := v132
    have hin134 : ¬ ((3 : Int32) < 0 ∨ cl134.slots.size ≤ ((3 : Int32)).toNatClampNeg) := inb_of S134 ⟨by decide, by decide⟩
    obtain ⟨T134, h134, X134, e134, W134, st134⟩ := stB X131 hx hZ e131 Ar134 (j := (3 : Int32)) hin134 (g := (mkF m 116 #[.val (.int p1), .val (.long q1), .second, .val (.int (6 : Int32)), .val (.int c0), .val (.int c1), .val (.int c2), .val (.int c3), .val (.int c4), .val (.int c5), .val (.int c6), .val (.int c7), .val (.ref b121), .unset] [(.int c3), (.int (3 : Int32)), (.ref b121)])) rfl rfl (hb hby at_116)
    refine own_go st134 ?_
    have v135 : Arv Z h134 b121 k121 .byte (6 : Int32) [(.int c0), (.int c1), (.int c2), (.int (nar .byte c3)), (.int (0 : Int32)), (.int (0 : Int32))] (.int (0 : Int32)) := Arv.set Ar134 q134 S134 NN134 HH134 GG134 (fits_nar_byte _) W134 3 rfl (Nat.le_of_ble_eq_true rfl)
    rw [hb3] at v135
    have z136 := Nat.le_trans z133 (Keep.of_wr W134).1
    have N134 := Fr.snoc X134 N131 g122
    show own_G p.tables e below s _ _ _ (T134.setTop (mkF m 117 #[.val (.int p1), .val (.long q1), .second, .val (.int (6 : Int32)), .val (.int c0), .val (.int c1), .val (.int c2), .val (.int c3), .val (.int c4), .val (.int c5), .val (.int c6), .val (.int c7), .val (.ref b121), .unset] []))
    refine own_go (fun t k => XS.iloadN X134.here hx rfl (hb hby at_117) rfl k) ?_
    show own_G p.tables e below s _ _ _ (T134.setTop (mkF m 118 #[.val (.int p1), .val (.long q1), .second, .val (.int (6 : Int32)), .val (.int c0), .val (.int c1), .val (.int c2), .val (.int c3), .val (.int c4), .val (.int c5), .val (.int c6), .val (.int c7), .val (.ref b121), .unset] [(.int (6 : Int32))]))
    refine own_go (fun t k => XS.iconst X134.here hx rfl (hb hby at_118) k) ?_
    show own_G p.tables e below s _ _ _ (T134.setTop (mkF m 119 #[.val (.int p1), .val (.long q1), .second, .val (.int (6 : Int32)), .val (.int c0), .val (.int c1), .val (.int c2), .val (.int c3), .val (.int c4), .val (.int c5), .val (.int c6), .val (.int c7), .val (.ref b121), .unset] [(.int (4 : Int32)), (.int (6 : Int32))]))
    refine own_go (fun t k => XS.icmpNo X134.here hx rfl (hb hby at_119) rfl (by decide) k) ?_
    show own_G p.tables e below s _ _ _ (T134.setTop (mkF m 122 #[.val (.int p1), .val (.long q1), .second, .val (.int (6 : Int32)), .val (.int c0), .val (.int c1), .val (.int c2), .val (.int c3), .val (.int c4), .val (.int c5), .val (.int c6), .val (.int c7), .val (.ref b121), .unset] []))
    refine own_go (fun t k => XS.aload X134.here hx rfl (hb hby at_122) rfl rfl k) ?_
    show own_G p.tables e below s _ _ _ (T134.setTop (mkF m 124 #[.val (.int p1), .val (.long q1), .second, .val (.int (6 : Int32)), .val (.int c0), .val (.int c1), .val (.int c2), .val (.int c3), .val (.int c4), .val (.int c5), .val (.int c6), .val (.int c7), .val (.ref b121), .unset] [(.ref b121)]))
    refine own_go (fun t k => XS.iconst X134.here hx rfl (hb hby at_124) k) ?_
    show own_G p.tables e below s _ _ _ (T134.setTop (mkF m 125 #[.val (.int p1), .val (.long q1), .second, .val (.int (6 : Int32)), .val (.int c0), .val (.int c1), .val (.int c2), .val (.int c3), .val (.int c4), .val (.int c5), .val (.int c6), .val (.int c7), .val (.ref b121), .unset] [(.int (4 : Int32)), (.ref b121)]))
    refine own_go (fun t k => XS.iload X134.here hx rfl (hb hby at_125) rfl k) ?_
    show own_G p.tables e below s _ _ _ (T134.setTop (mkF m 127 #[.val (.int p1), .val (.long q1), .second, .val (.int (6 : Int32)), .val (.int c0), .val (.int c1), .val (.int c2), .val (.int c3), .val (.int c4), .val (.int c5), .val (.int c6), .val (.int c7), .val (.ref b121), .unset] [(.int c4), (.int (4 : Int32)), (.ref b121)]))
    obtain ⟨cl137, Ar137, q137, S137, NN137, HH137, GG137⟩ := v135
    have hin137 : ¬ ((4 : Int32) < 0 ∨ cl137.slots.size ≤ ((4 : Int32)).toNatClampNeg) := inb_of S137 ⟨by decide, by decide⟩
    obtain ⟨T137, h137, X137, e137, W137, st137⟩ := stB X134 hx hZ e134 Ar137 (j := (4 : Int32)) hin137 (g := (mkF m 127 #[.val (.int p1), .val (.long q1), .second, .val (.int (6 : Int32)), .val (.int c0), .val (.int c1), .val (.int c2), .val (.int c3), .val (.int c4), .val (.int c5), .val (.int c6), .val (.int c7), .val (.ref b121), .unset] [(.int c4), (.int (4 : Int32)), (.ref b121)])) rfl rfl (hb hby at_127)
    refine own_go st137 ?_
    have v138 : Arv Z h137 b121 k121 .byte (6 : Int32) [(.int c0), (.int c1), (.int c2), (.int c3), (.int (nar .byte c4)), (.int (0 : Int32))] (.int (0 : Int32)) := Arv.set Ar137 q137 S137 NN137 HH137 GG137 (fits_nar_byte _) W137 4 rfl (Nat.le_of_ble_eq_true rfl)
    rw [hb4] at v138
    have z139 := Nat.le_trans z136 (Keep.of_wr W137).1
    have N137 := Fr.snoc X137 N134 g122
    show own_G p.tables e below s _ _ _ (T137.setTop (mkF m 128 #[.val (.int p1), .val (.long q1), .second, .val (.int (6 : Int32)), .val (.int c0), .val (.int c1), .val (.int c2), .val (.int c3), .val (.int c4), .val (.int c5), .val (.int c6), .val (.int c7), .val (.ref b121), .unset] []))
    refine own_go (fun t k => XS.iloadN X137.here hx rfl (hb hby at_128) rfl k) ?_
    show own_G p.tables e below s _ _ _ (T137.setTop (mkF m 129 #[.val (.int p1), .val (.long q1), .second, .val (.int (6 : Int32)), .val (.int c0), .val (.int c1), .val (.int c2), .val (.int c3), .val (.int c4), .val (.int c5), .val (.int c6), .val (.int c7), .val (.ref b121), .unset] [(.int (6 : Int32))]))
    refine own_go (fun t k => XS.iconst X137.here hx rfl (hb hby at_129) k) ?_
    show own_G p.tables e below s _ _ _ (T137.setTop (mkF m 130 #[.val (.int p1), .val (.long q1), .second, .val (.int (6 : Int32)), .val (.int c0), .val (.int c1), .val (.int c2), .val (.int c3), .val (.int c4), .val (.int c5), .val (.int c6), .val (.int c7), .val (.ref b121), .unset] [(.int (5 : Int32)), (.int (6 : Int32))]))
    refine own_go (fun t k => XS.icmpNo X137.here hx rfl (hb hby at_130) rfl (by decide) k) ?_
    show own_G p.tables e below s _ _ _ (T137.setTop (mkF m 133 #[.val (.int p1), .val (.long q1), .second, .val (.int (6 : Int32)), .val (.int c0), .val (.int c1), .val (.int c2), .val (.int c3), .val (.int c4), .val (.int c5), .val (.int c6), .val (.int c7), .val (.ref b121), .unset] []))
    refine own_go (fun t k => XS.aload X137.here hx rfl (hb hby at_133) rfl rfl k) ?_
    show own_G p.tables e below s _ _ _ (T137.setTop (mkF m 135 #[.val (.int p1), .val (.long q1), .second, .val (.int (6 : Int32)), .val (.int c0), .val (.int c1), .val (.int c2), .val (.int c3), .val (.int c4), .val (.int c5), .val (.int c6), .val (.int c7), .val (.ref b121), .unset] [(.ref b121)]))
    refine own_go (fun t k => XS.iconst X137.here hx rfl (hb hby at_135) k) ?_
    show own_G p.tables e below s _ _ _ (T137.setTop (mkF m 136 #[.val (.int p1), .val (.long q1), .second, .val (.int (6 : Int32)), .val (.int c0), .val (.int c1), .val (.int c2), .val (.int c3), .val (.int c4), .val (.int c5), .val (.int c6), .val (.int c7), .val (.ref b121), .unset] [(.int (5 : Int32)), (.ref b121)]))
    refine own_go (fun t k => XS.iload X137.here hx rfl (hb hby at_136) rfl k) ?_
    show own_G p.tables e below s _ _ _ (T137.setTop (mkF m 138 #[.val (.int p1), .val (.long q1), .second, .val (.int (6 : Int32)), .val (.int c0), .val (.int c1), .val (.int c2), .val (.int c3), .val (.int c4), .val (.int c5), .val (.int c6), .val (.int c7), .val (.ref b121), .unset] [(.int c5), (.int (5 : Int32)), (.ref b121)]))
    obtain ⟨cl140, Ar140, q140, S140, NN140, HH140, GG140⟩ := v138
    have hin140 : ¬ ((5 : Int32) < 0 ∨ cl140.slots.size ≤ ((5 : Int32)).toNatClampNeg) := inb_of S140 ⟨by decide, by decide⟩
    obtain ⟨T140, h140, X140, e140, W140, st140⟩ := stB X137 hx hZ e137 Ar140 (j := (5 : Int32)) hin140 (g := (mkF m 138 #[.val (.int p1), .val (.long q1), .second, .val (.int (6 : Int32)), .val (.int c0), .val (.int c1), .val (.int c2), .val (.int c3), .val (.int c4), .val (.int c5), .val (.int c6), .val (.int c7), .val (.ref b121), .unset] [(.int c5), (.int (5 : Int32)), (.ref b121)])) rfl rfl (hb hby at_138)
    refine own_go st140 ?_
    have v141 : Arv Z h140 b121 k121 .byte (6 : Int32) [(.int c0), (.int c1), (.int c2), (.int c3), (.int c4), (.int (nar .byte c5))] (.int (0 : Int32)) := Arv.set Ar140 q140 S140 NN140 HH140 GG140 (fits_nar_byte _) W140 5 rfl (Nat.le_of_ble_eq_true rfl)
    rw [hb5] at v141
    have z142 := Nat.le_trans z139 (Keep.of_wr W140).1
    have N140 := Fr.snoc X140 N137 g122
    show own_G p.tables e below s _ _ _ (T140.setTop (mkF m 139 #[.val (.int p1), .val (.long q1), .second, .val (.int (6 : Int32)), .val (.int c0), .val (.int c1), .val (.int c2), .val (.int c3), .val (.int c4), .val (.int c5), .val (.int c6), .val (.int c7), .val (.ref b121), .unset] []))
    refine own_go (fun t k => XS.iloadN X140.here hx rfl (hb hby at_139) rfl k) ?_
    show own_G p.tables e below s _ _ _ (T140.setTop (mkF m 140 #[.val (.int p1), .val (.long q1), .second, .val (.int (6 : Int32)), .val (.int c0), .val (.int c1), .val (.int c2), .val (.int c3), .val (.int c4), .val (.int c5), .val (.int c6), .val (.int c7), .val (.ref b121), .unset] [(.int (6 : Int32))]))
    refine own_go (fun t k => XS.bipush X140.here hx rfl (hb hby at_140) k) ?_
    show own_G p.tables e below s _ _ _ (T140.setTop (mkF m 142 #[.val (.int p1), .val (.long q1), .second, .val (.int (6 : Int32)), .val (.int c0), .val (.int c1), .val (.int c2), .val (.int c3), .val (.int c4), .val (.int c5), .val (.int c6), .val (.int c7), .val (.ref b121), .unset] [(.int (6 : Int32)), (.int (6 : Int32))]))
    refine own_go (fun t k => XS.icmpYes X140.here hx rfl (pc0 := 142) (pc' := 152) rfl (hb hby at_142) rfl (by decide) (by decide) (by decide) k) ?_
    show own_G p.tables e below s _ _ _ (T140.setTop (mkF m 152 #[.val (.int p1), .val (.long q1), .second, .val (.int (6 : Int32)), .val (.int c0), .val (.int c1), .val (.int c2), .val (.int c3), .val (.int c4), .val (.int c5), .val (.int c6), .val (.int c7), .val (.ref b121), .unset] []))
    refine own_go (fun t k => XS.iloadN X140.here hx rfl (hb hby at_152) rfl k) ?_
    show own_G p.tables e below s _ _ _ (T140.setTop (mkF m 153 #[.val (.int p1), .val (.long q1), .second, .val (.int (6 : Int32)), .val (.int c0), .val (.int c1), .val (.int c2), .val (.int c3), .val (.int c4), .val (.int c5), .val (.int c6), .val (.int c7), .val (.ref b121), .unset] [(.int (6 : Int32))]))
    refine own_go (fun t k => XS.bipush X140.here hx rfl (hb hby at_153) k) ?_
    show own_G p.tables e below s _ _ _ (T140.setTop (mkF m 155 #[.val (.int p1), .val (.long q1), .second, .val (.int (6 : Int32)), .val (.int c0), .val (.int c1), .val (.int c2), .val (.int c3), .val (.int c4), .val (.int c5), .val (.int c6), .val (.int c7), .val (.ref b121), .unset] [(.int (7 : Int32)), (.int (6 : Int32))]))
    refine own_go (fun t k => XS.icmpYes X140.here hx rfl (pc0 := 155) (pc' := 165) rfl (hb hby at_155) rfl (by decide) (by decide) (by decide) k) ?_
    show own_G p.tables e below s _ _ _ (T140.setTop (mkF m 165 #[.val (.int p1), .val (.long q1), .second, .val (.int (6 : Int32)), .val (.int c0), .val (.int c1), .val (.int c2), .val (.int c3), .val (.int c4), .val (.int c5), .val (.int c6), .val (.int c7), .val (.ref b121), .unset] []))
    refine own_go (fun t k => XS.iloadN X140.here hx rfl (hb hby at_165) rfl k) ?_
    show own_G p.tables e below s _ _ _ (T140.setTop (mkF m 166 #[.val (.int p1), .val (.long q1), .second, .val (.int (6 : Int32)), .val (.int c0), .val (.int c1), .val (.int c2), .val (.int c3), .val (.int c4), .val (.int c5), .val (.int c6), .val (.int c7), .val (.ref b121), .unset] [(.int (6 : Int32))]))
    refine own_go (fun t k => XS.ifNo X140.here hx rfl (hb hby at_166) rfl (by decide) k) ?_
    show own_G p.tables e below s _ _ _ (T140.setTop (mkF m 169 #[.val (.int p1), .val (.long q1), .second, .val (.int (6 : Int32)), .val (.int c0), .val (.int c1), .val (.int c2), .val (.int c3), .val (.int c4), .val (.int c5), .val (.int c6), .val (.int c7), .val (.ref b121), .unset] []))
    refine own_go (fun t k => XS.iload X140.here hx rfl (hb hby at_169) rfl k) ?_
    show own_G p.tables e below s _ _ _ (T140.setTop (mkF m 171 #[.val (.int p1), .val (.long q1), .second, .val (.int (6 : Int32)), .val (.int c0), .val (.int c1), .val (.int c2), .val (.int c3), .val (.int c4), .val (.int c5), .val (.int c6), .val (.int c7), .val (.ref b121), .unset] [(.int c0)]))
    obtain ⟨ex, hex⟩ : ∃ z, (if c0 < (0 : Int32) ∨ c1 < (0 : Int32) ∨ c2 < (0 : Int32) ∨ c3 < (0 : Int32) ∨ c4 < (0 : Int32) ∨ c5 < (0 : Int32) then (0 : Int32) else 1) = z := ⟨_, rfl⟩
    refine own_go (A := (T140.setTop (mkF m 251 #[.val (.int p1), .val (.long q1), .second, .val (.int (6 : Int32)), .val (.int c0), .val (.int c1), .val (.int c2), .val (.int c3), .val (.int c4), .val (.int c5), .val (.int c6), .val (.int c7), .val (.ref b121), .unset] [(.int ex)]))) (fun t k => ?_) ?_
    · show Steps p.tables e below (T140.setTop (mkF m 171 #[.val (.int p1), .val (.long q1), .second, .val (.int (6 : Int32)), .val (.int c0), .val (.int c1), .val (.int c2), .val (.int c3), .val (.int c4), .val (.int c5), .val (.int c6), .val (.int c7), .val (.ref b121), .unset] [(.int c0)])) _
      by_cases hn0 : c0 < (0 : Int32)
      · refine XS.ifYes X140.here hx rfl (pc0 := 171) (pc' := 250) rfl (hb hby at_171) rfl (Jvm.Free.XT.i0_lt_t hn0) (by decide) (by decide) ?_
        show Steps p.tables e below (T140.setTop (mkF m 250 #[.val (.int p1), .val (.long q1), .second, .val (.int (6 : Int32)), .val (.int c0), .val (.int c1), .val (.int c2), .val (.int c3), .val (.int c4), .val (.int c5), .val (.int c6), .val (.int c7), .val (.ref b121), .unset] [])) _
        refine XS.iconst X140.here hx rfl (hb hby at_250) ?_
        show Steps p.tables e below (T140.setTop (mkF m 251 #[.val (.int p1), .val (.long q1), .second, .val (.int (6 : Int32)), .val (.int c0), .val (.int c1), .val (.int c2), .val (.int c3), .val (.int c4), .val (.int c5), .val (.int c6), .val (.int c7), .val (.ref b121), .unset] [(.int (0 : Int32))])) _
        rw [← hex, if_pos (Or.inl hn0)] at k
        exact k
      · refine XS.ifNo X140.here hx rfl (hb hby at_171) rfl (Jvm.Free.XT.i0_lt_f hn0) ?_
        show Steps p.tables e below (T140.setTop (mkF m 174 #[.val (.int p1), .val (.long q1), .second, .val (.int (6 : Int32)), .val (.int c0), .val (.int c1), .val (.int c2), .val (.int c3), .val (.int c4), .val (.int c5), .val (.int c6), .val (.int c7), .val (.ref b121), .unset] [])) _
        refine XS.iloadN X140.here hx rfl (hb hby at_174) rfl ?_
        show Steps p.tables e below (T140.setTop (mkF m 175 #[.val (.int p1), .val (.long q1), .second, .val (.int (6 : Int32)), .val (.int c0), .val (.int c1), .val (.int c2), .val (.int c3), .val (.int c4), .val (.int c5), .val (.int c6), .val (.int c7), .val (.ref b121), .unset] [(.int (6 : Int32))])) _
        refine XS.iconst X140.here hx rfl (hb hby at_175) ?_
        show Steps p.tables e below (T140.setTop (mkF m 176 #[.val (.int p1), .val (.long q1), .second, .val (.int (6 : Int32)), .val (.int c0), .val (.int c1), .val (.int c2), .val (.int c3), .val (.int c4), .val (.int c5), .val (.int c6), .val (.int c7), .val (.ref b121), .unset] [(.int (1 : Int32)), (.int (6 : Int32))])) _
        refine XS.icmpNo X140.here hx rfl (hb hby at_176) rfl (by decide) ?_
        show Steps p.tables e below (T140.setTop (mkF m 179 #[.val (.int p1), .val (.long q1), .second, .val (.int (6 : Int32)), .val (.int c0), .val (.int c1), .val (.int c2), .val (.int c3), .val (.int c4), .val (.int c5), .val (.int c6), .val (.int c7), .val (.ref b121), .unset] [])) _
        refine XS.iload X140.here hx rfl (hb hby at_179) rfl ?_
        show Steps p.tables e below (T140.setTop (mkF m 181 #[.val (.int p1), .val (.long q1), .second, .val (.int (6 : Int32)), .val (.int c0), .val (.int c1), .val (.int c2), .val (.int c3), .val (.int c4), .val (.int c5), .val (.int c6), .val (.int c7), .val (.ref b121), .unset] [(.int c1)])) _
        by_cases hn1 : c1 < (0 : Int32)
        · refine XS.ifYes X140.here hx rfl (pc0 := 181) (pc' := 250) rfl (hb hby at_181) rfl (Jvm.Free.XT.i0_lt_t hn1) (by decide) (by decide) ?_
          show Steps p.tables e below (T140.setTop (mkF m 250 #[.val (.int p1), .val (.long q1), .second, .val (.int (6 : Int32)), .val (.int c0), .val (.int c1), .val (.int c2), .val (.int c3), .val (.int c4), .val (.int c5), .val (.int c6), .val (.int c7), .val (.ref b121), .unset] [])) _
          refine XS.iconst X140.here hx rfl (hb hby at_250) ?_
          show Steps p.tables e below (T140.setTop (mkF m 251 #[.val (.int p1), .val (.long q1), .second, .val (.int (6 : Int32)), .val (.int c0), .val (.int c1), .val (.int c2), .val (.int c3), .val (.int c4), .val (.int c5), .val (.int c6), .val (.int c7), .val (.ref b121), .unset] [(.int (0 : Int32))])) _
          rw [← hex, if_pos (Or.inr (Or.inl hn1))] at k
          exact k
        · refine XS.ifNo X140.here hx rfl (hb hby at_181) rfl (Jvm.Free.XT.i0_lt_f hn1) ?_
          show Steps p.tables e below (T140.setTop (mkF m 184 #[.val (.int p1), .val (.long q1), .second, .val (.int (6 : Int32)), .val (.int c0), .val (.int c1), .val (.int c2), .val (.int c3), .val (.int c4), .val (.int c5), .val (.int c6), .val (.int c7), .val (.ref b121), .unset] [])) _
          refine XS.iloadN X140.here hx rfl (hb hby at_184) rfl ?_
          show Steps p.tables e below (T140.setTop (mkF m 185 #[.val (.int p1), .val (.long q1), .second, .val (.int (6 : Int32)), .val (.int c0), .val (.int c1), .val (.int c2), .val (.int c3), .val (.int c4), .val (.int c5), .val (.int c6), .val (.int c7), .val (.ref b121), .unset] [(.int (6 : Int32))])) _
          refine XS.iconst X140.here hx rfl (hb hby at_185) ?_
          show Steps p.tables e below (T140.setTop (mkF m 186 #[.val (.int p1), .val (.long q1), .second, .val (.int (6 : Int32)), .val (.int c0), .val (.int c1), .val (.int c2), .val (.int c3), .val (.int c4), .val (.int c5), .val (.int c6), .val (.int c7), .val (.ref b121), .unset] [(.int (2 : Int32)), (.int (6 : Int32))])) _
          refine XS.icmpNo X140.here hx rfl (hb hby at_186) rfl (by decide) ?_
          show Steps p.tables e below (T140.setTop (mkF m 189 #[.val (.int p1), .val (.long q1), .second, .val (.int (6 : Int32)), .val (.int c0), .val (.int c1), .val (.int c2), .val (.int c3), .val (.int c4), .val (.int c5), .val (.int c6), .val (.int c7), .val (.ref b121), .unset] [])) _
          refine XS.iload X140.here hx rfl (hb hby at_189) rfl ?_
          show Steps p.tables e below (T140.setTop (mkF m 191 #[.val (.int p1), .val (.long q1), .second, .val (.int (6 : Int32)), .val (.int c0), .val (.int c1), .val (.int c2), .val (.int c3), .val (.int c4), .val (.int c5), .val (.int c6), .val (.int c7), .val (.ref b121), .unset] [(.int c2)])) _
          by_cases hn2 : c2 < (0 : Int32)
          · refine XS.ifYes X140.here hx rfl (pc0 := 191) (pc' := 250) rfl (hb hby at_191) rfl (Jvm.Free.XT.i0_lt_t hn2) (by decide) (by decide) ?_
            show Steps p.tables e below (T140.setTop (mkF m 250 #[.val (.int p1), .val (.long q1), .second, .val (.int (6 : Int32)), .val (.int c0), .val (.int c1), .val (.int c2), .val (.int c3), .val (.int c4), .val (.int c5), .val (.int c6), .val (.int c7), .val (.ref b121), .unset] [])) _
            refine XS.iconst X140.here hx rfl (hb hby at_250) ?_
            show Steps p.tables e below (T140.setTop (mkF m 251 #[.val (.int p1), .val (.long q1), .second, .val (.int (6 : Int32)), .val (.int c0), .val (.int c1), .val (.int c2), .val (.int c3), .val (.int c4), .val (.int c5), .val (.int c6), .val (.int c7), .val (.ref b121), .unset] [(.int (0 : Int32))])) _
            rw [← hex, if_pos (Or.inr (Or.inr (Or.inl hn2)))] at k
            exact k
          · refine XS.ifNo X140.here hx rfl (hb hby at_191) rfl (Jvm.Free.XT.i0_lt_f hn2) ?_
            show Steps p.tables e below (T140.setTop (mkF m 194 #[.val (.int p1), .val (.long q1), .second, .val (.int (6 : Int32)), .val (.int c0), .val (.int c1), .val (.int c2), .val (.int c3), .val (.int c4), .val (.int c5), .val (.int c6), .val (.int c7), .val (.ref b121), .unset] [])) _
            refine XS.iloadN X140.here hx rfl (hb hby at_194) rfl ?_
            show Steps p.tables e below (T140.setTop (mkF m 195 #[.val (.int p1), .val (.long q1), .second, .val (.int (6 : Int32)), .val (.int c0), .val (.int c1), .val (.int c2), .val (.int c3), .val (.int c4), .val (.int c5), .val (.int c6), .val (.int c7), .val (.ref b121), .unset] [(.int (6 : Int32))])) _
            refine XS.iconst X140.here hx rfl (hb hby at_195) ?_
            show Steps p.tables e below (T140.setTop (mkF m 196 #[.val (.int p1), .val (.long q1), .second, .val (.int (6 : Int32)), .val (.int c0), .val (.int c1), .val (.int c2), .val (.int c3), .val (.int c4), .val (.int c5), .val (.int c6), .val (.int c7), .val (.ref b121), .unset] [(.int (3 : Int32)), (.int (6 : Int32))])) _
            refine XS.icmpNo X140.here hx rfl (hb hby at_196) rfl (by decide) ?_
            show Steps p.tables e below (T140.setTop (mkF m 199 #[.val (.int p1), .val (.long q1), .second, .val (.int (6 : Int32)), .val (.int c0), .val (.int c1), .val (.int c2), .val (.int c3), .val (.int c4), .val (.int c5), .val (.int c6), .val (.int c7), .val (.ref b121), .unset] [])) _
            refine XS.iload X140.here hx rfl (hb hby at_199) rfl ?_
            show Steps p.tables e below (T140.setTop (mkF m 201 #[.val (.int p1), .val (.long q1), .second, .val (.int (6 : Int32)), .val (.int c0), .val (.int c1), .val (.int c2), .val (.int c3), .val (.int c4), .val (.int c5), .val (.int c6), .val (.int c7), .val (.ref b121), .unset] [(.int c3)])) _
            by_cases hn3 : c3 < (0 : Int32)
            · refine XS.ifYes X140.here hx rfl (pc0 := 201) (pc' := 250) rfl (hb hby at_201) rfl (Jvm.Free.XT.i0_lt_t hn3) (by decide) (by decide) ?_
              show Steps p.tables e below (T140.setTop (mkF m 250 #[.val (.int p1), .val (.long q1), .second, .val (.int (6 : Int32)), .val (.int c0), .val (.int c1), .val (.int c2), .val (.int c3), .val (.int c4), .val (.int c5), .val (.int c6), .val (.int c7), .val (.ref b121), .unset] [])) _
              refine XS.iconst X140.here hx rfl (hb hby at_250) ?_
              show Steps p.tables e below (T140.setTop (mkF m 251 #[.val (.int p1), .val (.long q1), .second, .val (.int (6 : Int32)), .val (.int c0), .val (.int c1), .val (.int c2), .val (.int c3), .val (.int c4), .val (.int c5), .val (.int c6), .val (.int c7), .val (.ref b121), .unset] [(.int (0 : Int32))])) _
              rw [← hex, if_pos (Or.inr (Or.inr (Or.inr (Or.inl hn3))))] at k
              exact k
            · refine XS.ifNo X140.here hx rfl (hb hby at_201) rfl (Jvm.Free.XT.i0_lt_f hn3) ?_
              show Steps p.tables e below (T140.setTop (mkF m 204 #[.val (.int p1), .val (.long q1), .second, .val (.int (6 : Int32)), .val (.int c0), .val (.int c1), .val (.int c2), .val (.int c3), .val (.int c4), .val (.int c5), .val (.int c6), .val (.int c7), .val (.ref b121), .unset] [])) _
              refine XS.iloadN X140.here hx rfl (hb hby at_204) rfl ?_
              show Steps p.tables e below (T140.setTop (mkF m 205 #[.val (.int p1), .val (.long q1), .second, .val (.int (6 : Int32)), .val (.int c0), .val (.int c1), .val (.int c2), .val (.int c3), .val (.int c4), .val (.int c5), .val (.int c6), .val (.int c7), .val (.ref b121), .unset] [(.int (6 : Int32))])) _
              refine XS.iconst X140.here hx rfl (hb hby at_205) ?_
              show Steps p.tables e below (T140.setTop (mkF m 206 #[.val (.int p1), .val (.long q1), .second, .val (.int (6 : Int32)), .val (.int c0), .val (.int c1), .val (.int c2), .val (.int c3), .val (.int c4), .val (.int c5), .val (.int c6), .val (.int c7), .val (.ref b121), .unset] [(.int (4 : Int32)), (.int (6 : Int32))])) _
              refine XS.icmpNo X140.here hx rfl (hb hby at_206) rfl (by decide) ?_
              show Steps p.tables e below (T140.setTop (mkF m 209 #[.val (.int p1), .val (.long q1), .second, .val (.int (6 : Int32)), .val (.int c0), .val (.int c1), .val (.int c2), .val (.int c3), .val (.int c4), .val (.int c5), .val (.int c6), .val (.int c7), .val (.ref b121), .unset] [])) _
              refine XS.iload X140.here hx rfl (hb hby at_209) rfl ?_
              show Steps p.tables e below (T140.setTop (mkF m 211 #[.val (.int p1), .val (.long q1), .second, .val (.int (6 : Int32)), .val (.int c0), .val (.int c1), .val (.int c2), .val (.int c3), .val (.int c4), .val (.int c5), .val (.int c6), .val (.int c7), .val (.ref b121), .unset] [(.int c4)])) _
              by_cases hn4 : c4 < (0 : Int32)
              · refine XS.ifYes X140.here hx rfl (pc0 := 211) (pc' := 250) rfl (hb hby at_211) rfl (Jvm.Free.XT.i0_lt_t hn4) (by decide) (by decide) ?_
                show Steps p.tables e below (T140.setTop (mkF m 250 #[.val (.int p1), .val (.long q1), .second, .val (.int (6 : Int32)), .val (.int c0), .val (.int c1), .val (.int c2), .val (.int c3), .val (.int c4), .val (.int c5), .val (.int c6), .val (.int c7), .val (.ref b121), .unset] [])) _
                refine XS.iconst X140.here hx rfl (hb hby at_250) ?_
                show Steps p.tables e below (T140.setTop (mkF m 251 #[.val (.int p1), .val (.long q1), .second, .val (.int (6 : Int32)), .val (.int c0), .val (.int c1), .val (.int c2), .val (.int c3), .val (.int c4), .val (.int c5), .val (.int c6), .val (.int c7), .val (.ref b121), .unset] [(.int (0 : Int32))])) _
                rw [← hex, if_pos (Or.inr (Or.inr (Or.inr (Or.inr (Or.inl hn4)))))] at k
                exact k
              · refine XS.ifNo X140.here hx rfl (hb hby at_211) rfl (Jvm.Free.XT.i0_lt_f hn4) ?_
                show Steps p.tables e below (T140.setTop (mkF m 214 #[.val (.int p1), .val (.long q1), .second, .val (.int (6 : Int32)), .val (.int c0), .val (.int c1), .val (.int c2), .val (.int c3), .val (.int c4), .val (.int c5), .val (.int c6), .val (.int c7), .val (.ref b121), .unset] [])) _
                refine XS.iloadN X140.here hx rfl (hb hby at_214) rfl ?_
                show Steps p.tables e below (T140.setTop (mkF m 215 #[.val (.int p1), .val (.long q1), .second, .val (.int (6 : Int32)), .val (.int c0), .val (.int c1), .val (.int c2), .val (.int c3), .val (.int c4), .val (.int c5), .val (.int c6), .val (.int c7), .val (.ref b121), .unset] [(.int (6 : Int32))])) _
                refine XS.iconst X140.here hx rfl (hb hby at_215) ?_
                show Steps p.tables e below (T140.setTop (mkF m 216 #[.val (.int p1), .val (.long q1), .second, .val (.int (6 : Int32)), .val (.int c0), .val (.int c1), .val (.int c2), .val (.int c3), .val (.int c4), .val (.int c5), .val (.int c6), .val (.int c7), .val (.ref b121), .unset] [(.int (5 : Int32)), (.int (6 : Int32))])) _
                refine XS.icmpNo X140.here hx rfl (hb hby at_216) rfl (by decide) ?_
                show Steps p.tables e below (T140.setTop (mkF m 219 #[.val (.int p1), .val (.long q1), .second, .val (.int (6 : Int32)), .val (.int c0), .val (.int c1), .val (.int c2), .val (.int c3), .val (.int c4), .val (.int c5), .val (.int c6), .val (.int c7), .val (.ref b121), .unset] [])) _
                refine XS.iload X140.here hx rfl (hb hby at_219) rfl ?_
                show Steps p.tables e below (T140.setTop (mkF m 221 #[.val (.int p1), .val (.long q1), .second, .val (.int (6 : Int32)), .val (.int c0), .val (.int c1), .val (.int c2), .val (.int c3), .val (.int c4), .val (.int c5), .val (.int c6), .val (.int c7), .val (.ref b121), .unset] [(.int c5)])) _
                by_cases hn5 : c5 < (0 : Int32)
                · refine XS.ifYes X140.here hx rfl (pc0 := 221) (pc' := 250) rfl (hb hby at_221) rfl (Jvm.Free.XT.i0_lt_t hn5) (by decide) (by decide) ?_
                  show Steps p.tables e below (T140.setTop (mkF m 250 #[.val (.int p1), .val (.long q1), .second, .val (.int (6 : Int32)), .val (.int c0), .val (.int c1), .val (.int c2), .val (.int c3), .val (.int c4), .val (.int c5), .val (.int c6), .val (.int c7), .val (.ref b121), .unset] [])) _
                  refine XS.iconst X140.here hx rfl (hb hby at_250) ?_
                  show Steps p.tables e below (T140.setTop (mkF m 251 #[.val (.int p1), .val (.long q1), .second, .val (.int (6 : Int32)), .val (.int c0), .val (.int c1), .val (.int c2), .val (.int c3), .val (.int c4), .val (.int c5), .val (.int c6), .val (.int c7), .val (.ref b121), .unset] [(.int (0 : Int32))])) _
                  rw [← hex, if_pos (Or.inr (Or.inr (Or.inr (Or.inr (Or.inr (hn5))))))] at k
                  exact k
                · refine XS.ifNo X140.here hx rfl (hb hby at_221) rfl (Jvm.Free.XT.i0_lt_f hn5) ?_
                  show Steps p.tables e below (T140.setTop (mkF m 224 #[.val (.int p1), .val (.long q1), .second, .val (.int (6 : Int32)), .val (.int c0), .val (.int c1), .val (.int c2), .val (.int c3), .val (.int c4), .val (.int c5), .val (.int c6), .val (.int c7), .val (.ref b121), .unset] [])) _
                  refine XS.iloadN X140.here hx rfl (hb hby at_224) rfl ?_
                  show Steps p.tables e below (T140.setTop (mkF m 225 #[.val (.int p1), .val (.long q1), .second, .val (.int (6 : Int32)), .val (.int c0), .val (.int c1), .val (.int c2), .val (.int c3), .val (.int c4), .val (.int c5), .val (.int c6), .val (.int c7), .val (.ref b121), .unset] [(.int (6 : Int32))])) _
                  refine XS.bipush X140.here hx rfl (hb hby at_225) ?_
                  show Steps p.tables e below (T140.setTop (mkF m 227 #[.val (.int p1), .val (.long q1), .second, .val (.int (6 : Int32)), .val (.int c0), .val (.int c1), .val (.int c2), .val (.int c3), .val (.int c4), .val (.int c5), .val (.int c6), .val (.int c7), .val (.ref b121), .unset] [(.int (6 : Int32)), (.int (6 : Int32))])) _
                  refine XS.icmpYes X140.here hx rfl (pc0 := 227) (pc' := 235) rfl (hb hby at_227) rfl (by decide) (by decide) (by decide) ?_
                  show Steps p.tables e below (T140.setTop (mkF m 235 #[.val (.int p1), .val (.long q1), .second, .val (.int (6 : Int32)), .val (.int c0), .val (.int c1), .val (.int c2), .val (.int c3), .val (.int c4), .val (.int c5), .val (.int c6), .val (.int c7), .val (.ref b121), .unset] [])) _
                  refine XS.iloadN X140.here hx rfl (hb hby at_235) rfl ?_
                  show Steps p.tables e below (T140.setTop (mkF m 236 #[.val (.int p1), .val (.long q1), .second, .val (.int (6 : Int32)), .val (.int c0), .val (.int c1), .val (.int c2), .val (.int c3), .val (.int c4), .val (.int c5), .val (.int c6), .val (.int c7), .val (.ref b121), .unset] [(.int (6 : Int32))])) _
                  refine XS.bipush X140.here hx rfl (hb hby at_236) ?_
                  show Steps p.tables e below (T140.setTop (mkF m 238 #[.val (.int p1), .val (.long q1), .second, .val (.int (6 : Int32)), .val (.int c0), .val (.int c1), .val (.int c2), .val (.int c3), .val (.int c4), .val (.int c5), .val (.int c6), .val (.int c7), .val (.ref b121), .unset] [(.int (7 : Int32)), (.int (6 : Int32))])) _
                  refine XS.icmpYes X140.here hx rfl (pc0 := 238) (pc' := 246) rfl (hb hby at_238) rfl (by decide) (by decide) (by decide) ?_
                  show Steps p.tables e below (T140.setTop (mkF m 246 #[.val (.int p1), .val (.long q1), .second, .val (.int (6 : Int32)), .val (.int c0), .val (.int c1), .val (.int c2), .val (.int c3), .val (.int c4), .val (.int c5), .val (.int c6), .val (.int c7), .val (.ref b121), .unset] [])) _
                  refine XS.iconst X140.here hx rfl (hb hby at_246) ?_
                  show Steps p.tables e below (T140.setTop (mkF m 247 #[.val (.int p1), .val (.long q1), .second, .val (.int (6 : Int32)), .val (.int c0), .val (.int c1), .val (.int c2), .val (.int c3), .val (.int c4), .val (.int c5), .val (.int c6), .val (.int c7), .val (.ref b121), .unset] [(.int (1 : Int32))])) _
                  refine XS.goto X140.here hx rfl (pc0 := 247) (pc' := 251) rfl (hb hby at_247) (by decide) (by decide) ?_
                  show Steps p.tables e below (T140.setTop (mkF m 251 #[.val (.int p1), .val (.long q1), .second, .val (.int (6 : Int32)), .val (.int c0), .val (.int c1), .val (.int c2), .val (.int c3), .val (.int c4), .val (.int c5), .val (.int c6), .val (.int c7), .val (.ref b121), .unset] [(.int (1 : Int32))])) _
                  rw [← hex, if_neg (fun q => q.elim hn0 (fun q => q.elim hn1 (fun q => q.elim hn2 (fun q => q.elim hn3 (fun q => q.elim hn4 hn5)))))] at k
                  exact k
    show own_G p.tables e below s _ _ _ (T140.setTop (mkF m 251 #[.val (.int p1), .val (.long q1), .second, .val (.int (6 : Int32)), .val (.int c0), .val (.int c1), .val (.int c2), .val (.int c3), .val (.int c4), .val (.int c5), .val (.int c6), .val (.int c7), .val (.ref b121), .unset] [(.int ex)]))
    refine own_go (fun t k => XS.istore X140.here hx rfl (hb hby at_251) rfl (l' := #[.val (.int p1), .val (.long q1), .second, .val (.int (6 : Int32)), .val (.int c0), .val (.int c1), .val (.int c2), .val (.int c3), .val (.int c4), .val (.int c5), .val (.int c6), .val (.int c7), .val (.ref b121), .val (.int ex)]) rfl k) ?_
    show own_G p.tables e below s _ _ _ (T140.setTop (mkF m 253 #[.val (.int p1), .val (.long q1), .second, .val (.int (6 : Int32)), .val (.int c0), .val (.int c1), .val (.int c2), .val (.int c3), .val (.int c4), .val (.int c5), .val (.int c6), .val (.int c7), .val (.ref b121), .val (.int ex)] []))
    refine own_go (fun t k => XS.aload X140.here hx rfl (hb hby at_253) rfl rfl k) ?_
    show own_G p.tables e below s _ _ _ (T140.setTop (mkF m 255 #[.val (.int p1), .val (.long q1), .second, .val (.int (6 : Int32)), .val (.int c0), .val (.int c1), .val (.int c2), .val (.int c3), .val (.int c4), .val (.int c5), .val (.int c6), .val (.int c7), .val (.ref b121), .val (.int ex)] [(.ref b121)]))
    obtain ⟨_, _, ⟨T143, L143, k143, n143⟩, -, X143, ⟨Lc143, hQ143, l143, y143, z143⟩, st143⟩ := Jvm.LawKit.callS X140 hx (y := (⟨"com/example/cartulary/cartulary/model/Syntax", "isAscii", "([B)Z"⟩ : MethodName)) hown (mvT hZ (hw _ (List.mem_of_getElem? (i := 2) rfl))) (mvT hZ (hw _ (List.mem_of_getElem? (i := 3) rfl))) (mvT hZ (hw _ (List.mem_of_getElem? (i := 4) rfl))) (mvT hZ (hw _ (List.mem_of_getElem? (i := 5) rfl))) (by decide) (backOf (W := 0) (rm1_6 l Z a0 hw [] b121 k121 c0 c1 c2 c3 c4 c5 ex h140 n0 z142 v141 hex) hZ (hw _ (List.mem_of_getElem? (i := 5) rfl)) (hw _ (List.mem_of_getElem? (i := 4) rfl)) (by decide) (by decide)) (g := (mkF m 255 #[.val (.int p1), .val (.long q1), .second, .val (.int (6 : Int32)), .val (.int c0), .val (.int c1), .val (.int c2), .val (.int c3), .val (.int c4), .val (.int c5), .val (.int c6), .val (.int c7), .val (.ref b121), .val (.int ex)] [(.ref b121)])) rfl (by rw [hml]; rfl) (argsL := [(.ref b121)]) (rest := []) (lenOf pd___B_Z rfl) rfl (by show 2 * 0 + _ ≤ _; exact Nat.le_of_eq rfl) (hb hby at_255) (fun _ _ => ⟨rfl, e140, (by decide : 1 + 0 ≤ _), (by decide : 6 + 0 ≤ _)⟩)
    dsimp only [Pt.U, Pt.locs, Pt.cells, Pt.slots] at X143 l143 y143 z143 st143 hQ143
    subst l143 y143 z143
    obtain ⟨rfl, N143q, hh143⟩ := hQ143
    have N143 := Fr.app N140 N143q
    refine own_go st143 ?_
    show own_G p.tables e below s _ _ _ (T143.setTop (mkF m 258 #[.val (.int p1), .val (.long q1), .second, .val (.int (6 : Int32)), .val (.int c0), .val (.int c1), .val (.int c2), .val (.int c3), .val (.int c4), .val (.int c5), .val (.int c6), .val (.int c7), .val (.ref b121), .val (.int ex)] [(.int ex)]))
    refine own_go (fun t k => XS.iload X143.here hx rfl (hb hby at_258) rfl k) ?_
    show own_G p.tables e below s _ _ _ (T143.setTop (mkF m 260 #[.val (.int p1), .val (.long q1), .second, .val (.int (6 : Int32)), .val (.int c0), .val (.int c1), .val (.int c2), .val (.int c3), .val (.int c4), .val (.int c5), .val (.int c6), .val (.int c7), .val (.ref b121), .val (.int ex)] [(.int ex), (.int ex)]))
    refine own_go (fun t k => XS.icmpNo X143.here hx rfl (hb hby at_260) rfl (Jvm.Free.XT.ii_ne_f rfl) k) ?_
    show own_G p.tables e below s _ _ _ (T143.setTop (mkF m 263 #[.val (.int p1), .val (.long q1), .second, .val (.int (6 : Int32)), .val (.int c0), .val (.int c1), .val (.int c2), .val (.int c3), .val (.int c4), .val (.int c5), .val (.int c6), .val (.int c7), .val (.ref b121), .val (.int ex)] []))
    refine own_go (fun t k => XS.iconst X143.here hx rfl (hb hby at_263) k) ?_
    show own_G p.tables e below s _ _ _ (T143.setTop (mkF m 264 #[.val (.int p1), .val (.long q1), .second, .val (.int (6 : Int32)), .val (.int c0), .val (.int c1), .val (.int c2), .val (.int c3), .val (.int c4), .val (.int c5), .val (.int c6), .val (.int c7), .val (.ref b121), .val (.int ex)] [(.int (1 : Int32))]))
    refine own_go (fun t k => XS.goto X143.here hx rfl (pc0 := 264) (pc' := 268) rfl (hb hby at_264) (by decide) (by decide) k) ?_
    show own_G p.tables e below s _ _ _ (T143.setTop (mkF m 268 #[.val (.int p1), .val (.long q1), .second, .val (.int (6 : Int32)), .val (.int c0), .val (.int c1), .val (.int c2), .val (.int c3), .val (.int c4), .val (.int c5), .val (.int c6), .val (.int c7), .val (.ref b121), .val (.int ex)] [(.int (1 : Int32))]))
    exact own_retN X143 hx hlk (t := .boolean) (z' := (1 : Int32)) Bd.returns (by simp) (hb hby at_268) (rfl) (by rw [hh143]; exact ⟨rfl, N143⟩) (by decide) (by decide)
  · show own_G p.tables e below s _ _ _ (s₁.setTop (mkF m 69 #[.val (.int p1), .val (.long q1), .second, .val (.int (7 : Int32)), .val (.int c0), .val (.int c1), .val (.int c2), .val (.int c3), .val (.int c4), .val (.int c5), .val (.int c6), .val (.int c7), .unset, .unset] []))
    refine own_go (fun t k => XS.iloadN X0.here hx rfl (hb hby at_69) rfl k) ?_
    show own_G p.tables e below s _ _ _ (s₁.setTop (mkF m 70 #[.val (.int p1), .val (.long q1), .second, .val (.int (7 : Int32)), .val (.int c0), .val (.int c1), .val (.int c2), .val (.int c3), .val (.int c4), .val (.int c5), .val (.int c6), .val (.int c7), .unset, .unset] [(.int (7 : Int32))]))
    obtain ⟨T144, h144, k144, X144, e144, E144, A144, st144⟩ := newP X0 hx hZ (hw _ (List.mem_of_getElem? (i := 1) rfl)) e0 (g := (mkF m 70 #[.val (.int p1), .val (.long q1), .second, .val (.int (7 : Int32)), .val (.int c0), .val (.int c1), .val (.int c2), .val (.int c3), .val (.int c4), .val (.int c5), .val (.int c6), .val (.int c7), .unset, .unset] [(.int (7 : Int32))])) rfl (hb hby at_70) rfl (by decide) (cap := 7) (by decide) (by decide) (by decide) (by decide)
    obtain ⟨b144, g144⟩ : ∃ z, z = h0.size := ⟨_, rfl⟩
    rw [← g144] at A144 st144
    refine own_go st144 ?_
    have g145 := Nat.le_trans Z0 (Nat.le_of_eq g144.symm)
    have z146 := Nat.le_trans Z0 E144.1
    have v147 : Arv Z h144 b144 k144 .byte (7 : Int32) [(.int (0 : Int32)), (.int (0 : Int32)), (.int (0 : Int32)), (.int (0 : Int32)), (.int (0 : Int32)), (.int (0 : Int32)), (.int (0 : Int32))] (.int (0 : Int32)) := (Arv.new A144 (by decide)).pad (pad_rep [] (.int (0 : Int32)) 7)
    show own_G p.tables e below s _ _ _ (T144.setTop (mkF m 72 #[.val (.int p1), .val (.long q1), .second, .val (.int (7 : Int32)), .val (.int c0), .val (.int c1), .val (.int c2), .val (.int c3), .val (.int c4), .val (.int c5), .val (.int c6), .val (.int c7), .unset, .unset] [(.ref b144)]))
    refine own_go (fun t k => XS.astore X144.here hx rfl (hb hby at_72) rfl rfl (l' := #[.val (.int p1), .val (.long q1), .second, .val (.int (7 : Int32)), .val (.int c0), .val (.int c1), .val (.int c2), .val (.int c3), .val (.int c4), .val (.int c5), .val (.int c6), .val (.int c7), .val (.ref b144), .unset]) rfl k) ?_
    show own_G p.tables e below s _ _ _ (T144.setTop (mkF m 74 #[.val (.int p1), .val (.long q1), .second, .val (.int (7 : Int32)), .val (.int c0), .val (.int c1), .val (.int c2), .val (.int c3), .val (.int c4), .val (.int c5), .val (.int c6), .val (.int c7), .val (.ref b144), .unset] []))
    refine own_go (fun t k => XS.iloadN X144.here hx rfl (hb hby at_74) rfl k) ?_
    show own_G p.tables e below s _ _ _ (T144.setTop (mkF m 75 #[.val (.int p1), .val (.long q1), .second, .val (.int (7 : Int32)), .val (.int c0), .val (.int c1), .val (.int c2), .val (.int c3), .val (.int c4), .val (.int c5), .val (.int c6), .val (.int c7), .val (.ref b144), .unset] [(.int (7 : Int32))]))
    refine own_go (fun t k => XS.ifNo X144.here hx rfl (hb hby at_75) rfl (by decide) k) ?_
    show own_G p.tables e below s _ _ _ (T144.setTop (mkF m 78 #[.val (.int p1), .val (.long q1), .second, .val (.int (7 : Int32)), .val (.int c0), .val (.int c1), .val (.int c2), .val (.int c3), .val (.int c4), .val (.int c5), .val (.int c6), .val (.int c7), .val (.ref b144), .unset] []))
    refine own_go (fun t k => XS.aload X144.here hx rfl (hb hby at_78) rfl rfl k) ?_
    show own_G p.tables e below s _ _ _ (T144.setTop (mkF m 80 #[.val (.int p1), .val (.long q1), .second, .val (.int (7 : Int32)), .val (.int c0), .val (.int c1), .val (.int c2), .val (.int c3), .val (.int c4), .val (.int c5), .val (.int c6), .val (.int c7), .val (.ref b144), .unset] [(.ref b144)]))
    refine own_go (fun t k => XS.iconst X144.here hx rfl (hb hby at_80) k) ?_
    show own_G p.tables e below s _ _ _ (T144.setTop (mkF m 81 #[.val (.int p1), .val (.long q1), .second, .val (.int (7 : Int32)), .val (.int c0), .val (.int c1), .val (.int c2), .val (.int c3), .val (.int c4), .val (.int c5), .val (.int c6), .val (.int c7), .val (.ref b144), .unset] [(.int (0 : Int32)), (.ref b144)]))
    refine own_go (fun t k => XS.iload X144.here hx rfl (hb hby at_81) rfl k) ?_
    show own_G p.tables e below s _ _ _ (T144.setTop (mkF m 83 #[.val (.int p1), .val (.long q1), .second, .val (.int (7 : Int32)), .val (.int c0), .val (.int c1), .val (.int c2), .val (.int c3), .val (.int c4), .val (.int c5), .val (.int c6), .val (.int c7), .val (.ref b144), .unset] [(.int c0), (.int (0 : Int32)), (.ref b144)]))
    obtain ⟨cl148, Ar148, q148, S148, NN148, HH148, GG148⟩ := v147
    have hin148 : ¬ ((0 : Int32) < 0 ∨ cl148.slots.size ≤ ((0 : Int32)).toNatClampNeg) := inb_of S148 ⟨by decide, by decide⟩
    obtain ⟨T148, h148, X148, e148, W148, st148⟩ := stB X144 hx hZ e144 Ar148 (j := (0 : Int32)) hin148 (g := (mkF m 83 #[.val (.int p1), .val (.long q1), .second, .val (.int (7 : Int32)), .val (.int c0), .val (.int c1), .val (.int c2), .val (.int c3), .val (.int c4), .val (.int c5), .val (.int c6), .val (.int c7), .val (.ref b144), .unset] [(.int c0), (.int (0 : Int32)), (.ref b144)])) rfl rfl (hb hby at_83)
    refine own_go st148 ?_
    have v149 : Arv Z h148 b144 k144 .byte (7 : Int32) [(.int (nar .byte c0)), (.int (0 : Int32)), (.int (0 : Int32)), (.int (0 : Int32)), (.int (0 : Int32)), (.int (0 : Int32)), (.int (0 : Int32))] (.int (0 : Int32)) := Arv.set Ar148 q148 S148 NN148 HH148 GG148 (fits_nar_byte _) W148 0 rfl (Nat.le_of_ble_eq_true rfl)
    rw [hb0] at v149
    have z150 := Nat.le_trans z146 (Keep.of_wr W148).1
    have N148 := Fr.snoc X148 N0 g145
    show own_G p.tables e below s _ _ _ (T148.setTop (mkF m 84 #[.val (.int p1), .val (.long q1), .second, .val (.int (7 : Int32)), .val (.int c0), .val (.int c1), .val (.int c2), .val (.int c3), .val (.int c4), .val (.int c5), .val (.int c6), .val (.int c7), .val (.ref b144), .unset] []))
    refine own_go (fun t k => XS.iloadN X148.here hx rfl (hb hby at_84) rfl k) ?_
    show own_G p.tables e below s _ _ _ (T148.setTop (mkF m 85 #[.val (.int p1), .val (.long q1), .second, .val (.int (7 : Int32)), .val (.int c0), .val (.int c1), .val (.int c2), .val (.int c3), .val (.int c4), .val (.int c5), .val (.int c6), .val (.int c7), .val (.ref b144), .unset] [(.int (7 : Int32))]))
    refine own_go (fun t k => XS.iconst X148.here hx rfl (hb hby at_85) k) ?_
    show own_G p.tables e below s _ _ _ (T148.setTop (mkF m 86 #[.val (.int p1), .val (.long q1), .second, .val (.int (7 : Int32)), .val (.int c0), .val (.int c1), .val (.int c2), .val (.int c3), .val (.int c4), .val (.int c5), .val (.int c6), .val (.int c7), .val (.ref b144), .unset] [(.int (1 : Int32)), (.int (7 : Int32))]))
    refine own_go (fun t k => XS.icmpNo X148.here hx rfl (hb hby at_86) rfl (by decide) k) ?_
    show own_G p.tables e below s _ _ _ (T148.setTop (mkF m 89 #[.val (.int p1), .val (.long q1), .second, .val (.int (7 : Int32)), .val (.int c0), .val (.int c1), .val (.int c2), .val (.int c3), .val (.int c4), .val (.int c5), .val (.int c6), .val (.int c7), .val (.ref b144), .unset] []))
    refine own_go (fun t k => XS.aload X148.here hx rfl (hb hby at_89) rfl rfl k) ?_
    show own_G p.tables e below s _ _ _ (T148.setTop (mkF m 91 #[.val (.int p1), .val (.long q1), .second, .val (.int (7 : Int32)), .val (.int c0), .val (.int c1), .val (.int c2), .val (.int c3), .val (.int c4), .val (.int c5), .val (.int c6), .val (.int c7), .val (.ref b144), .unset] [(.ref b144)]))
    refine own_go (fun t k => XS.iconst X148.here hx rfl (hb hby at_91) k) ?_
    show own_G p.tables e below s _ _ _ (T148.setTop (mkF m 92 #[.val (.int p1), .val (.long q1), .second, .val (.int (7 : Int32)), .val (.int c0), .val (.int c1), .val (.int c2), .val (.int c3), .val (.int c4), .val (.int c5), .val (.int c6), .val (.int c7), .val (.ref b144), .unset] [(.int (1 : Int32)), (.ref b144)]))
    refine own_go (fun t k => XS.iload X148.here hx rfl (hb hby at_92) rfl k) ?_
    show own_G p.tables e below s _ _ _ (T148.setTop (mkF m 94 #[.val (.int p1), .val (.long q1), .second, .val (.int (7 : Int32)), .val (.int c0), .val (.int c1), .val (.int c2), .val (.int c3), .val (.int c4), .val (.int c5), .val (.int c6), .val (.int c7), .val (.ref b144), .unset] [(.int c1), (.int (1 : Int32)), (.ref b144)]))
    obtain ⟨cl151, Ar151, q151, S151, NN151, HH151, GG151⟩ := v149
    have hin151 : ¬ ((1 : Int32) < 0 ∨ cl151.slots.size ≤ ((1 : Int32)).toNatClampNeg) := inb_of S151 ⟨by decide, by decide⟩
    obtain ⟨T151, h151, X151, e151, W151, st151⟩ := stB X148 hx hZ e148 Ar151 (j := (1 : Int32)) hin151 (g := (mkF m 94 #[.val (.int p1), .val (.long q1), .second, .val (.int (7 : Int32)), .val (.int c0), .val (.int c1), .val (.int c2), .val (.int c3), .val (.int c4), .val (.int c5), .val (.int c6), .val (.int c7), .val (.ref b144), .unset] [(.int c1), (.int (1 : Int32)), (.ref b144)])) rfl rfl (hb hby at_94)
    refine own_go st151 ?_
    have v152 : Arv Z h151 b144 k144 .byte (7 : Int32) [(.int c0), (.int (nar .byte c1)), (.int (0 : Int32)), (.int (0 : Int32)), (.int (0 : Int32)), (.int (0 : Int32)), (.int (0 : Int32))] (.int (0 : Int32)) := Arv.set Ar151 q151 S151 NN151 HH151 GG151 (fits_nar_byte _) W151 1 rfl (Nat.le_of_ble_eq_true rfl)
    rw [hb1] at v152
    have z153 := Nat.le_trans z150 (Keep.of_wr W151).1
    have N151 := Fr.snoc X151 N148 g145
    show own_G p.tables e below s _ _ _ (T151.setTop (mkF m 95 #[.val (.int p1), .val (.long q1), .second, .val (.int (7 : Int32)), .val (.int c0), .val (.int c1), .val (.int c2), .val (.int c3), .val (.int c4), .val (.int c5), .val (.int c6), .val (.int c7), .val (.ref b144), .unset] []))
    refine own_go (fun t k => XS.iloadN X151.here hx rfl (hb hby at_95) rfl k) ?_
    show own_G p.tables e below s _ _ _ (T151.setTop (mkF m 96 #[.val (.int p1), .val (.long q1), .second, .val (.int (7 : Int32)), .val (.int c0), .val (.int c1), .val (.int c2), .val (.int c3), .val (.int c4), .val (.int c5), .val (.int c6), .val (.int c7), .val (.ref b144), .unset] [(.int (7 : Int32))]))
    refine own_go (fun t k => XS.iconst X151.here hx rfl (hb hby at_96) k) ?_
    show own_G p.tables e below s _ _ _ (T151.setTop (mkF m 97 #[.val (.int p1), .val (.long q1), .second, .val (.int (7 : Int32)), .val (.int c0), .val (.int c1), .val (.int c2), .val (.int c3), .val (.int c4), .val (.int c5), .val (.int c6), .val (.int c7), .val (.ref b144), .unset] [(.int (2 : Int32)), (.int (7 : Int32))]))
    refine own_go (fun t k => XS.icmpNo X151.here hx rfl (hb hby at_97) rfl (by decide) k) ?_
    show own_G p.tables e below s _ _ _ (T151.setTop (mkF m 100 #[.val (.int p1), .val (.long q1), .second, .val (.int (7 : Int32)), .val (.int c0), .val (.int c1), .val (.int c2), .val (.int c3), .val (.int c4), .val (.int c5), .val (.int c6), .val (.int c7), .val (.ref b144), .unset] []))
    refine own_go (fun t k => XS.aload X151.here hx rfl (hb hby at_100) rfl rfl k) ?_
    show own_G p.tables e below s _ _ _ (T151.setTop (mkF m 102 #[.val (.int p1), .val (.long q1), .second, .val (.int (7 : Int32)), .val (.int c0), .val (.int c1), .val (.int c2), .val (.int c3), .val (.int c4), .val (.int c5), .val (.int c6), .val (.int c7), .val (.ref b144), .unset] [(.ref b144)]))
    refine own_go (fun t k => XS.iconst X151.here hx rfl (hb hby at_102) k) ?_
    show own_G p.tables e below s _ _ _ (T151.setTop (mkF m 103 #[.val (.int p1), .val (.long q1), .second, .val (.int (7 : Int32)), .val (.int c0), .val (.int c1), .val (.int c2), .val (.int c3), .val (.int c4), .val (.int c5), .val (.int c6), .val (.int c7), .val (.ref b144), .unset] [(.int (2 : Int32)), (.ref b144)]))
    refine own_go (fun t k => XS.iload X151.here hx rfl (hb hby at_103) rfl k) ?_
    show own_G p.tables e below s _ _ _ (T151.setTop (mkF m 105 #[.val (.int p1), .val (.long q1), .second, .val (.int (7 : Int32)), .val (.int c0), .val (.int c1), .val (.int c2), .val (.int c3), .val (.int c4), .val (.int c5), .val (.int c6), .val (.int c7), .val (.ref b144), .unset] [(.int c2), (.int (2 : Int32)), (.ref b144)]))
    obtain ⟨cl154, Ar154, q154, S154, NN154, HH154, GG154⟩ := v152
    have hin154 : ¬ ((2 : Int32) < 0 ∨ cl154.slots.size ≤ ((2 : Int32)).toNatClampNeg) := inb_of S154 ⟨by decide, by decide⟩
    obtain ⟨T154, h154, X154, e154, W154, st154⟩ := stB X151 hx hZ e151 Ar154 (j := (2 : Int32)) hin154 (g := (mkF m 105 #[.val (.int p1), .val (.long q1), .second, .val (.int (7 : Int32)), .val (.int c0), .val (.int c1), .val (.int c2), .val (.int c3), .val (.int c4), .val (.int c5), .val (.int c6), .val (.int c7), .val (.ref b144), .unset] [(.int c2), (.int (2 : Int32)), (.ref b144)])) rfl rfl (hb hby at_105)
    refine own_go st154 ?_
    have v155 : Arv Z h154 b144 k144 .byte (7 : Int32) [(.int c0), (.int c1), (.int (nar .byte c2)), (.int (0 : Int32)), (.int (0 : Int32)), (.int (0 : Int32)), (.int (0 : Int32))] (.int (0 : Int32)) := Arv.set Ar154 q154 S154 NN154 HH154 GG154 (fits_nar_byte _) W154 2 rfl (Nat.le_of_ble_eq_true rfl)
    rw [hb2] at v155
    have z156 := Nat.le_trans z153 (Keep.of_wr W154).1
    have N154 := Fr.snoc X154 N151 g145
    show own_G p.tables e below s _ _ _ (T154.setTop (mkF m 106 #[.val (.int p1), .val (.long q1), .second, .val (.int (7 : Int32)), .val (.int c0), .val (.int c1), .val (.int c2), .val (.int c3), .val (.int c4), .val (.int c5), .val (.int c6), .val (.int c7), .val (.ref b144), .unset] []))
    refine own_go (fun t k => XS.iloadN X154.here hx rfl (hb hby at_106) rfl k) ?_
    show own_G p.tables e below s _ _ _ (T154.setTop (mkF m 107 #[.val (.int p1), .val (.long q1), .second, .val (.int (7 : Int32)), .val (.int c0), .val (.int c1), .val (.int c2), .val (.int c3), .val (.int c4), .val (.int c5), .val (.int c6), .val (.int c7), .val (.ref b144), .unset] [(.int (7 : Int32))]))
    refine own_go (fun t k => XS.iconst X154.here hx rfl (hb hby at_107) k) ?_
    show own_G p.tables e below s _ _ _ (T154.setTop (mkF m 108 #[.val (.int p1), .val (.long q1), .second, .val (.int (7 : Int32)), .val (.int c0), .val (.int c1), .val (.int c2), .val (.int c3), .val (.int c4), .val (.int c5), .val (.int c6), .val (.int c7), .val (.ref b144), .unset] [(.int (3 : Int32)), (.int (7 : Int32))]))
    refine own_go (fun t k => XS.icmpNo X154.here hx rfl (hb hby at_108) rfl (by decide) k) ?_
    show own_G p.tables e below s _ _ _ (T154.setTop (mkF m 111 #[.val (.int p1), .val (.long q1), .second, .val (.int (7 : Int32)), .val (.int c0), .val (.int c1), .val (.int c2), .val (.int c3), .val (.int c4), .val (.int c5), .val (.int c6), .val (.int c7), .val (.ref b144), .unset] []))
    refine own_go (fun t k => XS.aload X154.here hx rfl (hb hby at_111) rfl rfl k) ?_
    show own_G p.tables e below s _ _ _ (T154.setTop (mkF m 113 #[.val (.int p1), .val (.long q1), .second, .val (.int (7 : Int32)), .val (.int c0), .val (.int c1), .val (.int c2), .val (.int c3), .val (.int c4), .val (.int c5), .val (.int c6), .val (.int c7), .val (.ref b144), .unset] [(.ref b144)]))
    refine own_go (fun t k => XS.iconst X154.here hx rfl (hb hby at_113) k) ?_
    show own_G p.tables e below s _ _ _ (T154.setTop (mkF m 114 #[.val (.int p1), .val (.long q1), .second, .val (.int (7 : Int32)), .val (.int c0), .val (.int c1), .val (.int c2), .val (.int c3), .val (.int c4), .val (.int c5), .val (.int c6), .val (.int c7), .val (.ref b144), .unset] [(.int (3 : Int32)), (.ref b144)]))
    refine own_go (fun t k => XS.iload X154.here hx rfl (hb hby at_114) rfl k) ?_
    show own_G p.tables e below s _ _ _ (T154.setTop (mkF m 116 #[.val (.int p1), .val (.long q1), .second, .val (.int (7 : Int32)), .val (.int c0), .val (.int c1), .val (.int c2), .val (.int c3), .val (.int c4), .val (.int c5), .val (.int c6), .val (.int c7), .val (.ref b144), .unset] [(.int c3), (.int (3 : Int32)), (.ref b144)]))
    obtain ⟨cl157, Ar157, q157, S157, NN157, HH157, GG157⟩ := v155
    have hin157 : ¬ ((3 : Int32) < 0 ∨ cl157.slots.size ≤ ((3 : Int32)).toNatClampNeg) := inb_of S157 ⟨by decide, by decide⟩
    obtain ⟨T157, h157, X157, e157, W157, st157⟩ := stB X154 hx hZ e154 Ar157 (j := (3 : Int32)) hin157 (g := (mkF m 116 #[.val (.int p1), .val (.long q1), .second, .val (.int (7 : Int32)), .val (.int c0), .val (.int c1), .val (.int c2), .val (.int c3), .val (.int c4), .val (.int c5), .val (.int c6), .val (.int c7), .val (.ref b144), .unset] [(.int c3), (.int (3 : Int32)), (.ref b144)])) rfl rfl (hb hby at_116)
    refine own_go st157 ?_
    have v158 : Arv Z h157 b144 k144 .byte (7 : Int32) [(.int c0), (.int c1), (.int c2), (.int (nar .byte c3)), (.int (0 : Int32)), (.int (0 : Int32)), (.int (0 : Int32))] (.int (0 : Int32)) := Arv.set Ar157 q157 S157 NN157 HH157 GG157 (fits_nar_byte _) W157 3 rfl (Nat.le_of_ble_eq_true rfl)
    rw [hb3] at v158
    have z159 := Nat.le_trans z156 (Keep.of_wr W157).1
    have N157 := Fr.snoc X157 N154 g145
    show own_G p.tables e below s _ _ _ (T157.setTop (mkF m 117 #[.val (.int p1), .val (.long q1), .second, .val (.int (7 : Int32)), .val (.int c0), .val (.int c1), .val (.int c2), .val (.int c3), .val (.int c4), .val (.int c5), .val (.int c6), .val (.int c7), .val (.ref b144), .unset] []))
    refine own_go (fun t k => XS.iloadN X157.here hx rfl (hb hby at_117) rfl k) ?_
    show own_G p.tables e below s _ _ _ (T157.setTop (mkF m 118 #[.val (.int p1), .val (.long q1), .second, .val (.int (7 : Int32)), .val (.int c0), .val (.int c1), .val (.int c2), .val (.int c3), .val (.int c4), .val (.int c5), .val (.int c6), .val (.int c7), .val (.ref b144), .unset] [(.int (7 : Int32))]))
    refine own_go (fun t k => XS.iconst X157.here hx rfl (hb hby at_118) k) ?_
    show own_G p.tables e below s _ _ _ (T157.setTop (mkF m 119 #[.val (.int p1), .val (.long q1), .second, .val (.int (7 : Int32)), .val (.int c0), .val (.int c1), .val (.int c2), .val (.int c3), .val (.int c4), .val (.int c5), .val (.int c6), .val (.int c7), .val (.ref b144), .unset] [(.int (4 : Int32)), (.int (7 : Int32))]))
    refine own_go (fun t k => XS.icmpNo X157.here hx rfl (hb hby at_119) rfl (by decide) k) ?_
    show own_G p.tables e below s _ _ _ (T157.setTop (mkF m 122 #[.val (.int p1), .val (.long q1), .second, .val (.int (7 : Int32)), .val (.int c0), .val (.int c1), .val (.int c2), .val (.int c3), .val (.int c4), .val (.int c5), .val (.int c6), .val (.int c7), .val (.ref b144), .unset] []))
    refine own_go (fun t k => XS.aload X157.here hx rfl (hb hby at_122) rfl rfl k) ?_
    show own_G p.tables e below s _ _ _ (T157.setTop (mkF m 124 #[.val (.int p1), .val (.long q1), .second, .val (.int (7 : Int32)), .val (.int c0), .val (.int c1), .val (.int c2), .val (.int c3), .val (.int c4), .val (.int c5), .val (.int c6), .val (.int c7), .val (.ref b144), .unset] [(.ref b144)]))
    refine own_go (fun t k => XS.iconst X157.here hx rfl (hb hby at_124) k) ?_
    show own_G p.tables e below s _ _ _ (T157.setTop (mkF m 125 #[.val (.int p1), .val (.long q1), .second, .val (.int (7 : Int32)), .val (.int c0), .val (.int c1), .val (.int c2), .val (.int c3), .val (.int c4), .val (.int c5), .val (.int c6), .val (.int c7), .val (.ref b144), .unset] [(.int (4 : Int32)), (.ref b144)]))
    refine own_go (fun t k => XS.iload X157.here hx rfl (hb hby at_125) rfl k) ?_
    show own_G p.tables e below s _ _ _ (T157.setTop (mkF m 127 #[.val (.int p1), .val (.long q1), .second, .val (.int (7 : Int32)), .val (.int c0), .val (.int c1), .val (.int c2), .val (.int c3), .val (.int c4), .val (.int c5), .val (.int c6), .val (.int c7), .val (.ref b144), .unset] [(.int c4), (.int (4 : Int32)), (.ref b144)]))
    obtain ⟨cl160, Ar160, q160, S160, NN160, HH160, GG160⟩ := v158
    have hin160 : ¬ ((4 : Int32) < 0 ∨ cl160.slots.size ≤ ((4 : Int32)).toNatClampNeg) := inb_of S160 ⟨by decide, by decide⟩
    obtain ⟨T160, h160, X160, e160, W160, st160⟩ := stB X157 hx hZ e157 Ar160 (j := (4 : Int32)) hin160 (g := (mkF m 127 #[.val (.int p1), .val (.long q1), .second, .val (.int (7 : Int32)), .val (.int c0), .val (.int c1), .val (.int c2), .val (.int c3), .val (.int c4), .val (.int c5), .val (.int c6), .val (.int c7), .val (.ref b144), .unset] [(.int c4), (.int (4 : Int32)), (.ref b144)])) rfl rfl (hb hby at_127)
    refine own_go st160 ?_
    have v161 : Arv Z h160 b144 k144 .byte (7 : Int32) [(.int c0), (.int c1), (.int c2), (.int c3), (.int (nar .byte c4)), (.int (0 : Int32)), (.int (0 : Int32))] (.int (0 : Int32)) := Arv.set Ar160 q160 S160 NN160 HH160 GG160 (fits_nar_byte _) W160 4 rfl (Nat.le_of_ble_eq_true rfl)
    rw [hb4] at v161
    have z162 := Nat.le_trans z159 (Keep.of_wr W160).1
    have N160 := Fr.snoc X160 N157 g145
    show own_G p.tables e below s _ _ _ (T160.setTop (mkF m 128 #[.val (.int p1), .val (.long q1), .second, .val (.int (7 : Int32)), .val (.int c0), .val (.int c1), .val (.int c2), .val (.int c3), .val (.int c4), .val (.int c5), .val (.int c6), .val (.int c7), .val (.ref b144), .unset] []))
    refine own_go (fun t k => XS.iloadN X160.here hx rfl (hb hby at_128) rfl k) ?_
    show own_G p.tables e below s _ _ _ (T160.setTop (mkF m 129 #[.val (.int p1), .val (.long q1), .second, .val (.int (7 : Int32)), .val (.int c0), .val (.int c1), .val (.int c2), .val (.int c3), .val (.int c4), .val (.int c5), .val (.int c6), .val (.int c7), .val (.ref b144), .unset] [(.int (7 : Int32))]))
    refine own_go (fun t k => XS.iconst X160.here hx rfl (hb hby at_129) k) ?_
    show own_G p.tables e below s _ _ _ (T160.setTop (mkF m 130 #[.val (.int p1), .val (.long q1), .second, .val (.int (7 : Int32)), .val (.int c0), .val (.int c1), .val (.int c2), .val (.int c3), .val (.int c4), .val (.int c5), .val (.int c6), .val (.int c7), .val (.ref b144), .unset] [(.int (5 : Int32)), (.int (7 : Int32))]))
    refine own_go (fun t k => XS.icmpNo X160.here hx rfl (hb hby at_130) rfl (by decide) k) ?_
    show own_G p.tables e below s _ _ _ (T160.setTop (mkF m 133 #[.val (.int p1), .val (.long q1), .second, .val (.int (7 : Int32)), .val (.int c0), .val (.int c1), .val (.int c2), .val (.int c3), .val (.int c4), .val (.int c5), .val (.int c6), .val (.int c7), .val (.ref b144), .unset] []))
    refine own_go (fun t k => XS.aload X160.here hx rfl (hb hby at_133) rfl rfl k) ?_
    show own_G p.tables e below s _ _ _ (T160.setTop (mkF m 135 #[.val (.int p1), .val (.long q1), .second, .val (.int (7 : Int32)), .val (.int c0), .val (.int c1), .val (.int c2), .val (.int c3), .val (.int c4), .val (.int c5), .val (.int c6), .val (.int c7), .val (.ref b144), .unset] [(.ref b144)]))
    refine own_go (fun t k => XS.iconst X160.here hx rfl (hb hby at_135) k) ?_
    show own_G p.tables e below s _ _ _ (T160.setTop (mkF m 136 #[.val (.int p1), .val (.long q1), .second, .val (.int (7 : Int32)), .val (.int c0), .val (.int c1), .val (.int c2), .val (.int c3), .val (.int c4), .val (.int c5), .val (.int c6), .val (.int c7), .val (.ref b144), .unset] [(.int (5 : Int32)), (.ref b144)]))
    refine own_go (fun t k => XS.iload X160.here hx rfl (hb hby at_136) rfl k) ?_
    show own_G p.tables e below s _ _ _ (T160.setTop (mkF m 138 #[.val (.int p1), .val (.long q1), .second, .val (.int (7 : Int32)), .val (.int c0), .val (.int c1), .val (.int c2), .val (.int c3), .val (.int c4), .val (.int c5), .val (.int c6), .val (.int c7), .val (.ref b144), .unset] [(.int c5), (.int (5 : Int32)), (.ref b144)]))
    obtain ⟨cl163, Ar163, q163, S163, NN163, HH163, GG163⟩ := v161
    have hin163 : ¬ ((5 : Int32) < 0 ∨ cl163.slots.size ≤ ((5 : Int32)).toNatClampNeg) := inb_of S163 ⟨by decide, by decide⟩
    obtain ⟨T163, h163, X163, e163, W163, st163⟩ := stB X160 hx hZ e160 Ar163 (j := (5 : Int32)) hin163 (g := (mkF m 138 #[.val (.int p1), .val (.long q1), .second, .val (.int (7 : Int32)), .val (.int c0), .val (.int c1), .val (.int c2), .val (.int c3), .val (.int c4), .val (.int c5), .val (.int c6), .val (.int c7), .val (.ref b144), .unset] [(.int c5), (.int (5 : Int32)), (.ref b144)])) rfl rfl (hb hby at_138)
    refine own_go st163 ?_
    have v164 : Arv Z h163 b144 k144 .byte (7 : Int32) [(.int c0), (.int c1), (.int c2), (.int c3), (.int c4), (.int (nar .byte c5)), (.int (0 : Int32))] (.int (0 : Int32)) := Arv.set Ar163 q163 S163 NN163 HH163 GG163 (fits_nar_byte _) W163 5 rfl (Nat.le_of_ble_eq_true rfl)
    rw [hb5] at v164
    have z165 := Nat.le_trans z162 (Keep.of_wr W163).1
    have N163 := Fr.snoc X163 N160 g145
    show own_G p.tables e below s _ _ _ (T163.setTop (mkF m 139 #[.val (.int p1), .val (.long q1), .second, .val (.int (7 : Int32)), .val (.int c0), .val (.int c1), .val (.int c2), .val (.int c3), .val (.int c4), .val (.int c5), .val (.int c6), .val (.int c7), .val (.ref b144), .unset] []))
    refine own_go (fun t k => XS.iloadN X163.here hx rfl (hb hby at_139) rfl k) ?_
    show own_G p.tables e below s _ _ _ (T163.setTop (mkF m 140 #[.val (.int p1), .val (.long q1), .second, .val (.int (7 : Int32)), .val (.int c0), .val (.int c1), .val (.int c2), .val (.int c3), .val (.int c4), .val (.int c5), .val (.int c6), .val (.int c7), .val (.ref b144), .unset] [(.int (7 : Int32))]))
    refine own_go (fun t k => XS.bipush X163.here hx rfl (hb hby at_140) k) ?_
    show own_G p.tables e below s _ _ _ (T163.setTop (mkF m 142 #[.val (.int p1), .val (.long q1), .second, .val (.int (7 : Int32)), .val (.int c0), .val (.int c1), .val (.int c2), .val (.int c3), .val (.int c4), .val (.int c5), .val (.int c6), .val (.int c7), .val (.ref b144), .unset] [(.int (6 : Int32)), (.int (7 : Int32))]))
    refine own_go (fun t k => XS.icmpNo X163.here hx rfl (hb hby at_142) rfl (by decide) k) ?_
    show own_G p.tables e below s _ _ _ (T163.setTop (mkF m 145 #[.val (.int p1), .val (.long q1), .second, .val (.int (7 : Int32)), .val (.int c0), .val (.int c1), .val (.int c2), .val (.int c3), .val (.int c4), .val (.int c5), .val (.int c6), .val (.int c7), .val (.ref b144), .unset] []))
    refine own_go (fun t k => XS.aload X163.here hx rfl (hb hby at_145) rfl rfl k) ?_
    show own_G p.tables e below s _ _ _ (T163.setTop (mkF m 147 #[.val (.int p1), .val (.long q1), .second, .val (.int (7 : Int32)), .val (.int c0), .val (.int c1), .val (.int c2), .val (.int c3), .val (.int c4), .val (.int c5), .val (.int c6), .val (.int c7), .val (.ref b144), .unset] [(.ref b144)]))
    refine own_go (fun t k => XS.bipush X163.here hx rfl (hb hby at_147) k) ?_
    show own_G p.tables e below s _ _ _ (T163.setTop (mkF m 149 #[.val (.int p1), .val (.long q1), .second, .val (.int (7 : Int32)), .val (.int c0), .val (.int c1), .val (.int c2), .val (.int c3), .val (.int c4), .val (.int c5), .val (.int c6), .val (.int c7), .val (.ref b144), .unset] [(.int (6 : Int32)), (.ref b144)]))
    refine own_go (fun t k => XS.iload X163.here hx rfl (hb hby at_149) rfl k) ?_
    show own_G p.tables e below s _ _ _ (T163.setTop (mkF m 151 #[.val (.int p1), .val (.long q1), .second, .val (.int (7 : Int32)), .val (.int c0), .val (.int c1), .val (.int c2), .val (.int c3), .val (.int c4), .val (.int c5), .val (.int c6), .val (.int c7), .val (.ref b144), .unset] [(.int c6), (.int (6 : Int32)), (.ref b144)]))
    obtain ⟨cl166, Ar166, q166, S166, NN166, HH166, GG166⟩ := v164
    have hin166 : ¬ ((6 : Int32) < 0 ∨ cl166.slots.size ≤ ((6 : Int32)).toNatClampNeg) := inb_of S166 ⟨by decide, by decide⟩
    obtain ⟨T166, h166, X166, e166, W166, st166⟩ := stB X163 hx hZ e163 Ar166 (j := (6 : Int32)) hin166 (g := (mkF m 151 #[.val (.int p1), .val (.long q1), .second, .val (.int (7 : Int32)), .val (.int c0), .val (.int c1), .val (.int c2), .val (.int c3), .val (.int c4), .val (.int c5), .val (.int c6), .val (.int c7), .val (.ref b144), .unset] [(.int c6), (.int (6 : Int32)), (.ref b144)])) rfl rfl (hb hby at_151)
    refine own_go st166 ?_
    have v167 : Arv Z h166 b144 k144 .byte (7 : Int32) [(.int c0), (.int c1), (.int c2), (.int c3), (.int c4), (.int c5), (.int (nar .byte c6))] (.int (0 : Int32)) := Arv.set Ar166 q166 S166 NN166 HH166 GG166 (fits_nar_byte _) W166 6 rfl (Nat.le_of_ble_eq_true rfl)
    rw [hb6] at v167
    have z168 := Nat.le_trans z165 (Keep.of_wr W166).1
    have N166 := Fr.snoc X166 N163 g145
    show own_G p.tables e below s _ _ _ (T166.setTop (mkF m 152 #[.val (.int p1), .val (.long q1), .second, .val (.int (7 : Int32)), .val (.int c0), .val (.int c1), .val (.int c2), .val (.int c3), .val (.int c4), .val (.int c5), .val (.int c6), .val (.int c7), .val (.ref b144), .unset] []))
    refine own_go (fun t k => XS.iloadN X166.here hx rfl (hb hby at_152) rfl k) ?_
    show own_G p.tables e below s _ _ _ (T166.setTop (mkF m 153 #[.val (.int p1), .val (.long q1), .second, .val (.int (7 : Int32)), .val (.int c0), .val (.int c1), .val (.int c2), .val (.int c3), .val (.int c4), .val (.int c5), .val (.int c6), .val (.int c7), .val (.ref b144), .unset] [(.int (7 : Int32))]))
    refine own_go (fun t k => XS.bipush X166.here hx rfl (hb hby at_153) k) ?_
    show own_G p.tables e below s _ _ _ (T166.setTop (mkF m 155 #[.val (.int p1), .val (.long q1), .second, .val (.int (7 : Int32)), .val (.int c0), .val (.int c1), .val (.int c2), .val (.int c3), .val (.int c4), .val (.int c5), .val (.int c6), .val (.int c7), .val (.ref b144), .unset] [(.int (7 : Int32)), (.int (7 : Int32))]))
    refine own_go (fun t k => XS.icmpYes X166.here hx rfl (pc0 := 155) (pc' := 165) rfl (hb hby at_155) rfl (by decide) (by decide) (by decide) k) ?_
    show own_G p.tables e below s _ _ _ (T166.setTop (mkF m 165 #[.val (.int p1), .val (.long q1), .second, .val (.int (7 : Int32)), .val (.int c0), .val (.int c1), .val (.int c2), .val (.int c3), .val (.int c4), .val (.int c5), .val (.int c6), .val (.int c7), .val (.ref b144), .unset] []))
    refine own_go (fun t k => XS.iloadN X166.here hx rfl (hb hby at_165) rfl k) ?_
    show own_G p.tables e below s _ _ _ (T166.setTop (mkF m 166 #[.val (.int p1), .val (.long q1), .second, .val (.int (7 : Int32)), .val (.int c0), .val (.int c1), .val (.int c2), .val (.int c3), .val (.int c4), .val (.int c5), .val (.int c6), .val (.int c7), .val (.ref b144), .unset] [(.int (7 : Int32))]))
    refine own_go (fun t k => XS.ifNo X166.here hx rfl (hb hby at_166) rfl (by decide) k) ?_
    show own_G p.tables e below s _ _ _ (T166.setTop (mkF m 169 #[.val (.int p1), .val (.long q1), .second, .val (.int (7 : Int32)), .val (.int c0), .val (.int c1), .val (.int c2), .val (.int c3), .val (.int c4), .val (.int c5), .val (.int c6), .val (.int c7), .val (.ref b144), .unset] []))
    refine own_go (fun t k => XS.iload X166.here hx rfl (hb hby at_169) rfl k) ?_
    show own_G p.tables e below s _ _ _ (T166.setTop (mkF m 171 #[.val (.int p1), .val (.long q1), .second, .val (.int (7 : Int32)), .val (.int c0), .val (.int c1), .val (.int c2), .val (.int c3), .val (.int c4), .val (.int c5), .val (.int c6), .val (.int c7), .val (.ref b144), .unset] [(.int c0)]))
    obtain ⟨ex, hex⟩ : ∃ z, (if c0 < (0 : Int32) ∨ c1 < (0 : Int32) ∨ c2 < (0 : Int32) ∨ c3 < (0 : Int32) ∨ c4 < (0 : Int32) ∨ c5 < (0 : Int32) ∨ c6 < (0 : Int32) then (0 : Int32) else 1) = z := ⟨_, rfl⟩
    refine own_go (A := (T166.setTop (mkF m 251 #[.val (.int p1), .val (.long q1), .second, .val (.int (7 : Int32)), .val (.int c0), .val (.int c1), .val (.int c2), .val (.int c3), .val (.int c4), .val (.int c5), .val (.int c6), .val (.int c7), .val (.ref b144), .unset] [(.int ex)]))) (fun t k => ?_) ?_
    · show Steps p.tables e below (T166.setTop (mkF m 171 #[.val (.int p1), .val (.long q1), .second, .val (.int (7 : Int32)), .val (.int c0), .val (.int c1), .val (.int c2), .val (.int c3), .val (.int c4), .val (.int c5), .val (.int c6), .val (.int c7), .val (.ref b144), .unset] [(.int c0)])) _
      by_cases hn0 : c0 < (0 : Int32)
      · refine XS.ifYes X166.here hx rfl (pc0 := 171) (pc' := 250) rfl (hb hby at_171) rfl (Jvm.Free.XT.i0_lt_t hn0) (by decide) (by decide) ?_
        show Steps p.tables e below (T166.setTop (mkF m 250 #[.val (.int p1), .val (.long q1), .second, .val (.int (7 : Int32)), .val (.int c0), .val (.int c1), .val (.int c2), .val (.int c3), .val (.int c4), .val (.int c5), .val (.int c6), .val (.int c7), .val (.ref b144), .unset] [])) _
        refine XS.iconst X166.here hx rfl (hb hby at_250) ?_
        show Steps p.tables e below (T166.setTop (mkF m 251 #[.val (.int p1), .val (.long q1), .second, .val (.int (7 : Int32)), .val (.int c0), .val (.int c1), .val (.int c2), .val (.int c3), .val (.int c4), .val (.int c5), .val (.int c6), .val (.int c7), .val (.ref b144), .unset] [(.int (0 : Int32))])) _
        rw [← hex, if_pos (Or.inl hn0)] at k
        exact k
      · refine XS.ifNo X166.here hx rfl (hb hby at_171) rfl (Jvm.Free.XT.i0_lt_f hn0) ?_
        show Steps p.tables e below (T166.setTop (mkF m 174 #[.val (.int p1), .val (.long q1), .second, .val (.int (7 : Int32)), .val (.int c0), .val (.int c1), .val (.int c2), .val (.int c3), .val (.int c4), .val (.int c5), .val (.int c6), .val (.int c7), .val (.ref b144), .unset] [])) _
        refine XS.iloadN X166.here hx rfl (hb hby at_174) rfl ?_
        show Steps p.tables e below (T166.setTop (mkF m 175 #[.val (.int p1), .val (.long q1), .second, .val (.int (7 : Int32)), .val (.int c0), .val (.int c1), .val (.int c2), .val (.int c3), .val (.int c4), .val (.int c5), .val (.int c6), .val (.int c7), .val (.ref b144), .unset] [(.int (7 : Int32))])) _
        refine XS.iconst X166.here hx rfl (hb hby at_175) ?_
        show Steps p.tables e below (T166.setTop (mkF m 176 #[.val (.int p1), .val (.long q1), .second, .val (.int (7 : Int32)), .val (.int c0), .val (.int c1), .val (.int c2), .val (.int c3), .val (.int c4), .val (.int c5), .val (.int c6), .val (.int c7), .val (.ref b144), .unset] [(.int (1 : Int32)), (.int (7 : Int32))])) _
        refine XS.icmpNo X166.here hx rfl (hb hby at_176) rfl (by decide) ?_
        show Steps p.tables e below (T166.setTop (mkF m 179 #[.val (.int p1), .val (.long q1), .second, .val (.int (7 : Int32)), .val (.int c0), .val (.int c1), .val (.int c2), .val (.int c3), .val (.int c4), .val (.int c5), .val (.int c6), .val (.int c7), .val (.ref b144), .unset] [])) _
        refine XS.iload X166.here hx rfl (hb hby at_179) rfl ?_
        show Steps p.tables e below (T166.setTop (mkF m 181 #[.val (.int p1), .val (.long q1), .second, .val (.int (7 : Int32)), .val (.int c0), .val (.int c1), .val (.int c2), .val (.int c3), .val (.int c4), .val (.int c5), .val (.int c6), .val (.int c7), .val (.ref b144), .unset] [(.int c1)])) _
        by_cases hn1 : c1 < (0 : Int32)
        · refine XS.ifYes X166.here hx rfl (pc0 := 181) (pc' := 250) rfl (hb hby at_181) rfl (Jvm.Free.XT.i0_lt_t hn1) (by decide) (by decide) ?_
          show Steps p.tables e below (T166.setTop (mkF m 250 #[.val (.int p1), .val (.long q1), .second, .val (.int (7 : Int32)), .val (.int c0), .val (.int c1), .val (.int c2), .val (.int c3), .val (.int c4), .val (.int c5), .val (.int c6), .val (.int c7), .val (.ref b144), .unset] [])) _
          refine XS.iconst X166.here hx rfl (hb hby at_250) ?_
          show Steps p.tables e below (T166.setTop (mkF m 251 #[.val (.int p1), .val (.long q1), .second, .val (.int (7 : Int32)), .val (.int c0), .val (.int c1), .val (.int c2), .val (.int c3), .val (.int c4), .val (.int c5), .val (.int c6), .val (.int c7), .val (.ref b144), .unset] [(.int (0 : Int32))])) _
          rw [← hex, if_pos (Or.inr (Or.inl hn1))] at k
          exact k
        · refine XS.ifNo X166.here hx rfl (hb hby at_181) rfl (Jvm.Free.XT.i0_lt_f hn1) ?_
          show Steps p.tables e below (T166.setTop (mkF m 184 #[.val (.int p1), .val (.long q1), .second, .val (.int (7 : Int32)), .val (.int c0), .val (.int c1), .val (.int c2), .val (.int c3), .val (.int c4), .val (.int c5), .val (.int c6), .val (.int c7), .val (.ref b144), .unset] [])) _
          refine XS.iloadN X166.here hx rfl (hb hby at_184) rfl ?_
          show Steps p.tables e below (T166.setTop (mkF m 185 #[.val (.int p1), .val (.long q1), .second, .val (.int (7 : Int32)), .val (.int c0), .val (.int c1), .val (.int c2), .val (.int c3), .val (.int c4), .val (.int c5), .val (.int c6), .val (.int c7), .val (.ref b144), .unset] [(.int (7 : Int32))])) _
          refine XS.iconst X166.here hx rfl (hb hby at_185) ?_
          show Steps p.tables e below (T166.setTop (mkF m 186 #[.val (.int p1), .val (.long q1), .second, .val (.int (7 : Int32)), .val (.int c0), .val (.int c1), .val (.int c2), .val (.int c3), .val (.int c4), .val (.int c5), .val (.int c6), .val (.int c7), .val (.ref b144), .unset] [(.int (2 : Int32)), (.int (7 : Int32))])) _
          refine XS.icmpNo X166.here hx rfl (hb hby at_186) rfl (by decide) ?_
          show Steps p.tables e below (T166.setTop (mkF m 189 #[.val (.int p1), .val (.long q1), .second, .val (.int (7 : Int32)), .val (.int c0), .val (.int c1), .val (.int c2), .val (.int c3), .val (.int c4), .val (.int c5), .val (.int c6), .val (.int c7), .val (.ref b144), .unset] [])) _
          refine XS.iload X166.here hx rfl (hb hby at_189) rfl ?_
          show Steps p.tables e below (T166.setTop (mkF m 191 #[.val (.int p1), .val (.long q1), .second, .val (.int (7 : Int32)), .val (.int c0), .val (.int c1), .val (.int c2), .val (.int c3), .val (.int c4), .val (.int c5), .val (.int c6), .val (.int c7), .val (.ref b144), .unset] [(.int c2)])) _
          by_cases hn2 : c2 < (0 : Int32)
          · refine XS.ifYes X166.here hx rfl (pc0 := 191) (pc' := 250) rfl (hb hby at_191) rfl (Jvm.Free.XT.i0_lt_t hn2) (by decide) (by decide) ?_
            show Steps p.tables e below (T166.setTop (mkF m 250 #[.val (.int p1), .val (.long q1), .second, .val (.int (7 : Int32)), .val (.int c0), .val (.int c1), .val (.int c2), .val (.int c3), .val (.int c4), .val (.int c5), .val (.int c6), .val (.int c7), .val (.ref b144), .unset] [])) _
            refine XS.iconst X166.here hx rfl (hb hby at_250) ?_
            show Steps p.tables e below (T166.setTop (mkF m 251 #[.val (.int p1), .val (.long q1), .second, .val (.int (7 : Int32)), .val (.int c0), .val (.int c1), .val (.int c2), .val (.int c3), .val (.int c4), .val (.int c5), .val (.int c6), .val (.int c7), .val (.ref b144), .unset] [(.int (0 : Int32))])) _
            rw [← hex, if_pos (Or.inr (Or.inr (Or.inl hn2)))] at k
            exact k
          · refine XS.ifNo X166.here hx rfl (hb hby at_191) rfl (Jvm.Free.XT.i0_lt_f hn2) ?_
            show Steps p.tables e below (T166.setTop (mkF m 194 #[.val (.int p1), .val (.long q1), .second, .val (.int (7 : Int32)), .val (.int c0), .val (.int c1), .val (.int c2), .val (.int c3), .val (.int c4), .val (.int c5), .val (.int c6), .val (.int c7), .val (.ref b144), .unset] [])) _
            refine XS.iloadN X166.here hx rfl (hb hby at_194) rfl ?_
            show Steps p.tables e below (T166.setTop (mkF m 195 #[.val (.int p1), .val (.long q1), .second, .val (.int (7 : Int32)), .val (.int c0), .val (.int c1), .val (.int c2), .val (.int c3), .val (.int c4), .val (.int c5), .val (.int c6), .val (.int c7), .val (.ref b144), .unset] [(.int (7 : Int32))])) _
            refine XS.iconst X166.here hx rfl (hb hby at_195) ?_
            show Steps p.tables e below (T166.setTop (mkF m 196 #[.val (.int p1), .val (.long q1), .second, .val (.int (7 : Int32)), .val (.int c0), .val (.int c1), .val (.int c2), .val (.int c3), .val (.int c4), .val (.int c5), .val (.int c6), .val (.int c7), .val (.ref b144), .unset] [(.int (3 : Int32)), (.int (7 : Int32))])) _
            refine XS.icmpNo X166.here hx rfl (hb hby at_196) rfl (by decide) ?_
            show Steps p.tables e below (T166.setTop (mkF m 199 #[.val (.int p1), .val (.long q1), .second, .val (.int (7 : Int32)), .val (.int c0), .val (.int c1), .val (.int c2), .val (.int c3), .val (.int c4), .val (.int c5), .val (.int c6), .val (.int c7), .val (.ref b144), .unset] [])) _
            refine XS.iload X166.here hx rfl (hb hby at_199) rfl ?_
            show Steps p.tables e below (T166.setTop (mkF m 201 #[.val (.int p1), .val (.long q1), .second, .val (.int (7 : Int32)), .val (.int c0), .val (.int c1), .val (.int c2), .val (.int c3), .val (.int c4), .val (.int c5), .val (.int c6), .val (.int c7), .val (.ref b144), .unset] [(.int c3)])) _
            by_cases hn3 : c3 < (0 : Int32)
            · refine XS.ifYes X166.here hx rfl (pc0 := 201) (pc' := 250) rfl (hb hby at_201) rfl (Jvm.Free.XT.i0_lt_t hn3) (by decide) (by decide) ?_
              show Steps p.tables e below (T166.setTop (mkF m 250 #[.val (.int p1), .val (.long q1), .second, .val (.int (7 : Int32)), .val (.int c0), .val (.int c1), .val (.int c2), .val (.int c3), .val (.int c4), .val (.int c5), .val (.int c6), .val (.int c7), .val (.ref b144), .unset] [])) _
              refine XS.iconst X166.here hx rfl (hb hby at_250) ?_
              show Steps p.tables e below (T166.setTop (mkF m 251 #[.val (.int p1), .val (.long q1), .second, .val (.int (7 : Int32)), .val (.int c0), .val (.int c1), .val (.int c2), .val (.int c3), .val (.int c4), .val (.int c5), .val (.int c6), .val (.int c7), .val (.ref b144), .unset] [(.int (0 : Int32))])) _
              rw [← hex, if_pos (Or.inr (Or.inr (Or.inr (Or.inl hn3))))] at k
              exact k
            · refine XS.ifNo X166.here hx rfl (hb hby at_201) rfl (Jvm.Free.XT.i0_lt_f hn3) ?_
              show Steps p.tables e below (T166.setTop (mkF m 204 #[.val (.int p1), .val (.long q1), .second, .val (.int (7 : Int32)), .val (.int c0), .val (.int c1), .val (.int c2), .val (.int c3), .val (.int c4), .val (.int c5), .val (.int c6), .val (.int c7), .val (.ref b144), .unset] [])) _
              refine XS.iloadN X166.here hx rfl (hb hby at_204) rfl ?_
              show Steps p.tables e below (T166.setTop (mkF m 205 #[.val (.int p1), .val (.long q1), .second, .val (.int (7 : Int32)), .val (.int c0), .val (.int c1), .val (.int c2), .val (.int c3), .val (.int c4), .val (.int c5), .val (.int c6), .val (.int c7), .val (.ref b144), .unset] [(.int (7 : Int32))])) _
              refine XS.iconst X166.here hx rfl (hb hby at_205) ?_
              show Steps p.tables e below (T166.setTop (mkF m 206 #[.val (.int p1), .val (.long q1), .second, .val (.int (7 : Int32)), .val (.int c0), .val (.int c1), .val (.int c2), .val (.int c3), .val (.int c4), .val (.int c5), .val (.int c6), .val (.int c7), .val (.ref b144), .unset] [(.int (4 : Int32)), (.int (7 : Int32))])) _
              refine XS.icmpNo X166.here hx rfl (hb hby at_206) rfl (by decide) ?_
              show Steps p.tables e below (T166.setTop (mkF m 209 #[.val (.int p1), .val (.long q1), .second, .val (.int (7 : Int32)), .val (.int c0), .val (.int c1), .val (.int c2), .val (.int c3), .val (.int c4), .val (.int c5), .val (.int c6), .val (.int c7), .val (.ref b144), .unset] [])) _
              refine XS.iload X166.here hx rfl (hb hby at_209) rfl ?_
              show Steps p.tables e below (T166.setTop (mkF m 211 #[.val (.int p1), .val (.long q1), .second, .val (.int (7 : Int32)), .val (.int c0), .val (.int c1), .val (.int c2), .val (.int c3), .val (.int c4), .val (.int c5), .val (.int c6), .val (.int c7), .val (.ref b144), .unset] [(.int c4)])) _
              by_cases hn4 : c4 < (0 : Int32)
              · refine XS.ifYes X166.here hx rfl (pc0 := 211) (pc' := 250) rfl (hb hby at_211) rfl (Jvm.Free.XT.i0_lt_t hn4) (by decide) (by decide) ?_
                show Steps p.tables e below (T166.setTop (mkF m 250 #[.val (.int p1), .val (.long q1), .second, .val (.int (7 : Int32)), .val (.int c0), .val (.int c1), .val (.int c2), .val (.int c3), .val (.int c4), .val (.int c5), .val (.int c6), .val (.int c7), .val (.ref b144), .unset] [])) _
                refine XS.iconst X166.here hx rfl (hb hby at_250) ?_
                show Steps p.tables e below (T166.setTop (mkF m 251 #[.val (.int p1), .val (.long q1), .second, .val (.int (7 : Int32)), .val (.int c0), .val (.int c1), .val (.int c2), .val (.int c3), .val (.int c4), .val (.int c5), .val (.int c6), .val (.int c7), .val (.ref b144), .unset] [(.int (0 : Int32))])) _
                rw [← hex, if_pos (Or.inr (Or.inr (Or.inr (Or.inr (Or.inl hn4)))))] at k
                exact k
              · refine XS.ifNo X166.here hx rfl (hb hby at_211) rfl (Jvm.Free.XT.i0_lt_f hn4) ?_
                show Steps p.tables e below (T166.setTop (mkF m 214 #[.val (.int p1), .val (.long q1), .second, .val (.int (7 : Int32)), .val (.int c0), .val (.int c1), .val (.int c2), .val (.int c3), .val (.int c4), .val (.int c5), .val (.int c6), .val (.int c7), .val (.ref b144), .unset] [])) _
                refine XS.iloadN X166.here hx rfl (hb hby at_214) rfl ?_
                show Steps p.tables e below (T166.setTop (mkF m 215 #[.val (.int p1), .val (.long q1), .second, .val (.int (7 : Int32)), .val (.int c0), .val (.int c1), .val (.int c2), .val (.int c3), .val (.int c4), .val (.int c5), .val (.int c6), .val (.int c7), .val (.ref b144), .unset] [(.int (7 : Int32))])) _
                refine XS.iconst X166.here hx rfl (hb hby at_215) ?_
                show Steps p.tables e below (T166.setTop (mkF m 216 #[.val (.int p1), .val (.long q1), .second, .val (.int (7 : Int32)), .val (.int c0), .val (.int c1), .val (.int c2), .val (.int c3), .val (.int c4), .val (.int c5), .val (.int c6), .val (.int c7), .val (.ref b144), .unset] [(.int (5 : Int32)), (.int (7 : Int32))])) _
                refine XS.icmpNo X166.here hx rfl (hb hby at_216) rfl (by decide) ?_
                show Steps p.tables e below (T166.setTop (mkF m 219 #[.val (.int p1), .val (.long q1), .second, .val (.int (7 : Int32)), .val (.int c0), .val (.int c1), .val (.int c2), .val (.int c3), .val (.int c4), .val (.int c5), .val (.int c6), .val (.int c7), .val (.ref b144), .unset] [])) _
                refine XS.iload X166.here hx rfl (hb hby at_219) rfl ?_
                show Steps p.tables e below (T166.setTop (mkF m 221 #[.val (.int p1), .val (.long q1), .second, .val (.int (7 : Int32)), .val (.int c0), .val (.int c1), .val (.int c2), .val (.int c3), .val (.int c4), .val (.int c5), .val (.int c6), .val (.int c7), .val (.ref b144), .unset] [(.int c5)])) _
                by_cases hn5 : c5 < (0 : Int32)
                · refine XS.ifYes X166.here hx rfl (pc0 := 221) (pc' := 250) rfl (hb hby at_221) rfl (Jvm.Free.XT.i0_lt_t hn5) (by decide) (by decide) ?_
                  show Steps p.tables e below (T166.setTop (mkF m 250 #[.val (.int p1), .val (.long q1), .second, .val (.int (7 : Int32)), .val (.int c0), .val (.int c1), .val (.int c2), .val (.int c3), .val (.int c4), .val (.int c5), .val (.int c6), .val (.int c7), .val (.ref b144), .unset] [])) _
                  refine XS.iconst X166.here hx rfl (hb hby at_250) ?_
                  show Steps p.tables e below (T166.setTop (mkF m 251 #[.val (.int p1), .val (.long q1), .second, .val (.int (7 : Int32)), .val (.int c0), .val (.int c1), .val (.int c2), .val (.int c3), .val (.int c4), .val (.int c5), .val (.int c6), .val (.int c7), .val (.ref b144), .unset] [(.int (0 : Int32))])) _
                  rw [← hex, if_pos (Or.inr (Or.inr (Or.inr (Or.inr (Or.inr (Or.inl hn5))))))] at k
                  exact k
                · refine XS.ifNo X166.here hx rfl (hb hby at_221) rfl (Jvm.Free.XT.i0_lt_f hn5) ?_
                  show Steps p.tables e below (T166.setTop (mkF m 224 #[.val (.int p1), .val (.long q1), .second, .val (.int (7 : Int32)), .val (.int c0), .val (.int c1), .val (.int c2), .val (.int c3), .val (.int c4), .val (.int c5), .val (.int c6), .val (.int c7), .val (.ref b144), .unset] [])) _
                  refine XS.iloadN X166.here hx rfl (hb hby at_224) rfl ?_
                  show Steps p.tables e below (T166.setTop (mkF m 225 #[.val (.int p1), .val (.long q1), .second, .val (.int (7 : Int32)), .val (.int c0), .val (.int c1), .val (.int c2), .val (.int c3), .val (.int c4), .val (.int c5), .val (.int c6), .val (.int c7), .val (.ref b144), .unset] [(.int (7 : Int32))])) _
                  refine XS.bipush X166.here hx rfl (hb hby at_225) ?_
                  show Steps p.tables e below (T166.setTop (mkF m 227 #[.val (.int p1), .val (.long q1), .second, .val (.int (7 : Int32)), .val (.int c0), .val (.int c1), .val (.int c2), .val (.int c3), .val (.int c4), .val (.int c5), .val (.int c6), .val (.int c7), .val (.ref b144), .unset] [(.int (6 : Int32)), (.int (7 : Int32))])) _
                  refine XS.icmpNo X166.here hx rfl (hb hby at_227) rfl (by decide) ?_
                  show Steps p.tables e below (T166.setTop (mkF m 230 #[.val (.int p1), .val (.long q1), .second, .val (.int (7 : Int32)), .val (.int c0), .val (.int c1), .val (.int c2), .val (.int c3), .val (.int c4), .val (.int c5), .val (.int c6), .val (.int c7), .val (.ref b144), .unset] [])) _
                  refine XS.iload X166.here hx rfl (hb hby at_230) rfl ?_
                  show Steps p.tables e below (T166.setTop (mkF m 232 #[.val (.int p1), .val (.long q1), .second, .val (.int (7 : Int32)), .val (.int c0), .val (.int c1), .val (.int c2), .val (.int c3), .val (.int c4), .val (.int c5), .val (.int c6), .val (.int c7), .val (.ref b144), .unset] [(.int c6)])) _
                  by_cases hn6 : c6 < (0 : Int32)
                  · refine XS.ifYes X166.here hx rfl (pc0 := 232) (pc' := 250) rfl (hb hby at_232) rfl (Jvm.Free.XT.i0_lt_t hn6) (by decide) (by decide) ?_
                    show Steps p.tables e below (T166.setTop (mkF m 250 #[.val (.int p1), .val (.long q1), .second, .val (.int (7 : Int32)), .val (.int c0), .val (.int c1), .val (.int c2), .val (.int c3), .val (.int c4), .val (.int c5), .val (.int c6), .val (.int c7), .val (.ref b144), .unset] [])) _
                    refine XS.iconst X166.here hx rfl (hb hby at_250) ?_
                    show Steps p.tables e below (T166.setTop (mkF m 251 #[.val (.int p1), .val (.long q1), .second, .val (.int (7 : Int32)), .val (.int c0), .val (.int c1), .val (.int c2), .val (.int c3), .val (.int c4), .val (.int c5), .val (.int c6), .val (.int c7), .val (.ref b144), .unset] [(.int (0 : Int32))])) _
                    rw [← hex, if_pos (Or.inr (Or.inr (Or.inr (Or.inr (Or.inr (Or.inr (hn6)))))))] at k
                    exact k
                  · refine XS.ifNo X166.here hx rfl (hb hby at_232) rfl (Jvm.Free.XT.i0_lt_f hn6) ?_
                    show Steps p.tables e below (T166.setTop (mkF m 235 #[.val (.int p1), .val (.long q1), .second, .val (.int (7 : Int32)), .val (.int c0), .val (.int c1), .val (.int c2), .val (.int c3), .val (.int c4), .val (.int c5), .val (.int c6), .val (.int c7), .val (.ref b144), .unset] [])) _
                    refine XS.iloadN X166.here hx rfl (hb hby at_235) rfl ?_
                    show Steps p.tables e below (T166.setTop (mkF m 236 #[.val (.int p1), .val (.long q1), .second, .val (.int (7 : Int32)), .val (.int c0), .val (.int c1), .val (.int c2), .val (.int c3), .val (.int c4), .val (.int c5), .val (.int c6), .val (.int c7), .val (.ref b144), .unset] [(.int (7 : Int32))])) _
                    refine XS.bipush X166.here hx rfl (hb hby at_236) ?_
                    show Steps p.tables e below (T166.setTop (mkF m 238 #[.val (.int p1), .val (.long q1), .second, .val (.int (7 : Int32)), .val (.int c0), .val (.int c1), .val (.int c2), .val (.int c3), .val (.int c4), .val (.int c5), .val (.int c6), .val (.int c7), .val (.ref b144), .unset] [(.int (7 : Int32)), (.int (7 : Int32))])) _
                    refine XS.icmpYes X166.here hx rfl (pc0 := 238) (pc' := 246) rfl (hb hby at_238) rfl (by decide) (by decide) (by decide) ?_
                    show Steps p.tables e below (T166.setTop (mkF m 246 #[.val (.int p1), .val (.long q1), .second, .val (.int (7 : Int32)), .val (.int c0), .val (.int c1), .val (.int c2), .val (.int c3), .val (.int c4), .val (.int c5), .val (.int c6), .val (.int c7), .val (.ref b144), .unset] [])) _
                    refine XS.iconst X166.here hx rfl (hb hby at_246) ?_
                    show Steps p.tables e below (T166.setTop (mkF m 247 #[.val (.int p1), .val (.long q1), .second, .val (.int (7 : Int32)), .val (.int c0), .val (.int c1), .val (.int c2), .val (.int c3), .val (.int c4), .val (.int c5), .val (.int c6), .val (.int c7), .val (.ref b144), .unset] [(.int (1 : Int32))])) _
                    refine XS.goto X166.here hx rfl (pc0 := 247) (pc' := 251) rfl (hb hby at_247) (by decide) (by decide) ?_
                    show Steps p.tables e below (T166.setTop (mkF m 251 #[.val (.int p1), .val (.long q1), .second, .val (.int (7 : Int32)), .val (.int c0), .val (.int c1), .val (.int c2), .val (.int c3), .val (.int c4), .val (.int c5), .val (.int c6), .val (.int c7), .val (.ref b144), .unset] [(.int (1 : Int32))])) _
                    rw [← hex, if_neg (fun q => q.elim hn0 (fun q => q.elim hn1 (fun q => q.elim hn2 (fun q => q.elim hn3 (fun q => q.elim hn4 (fun q => q.elim hn5 hn6))))))] at k
                    exact k
    show own_G p.tables e below s _ _ _ (T166.setTop (mkF m 251 #[.val (.int p1), .val (.long q1), .second, .val (.int (7 : Int32)), .val (.int c0), .val (.int c1), .val (.int c2), .val (.int c3), .val (.int c4), .val (.int c5), .val (.int c6), .val (.int c7), .val (.ref b144), .unset] [(.int ex)]))
    refine own_go (fun t k => XS.istore X166.here hx rfl (hb hby at_251) rfl (l' := #[.val (.int p1), .val (.long q1), .second, .val (.int (7 : Int32)), .val (.int c0), .val (.int c1), .val (.int c2), .val (.int c3), .val (.int c4), .val (.int c5), .val (.int c6), .val (.int c7), .val (.ref b144), .val (.int ex)]) rfl k) ?_
    show own_G p.tables e below s _ _ _ (T166.setTop (mkF m 253 #[.val (.int p1), .val (.long q1), .second, .val (.int (7 : Int32)), .val (.int c0), .val (.int c1), .val (.int c2), .val (.int c3), .val (.int c4), .val (.int c5), .val (.int c6), .val (.int c7), .val (.ref b144), .val (.int ex)] []))
    refine own_go (fun t k => XS.aload X166.here hx rfl (hb hby at_253) rfl rfl k) ?_
    show own_G p.tables e below s _ _ _ (T166.setTop (mkF m 255 #[.val (.int p1), .val (.long q1), .second, .val (.int (7 : Int32)), .val (.int c0), .val (.int c1), .val (.int c2), .val (.int c3), .val (.int c4), .val (.int c5), .val (.int c6), .val (.int c7), .val (.ref b144), .val (.int ex)] [(.ref b144)]))
    obtain ⟨_, _, ⟨T169, L169, k169, n169⟩, -, X169, ⟨Lc169, hQ169, l169, y169, z169⟩, st169⟩ := Jvm.LawKit.callS X166 hx (y := (⟨"com/example/cartulary/cartulary/model/Syntax", "isAscii", "([B)Z"⟩ : MethodName)) hown (mvT hZ (hw _ (List.mem_of_getElem? (i := 2) rfl))) (mvT hZ (hw _ (List.mem_of_getElem? (i := 3) rfl))) (mvT hZ (hw _ (List.mem_of_getElem? (i := 4) rfl))) (mvT hZ (hw _ (List.mem_of_getElem? (i := 5) rfl))) (by decide) (backOf (W := 0) (rm1_7 l Z a0 hw [] b144 k144 c0 c1 c2 c3 c4 c5 c6 ex h166 n0 z168 v167 hex) hZ (hw _ (List.mem_of_getElem? (i := 5) rfl)) (hw _ (List.mem_of_getElem? (i := 4) rfl)) (by decide) (by decide)) (g := (mkF m 255 #[.val (.int p1), .val (.long q1), .second, .val (.int (7 : Int32)), .val (.int c0), .val (.int c1), .val (.int c2), .val (.int c3), .val (.int c4), .val (.int c5), .val (.int c6), .val (.int c7), .val (.ref b144), .val (.int ex)] [(.ref b144)])) rfl (by rw [hml]; rfl) (argsL := [(.ref b144)]) (rest := []) (lenOf pd___B_Z rfl) rfl (by show 2 * 0 + _ ≤ _; exact Nat.le_of_eq rfl) (hb hby at_255) (fun _ _ => ⟨rfl, e166, (by decide : 1 + 0 ≤ _), (by decide : 7 + 0 ≤ _)⟩)
    dsimp only [Pt.U, Pt.locs, Pt.cells, Pt.slots] at X169 l169 y169 z169 st169 hQ169
    subst l169 y169 z169
    obtain ⟨rfl, N169q, hh169⟩ := hQ169
    have N169 := Fr.app N166 N169q
    refine own_go st169 ?_
    show own_G p.tables e below s _ _ _ (T169.setTop (mkF m 258 #[.val (.int p1), .val (.long q1), .second, .val (.int (7 : Int32)), .val (.int c0), .val (.int c1), .val (.int c2), .val (.int c3), .val (.int c4), .val (.int c5), .val (.int c6), .val (.int c7), .val (.ref b144), .val (.int ex)] [(.int ex)]))
    refine own_go (fun t k => XS.iload X169.here hx rfl (hb hby at_258) rfl k) ?_
    show own_G p.tables e below s _ _ _ (T169.setTop (mkF m 260 #[.val (.int p1), .val (.long q1), .second, .val (.int (7 : Int32)), .val (.int c0), .val (.int c1), .val (.int c2), .val (.int c3), .val (.int c4), .val (.int c5), .val (.int c6), .val (.int c7), .val (.ref b144), .val (.int ex)] [(.int ex), (.int ex)]))
    refine own_go (fun t k => XS.icmpNo X169.here hx rfl (hb hby at_260) rfl (Jvm.Free.XT.ii_ne_f rfl) k) ?_
    show own_G p.tables e below s _ _ _ (T169.setTop (mkF m 263 #[.val (.int p1), .val (.long q1), .second, .val (.int (7 : Int32)), .val (.int c0), .val (.int c1), .val (.int c2), .val (.int c3), .val (.int c4), .val (.int c5), .val (.int c6), .val (.int c7), .val (.ref b144), .val (.int ex)] []))
    refine own_go (fun t k => XS.iconst X169.here hx rfl (hb hby at_263) k) ?_
    show own_G p.tables e below s _ _ _ (T169.setTop (mkF m 264 #[.val (.int p1), .val (.long q1), .second, .val (.int (7 : Int32)), .val (.int c0), .val (.int c1), .val (.int c2), .val (.int c3), .val (.int c4), .val (.int c5), .val (.int c6), .val (.int c7), .val (.ref b144), .val (.int ex)] [(.int (1 : Int32))]))
    refine own_go (fun t k => XS.goto X169.here hx rfl (pc0 := 264) (pc' := 268) rfl (hb hby at_264) (by decide) (by decide) k) ?_
    show own_G p.tables e below s _ _ _ (T169.setTop (mkF m 268 #[.val (.int p1), .val (.long q1), .second, .val (.int (7 : Int32)), .val (.int c0), .val (.int c1), .val (.int c2), .val (.int c3), .val (.int c4), .val (.int c5), .val (.int c6), .val (.int c7), .val (.ref b144), .val (.int ex)] [(.int (1 : Int32))]))
    exact own_retN X169 hx hlk (t := .boolean) (z' := (1 : Int32)) Bd.returns (by simp) (hb hby at_268) (rfl) (by rw [hh169]; exact ⟨rfl, N169⟩) (by decide) (by decide)
  · show own_G p.tables e below s _ _ _ (s₁.setTop (mkF m 69 #[.val (.int p1), .val (.long q1), .second, .val (.int (8 : Int32)), .val (.int c0), .val (.int c1), .val (.int c2), .val (.int c3), .val (.int c4), .val (.int c5), .val (.int c6), .val (.int c7), .unset, .unset] []))
    refine own_go (fun t k => XS.iloadN X0.here hx rfl (hb hby at_69) rfl k) ?_
    show own_G p.tables e below s _ _ _ (s₁.setTop (mkF m 70 #[.val (.int p1), .val (.long q1), .second, .val (.int (8 : Int32)), .val (.int c0), .val (.int c1), .val (.int c2), .val (.int c3), .val (.int c4), .val (.int c5), .val (.int c6), .val (.int c7), .unset, .unset] [(.int (8 : Int32))]))
    obtain ⟨T170, h170, k170, X170, e170, E170, A170, st170⟩ := newP X0 hx hZ (hw _ (List.mem_of_getElem? (i := 1) rfl)) e0 (g := (mkF m 70 #[.val (.int p1), .val (.long q1), .second, .val (.int (8 : Int32)), .val (.int c0), .val (.int c1), .val (.int c2), .val (.int c3), .val (.int c4), .val (.int c5), .val (.int c6), .val (.int c7), .unset, .unset] [(.int (8 : Int32))])) rfl (hb hby at_70) rfl (by decide) (cap := 8) (by decide) (by decide) (by decide) (by decide)
    obtain ⟨b170, g170⟩ : ∃ z, z = h0.size := ⟨_, rfl⟩
    rw [← g170] at A170 st170
    refine own_go st170 ?_
    have g171 := Nat.le_trans Z0 (Nat.le_of_eq g170.symm)
    have z172 := Nat.le_trans Z0 E170.1
    have v173 : Arv Z h170 b170 k170 .byte (8 : Int32) [(.int (0 : Int32)), (.int (0 : Int32)), (.int (0 : Int32)), (.int (0 : Int32)), (.int (0 : Int32)), (.int (0 : Int32)), (.int (0 : Int32)), (.int (0 : Int32))] (.int (0 : Int32)) := (Arv.new A170 (by decide)).pad (pad_rep [] (.int (0 : Int32)) 8)
    show own_G p.tables e below s _ _ _ (T170.setTop (mkF m 72 #[.val (.int p1), .val (.long q1), .second, .val (.int (8 : Int32)), .val (.int c0), .val (.int c1), .val (.int c2), .val (.int c3), .val (.int c4), .val (.int c5), .val (.int c6), .val (.int c7), .unset, .unset] [(.ref b170)]))
    refine own_go (fun t k => XS.astore X170.here hx rfl (hb hby at_72) rfl rfl (l' := #[.val (.int p1), .val (.long q1), .second, .val (.int (8 : Int32)), .val (.int c0), .val (.int c1), .val (.int c2), .val (.int c3), .val (.int c4), .val (.int c5), .val (.int c6), .val (.int c7), .val (.ref b170), .unset]) rfl k) ?_
    show own_G p.tables e below s _ _ _ (T170.setTop (mkF m 74 #[.val (.int p1), .val (.long q1), .second, .val (.int (8 : Int32)), .val (.int c0), .val (.int c1), .val (.int c2), .val (.int c3), .val (.int c4), .val (.int c5), .val (.int c6), .val (.int c7), .val (.ref b170), .unset] []))
    refine own_go (fun t k => XS.iloadN X170.here hx rfl (hb hby at_74) rfl k) ?_
    show own_G p.tables e below s _ _ _ (T170.setTop (mkF m 75 #[.val (.int p1), .val (.long q1), .second, .val (.int (8 : Int32)), .val (.int c0), .val (.int c1), .val (.int c2), .val (.int c3), .val (.int c4), .val (.int c5), .val (.int c6), .val (.int c7), .val (.ref b170), .unset] [(.int (8 : Int32))]))
    refine own_go (fun t k => XS.ifNo X170.here hx rfl (hb hby at_75) rfl (by decide) k) ?_
    show own_G p.tables e below s _ _ _ (T170.setTop (mkF m 78 #[.val (.int p1), .val (.long q1), .second, .val (.int (8 : Int32)), .val (.int c0), .val (.int c1), .val (.int c2), .val (.int c3), .val (.int c4), .val (.int c5), .val (.int c6), .val (.int c7), .val (.ref b170), .unset] []))
    refine own_go (fun t k => XS.aload X170.here hx rfl (hb hby at_78) rfl rfl k) ?_
    show own_G p.tables e below s _ _ _ (T170.setTop (mkF m 80 #[.val (.int p1), .val (.long q1), .second, .val (.int (8 : Int32)), .val (.int c0), .val (.int c1), .val (.int c2), .val (.int c3), .val (.int c4), .val (.int c5), .val (.int c6), .val (.int c7), .val (.ref b170), .unset] [(.ref b170)]))
    refine own_go (fun t k => XS.iconst X170.here hx rfl (hb hby at_80) k) ?_
    show own_G p.tables e below s _ _ _ (T170.setTop (mkF m 81 #[.val (.int p1), .val (.long q1), .second, .val (.int (8 : Int32)), .val (.int c0), .val (.int c1), .val (.int c2), .val (.int c3), .val (.int c4), .val (.int c5), .val (.int c6), .val (.int c7), .val (.ref b170), .unset] [(.int (0 : Int32)), (.ref b170)]))
    refine own_go (fun t k => XS.iload X170.here hx rfl (hb hby at_81) rfl k) ?_
    show own_G p.tables e below s _ _ _ (T170.setTop (mkF m 83 #[.val (.int p1), .val (.long q1), .second, .val (.int (8 : Int32)), .val (.int c0), .val (.int c1), .val (.int c2), .val (.int c3), .val (.int c4), .val (.int c5), .val (.int c6), .val (.int c7), .val (.ref b170), .unset] [(.int c0), (.int (0 : Int32)), (.ref b170)]))
    obtain ⟨cl174, Ar174, q174, S174, NN174, HH174, GG174⟩ := v173
    have hin174 : ¬ ((0 : Int32) < 0 ∨ cl174.slots.size ≤ ((0 : Int32)).toNatClampNeg) := inb_of S174 ⟨by decide, by decide⟩
    obtain ⟨T174, h174, X174, e174, W174, st174⟩ := stB X170 hx hZ e170 Ar174 (j := (0 : Int32)) hin174 (g := (mkF m 83 #[.val (.int p1), .val (.long q1), .second, .val (.int (8 : Int32)), .val (.int c0), .val (.int c1), .val (.int c2), .val (.int c3), .val (.int c4), .val (.int c5), .val (.int c6), .val (.int c7), .val (.ref b170), .unset] [(.int c0), (.int (0 : Int32)), (.ref b170)])) rfl rfl (hb hby at_83)
    refine own_go st174 ?_
    have v175 : Arv Z h174 b170 k170 .byte (8 : Int32) [(.int (nar .byte c0)), (.int (0 : Int32)), (.int (0 : Int32)), (.int (0 : Int32)), (.int (0 : Int32)), (.int (0 : Int32)), (.int (0 : Int32)), (.int (0 : Int32))] (.int (0 : Int32)) := Arv.set Ar174 q174 S174 NN174 HH174 GG174 (fits_nar_byte _) W174 0 rfl (Nat.le_of_ble_eq_true rfl)
    rw [hb0] at v175
    have z176 := Nat.le_trans z172 (Keep.of_wr W174).1
    have N174 := Fr.snoc X174 N0 g171
    show own_G p.tables e below s _ _ _ (T174.setTop (mkF m 84 #[.val (.int p1), .val (.long q1), .second, .val (.int (8 : Int32)), .val (.int c0), .val (.int c1), .val (.int c2), .val (.int c3), .val (.int c4), .val (.int c5), .val (.int c6), .val (.int c7), .val (.ref b170), .unset] []))
    refine own_go (fun t k => XS.iloadN X174.here hx rfl (hb hby at_84) rfl k) ?_
    show own_G p.tables e below s _ _ _ (T174.setTop (mkF m 85 #[.val (.int p1), .val (.long q1), .second, .val (.int (8 : Int32)), .val (.int c0), .val (.int c1), .val (.int c2), .val (.int c3), .val (.int c4), .val (.int c5), .val (.int c6), .val (.int c7), .val (.ref b170), .unset] [(.int (8 : Int32))]))
    refine own_go (fun t k => XS.iconst X174.here hx rfl (hb hby at_85) k) ?_
    show own_G p.tables e below s _ _ _ (T174.setTop (mkF m 86 #[.val (.int p1), .val (.long q1), .second, .val (.int (8 : Int32)), .val (.int c0), .val (.int c1), .val (.int c2), .val (.int c3), .val (.int c4), .val (.int c5), .val (.int c6), .val (.int c7), .val (.ref b170), .unset] [(.int (1 : Int32)), (.int (8 : Int32))]))
    refine own_go (fun t k => XS.icmpNo X174.here hx rfl (hb hby at_86) rfl (by decide) k) ?_
    show own_G p.tables e below s _ _ _ (T174.setTop (mkF m 89 #[.val (.int p1), .val (.long q1), .second, .val (.int (8 : Int32)), .val (.int c0), .val (.int c1), .val (.int c2), .val (.int c3), .val (.int c4), .val (.int c5), .val (.int c6), .val (.int c7), .val (.ref b170), .unset] []))
    refine own_go (fun t k => XS.aload X174.here hx rfl (hb hby at_89) rfl rfl k) ?_
    show own_G p.tables e below s _ _ _ (T174.setTop (mkF m 91 #[.val (.int p1), .val (.long q1), .second, .val (.int (8 : Int32)), .val (.int c0), .val (.int c1), .val (.int c2), .val (.int c3), .val (.int c4), .val (.int c5), .val (.int c6), .val (.int c7), .val (.ref b170), .unset] [(.ref b170)]))
    refine own_go (fun t k => XS.iconst X174.here hx rfl (hb hby at_91) k) ?_
    show own_G p.tables e below s _ _ _ (T174.setTop (mkF m 92 #[.val (.int p1), .val (.long q1), .second, .val (.int (8 : Int32)), .val (.int c0), .val (.int c1), .val (.int c2), .val (.int c3), .val (.int c4), .val (.int c5), .val (.int c6), .val (.int c7), .val (.ref b170), .unset] [(.int (1 : Int32)), (.ref b170)]))
    refine own_go (fun t k => XS.iload X174.here hx rfl (hb hby at_92) rfl k) ?_
    show own_G p.tables e below s _ _ _ (T174.setTop (mkF m 94 #[.val (.int p1), .val (.long q1), .second, .val (.int (8 : Int32)), .val (.int c0), .val (.int c1), .val (.int c2), .val (.int c3), .val (.int c4), .val (.int c5), .val (.int c6), .val (.int c7), .val (.ref b170), .unset] [(.int c1), (.int (1 : Int32)), (.ref b170)]))
    obtain ⟨cl177, Ar177, q177, S177, NN177, HH177, GG177⟩ := v175
    have hin177 : ¬ ((1 : Int32) < 0 ∨ cl177.slots.size ≤ ((1 : Int32)).toNatClampNeg) := inb_of S177 ⟨by decide, by decide⟩
    obtain ⟨T177, h177, X177, e177, W177, st177⟩ := stB X174 hx hZ e174 Ar177 (j := (1 : Int32)) hin177 (g := (mkF m 94 #[.val (.int p1), .val (.long q1), .second, .val (.int (8 : Int32)), .val (.int c0), .val (.int c1), .val (.int c2), .val (.int c3), .val (.int c4), .val (.int c5), .val (.int c6), .val (.int c7), .val (.ref b170), .unset] [(.int c1), (.int (1 : Int32)), (.ref b170)])) rfl rfl (hb hby at_94)
    refine own_go st177 ?_
    have v178 : Arv Z h177 b170 k170 .byte (8 : Int32) [(.int c0), (.int (nar .byte c1)), (.int (0 : Int32)), (.int (0 : Int32)), (.int (0 : Int32)), (.int (0 : Int32)), (.int (0 : Int32)), (.int (0 : Int32))] (.int (0 : Int32)) := Arv.set Ar177 q177 S177 NN177 HH177 GG177 (fits_nar_byte _) W177 1 rfl (Nat.le_of_ble_eq_true rfl)
    rw [hb1] at v178
    have z179 := Nat.le_trans z176 (Keep.of_wr W177).1
    have N177 := Fr.snoc X177 N174 g171
    show own_G p.tables e below s _ _ _ (T177.setTop (mkF m 95 #[.val (.int p1), .val (.long q1), .second, .val (.int (8 : Int32)), .val (.int c0), .val (.int c1), .val (.int c2), .val (.int c3), .val (.int c4), .val (.int c5), .val (.int c6), .val (.int c7), .val (.ref b170), .unset] []))
    refine own_go (fun t k => XS.iloadN X177.here hx rfl (hb hby at_95) rfl k) ?_
    show own_G p.tables e below s _ _ _ (T177.setTop (mkF m 96 #[.val (.int p1), .val (.long q1), .second, .val (.int (8 : Int32)), .val (.int c0), .val (.int c1), .val (.int c2), .val (.int c3), .val (.int c4), .val (.int c5), .val (.int c6), .val (.int c7), .val (.ref b170), .unset] [(.int (8 : Int32))]))
    refine own_go (fun t k => XS.iconst X177.here hx rfl (hb hby at_96) k) ?_
    show own_G p.tables e below s _ _ _ (T177.setTop (mkF m 97 #[.val (.int p1), .val (.long q1), .second, .val (.int (8 : Int32)), .val (.int c0), .val (.int c1), .val (.int c2), .val (.int c3), .val (.int c4), .val (.int c5), .val (.int c6), .val (.int c7), .val (.ref b170), .unset] [(.int (2 : Int32)), (.int (8 : Int32))]))
    refine own_go (fun t k => XS.icmpNo X177.here hx rfl (hb hby at_97) rfl (by decide) k) ?_
    show own_G p.tables e below s _ _ _ (T177.setTop (mkF m 100 #[.val (.int p1), .val (.long q1), .second, .val (.int (8 : Int32)), .val (.int c0), .val (.int c1), .val (.int c2), .val (.int c3), .val (.int c4), .val (.int c5), .val (.int c6), .val (.int c7), .val (.ref b170), .unset] []))
    refine own_go (fun t k => XS.aload X177.here hx rfl (hb hby at_100) rfl rfl k) ?_
    show own_G p.tables e below s _ _ _ (T177.setTop (mkF m 102 #[.val (.int p1), .val (.long q1), .second, .val (.int (8 : Int32)), .val (.int c0), .val (.int c1), .val (.int c2), .val (.int c3), .val (.int c4), .val (.int c5), .val (.int c6), .val (.int c7), .val (.ref b170), .unset] [(.ref b170)]))
    refine own_go (fun t k => XS.iconst X177.here hx rfl (hb hby at_102) k) ?_
    show own_G p.tables e below s _ _ _ (T177.setTop (mkF m 103 #[.val (.int p1), .val (.long q1), .second, .val (.int (8 : Int32)), .val (.int c0), .val (.int c1), .val (.int c2), .val (.int c3), .val (.int c4), .val (.int c5), .val (.int c6), .val (.int c7), .val (.ref b170), .unset] [(.int (2 : Int32)), (.ref b170)]))
    refine own_go (fun t k => XS.iload X177.here hx rfl (hb hby at_103) rfl k) ?_
    show own_G p.tables e below s _ _ _ (T177.setTop (mkF m 105 #[.val (.int p1), .val (.long q1), .second, .val (.int (8 : Int32)), .val (.int c0), .val (.int c1), .val (.int c2), .val (.int c3), .val (.int c4), .val (.int c5), .val (.int c6), .val (.int c7), .val (.ref b170), .unset] [(.int c2), (.int (2 : Int32)), (.ref b170)]))
    obtain ⟨cl180, Ar180, q180, S180, NN180, HH180, GG180⟩ := v178
    have hin180 : ¬ ((2 : Int32) < 0 ∨ cl180.slots.size ≤ ((2 : Int32)).toNatClampNeg) := inb_of S180 ⟨by decide, by decide⟩
    obtain ⟨T180, h180, X180, e180, W180, st180⟩ := stB X177 hx hZ e177 Ar180 (j := (2 : Int32)) hin180 (g := (mkF m 105 #[.val (.int p1), .val (.long q1), .second, .val (.int (8 : Int32)), .val (.int c0), .val (.int c1), .val (.int c2), .val (.int c3), .val (.int c4), .val (.int c5), .val (.int c6), .val (.int c7), .val (.ref b170), .unset] [(.int c2), (.int (2 : Int32)), (.ref b170)])) rfl rfl (hb hby at_105)
    refine own_go st180 ?_
    have v181 : Arv Z h180 b170 k170 .byte (8 : Int32) [(.int c0), (.int c1), (.int (nar .byte c2)), (.int (0 : Int32)), (.int (0 : Int32)), (.int (0 : Int32)), (.int (0 : Int32)), (.int (0 : Int32))] (.int (0 : Int32)) := Arv.set Ar180 q180 S180 NN180 HH180 GG180 (fits_nar_byte _) W180 2 rfl (Nat.le_of_ble_eq_true rfl)
    rw [hb2] at v181
    have z182 := Nat.le_trans z179 (Keep.of_wr W180).1
    have N180 := Fr.snoc X180 N177 g171
    show own_G p.tables e below s _ _ _ (T180.setTop (mkF m 106 #[.val (.int p1), .val (.long q1), .second, .val (.int (8 : Int32)), .val (.int c0), .val (.int c1), .val (.int c2), .val (.int c3), .val (.int c4), .val (.int c5), .val (.int c6), .val (.int c7), .val (.ref b170), .unset] []))
    refine own_go (fun t k => XS.iloadN X180.here hx rfl (hb hby at_106) rfl k) ?_
    show own_G p.tables e below s _ _ _ (T180.setTop (mkF m 107 #[.val (.int p1), .val (.long q1), .second, .val (.int (8 : Int32)), .val (.int c0), .val (.int c1), .val (.int c2), .val (.int c3), .val (.int c4), .val (.int c5), .val (.int c6), .val (.int c7), .val (.ref b170), .unset] [(.int (8 : Int32))]))
    refine own_go (fun t k => XS.iconst X180.here hx rfl (hb hby at_107) k) ?_
    show own_G p.tables e below s _ _ _ (T180.setTop (mkF m 108 #[.val (.int p1), .val (.long q1), .second, .val (.int (8 : Int32)), .val (.int c0), .val (.int c1), .val (.int c2), .val (.int c3), .val (.int c4), .val (.int c5), .val (.int c6), .val (.int c7), .val (.ref b170), .unset] [(.int (3 : Int32)), (.int (8 : Int32))]))
    refine own_go (fun t k => XS.icmpNo X180.here hx rfl (hb hby at_108) rfl (by decide) k) ?_
    show own_G p.tables e below s _ _ _ (T180.setTop (mkF m 111 #[.val (.int p1), .val (.long q1), .second, .val (.int (8 : Int32)), .val (.int c0), .val (.int c1), .val (.int c2), .val (.int c3), .val (.int c4), .val (.int c5), .val (.int c6), .val (.int c7), .val (.ref b170), .unset] []))
    refine own_go (fun t k => XS.aload X180.here hx rfl (hb hby at_111) rfl rfl k) ?_
    show own_G p.tables e below s _ _ _ (T180.setTop (mkF m 113 #[.val (.int p1), .val (.long q1), .second, .val (.int (8 : Int32)), .val (.int c0), .val (.int c1), .val (.int c2), .val (.int c3), .val (.int c4), .val (.int c5), .val (.int c6), .val (.int c7), .val (.ref b170), .unset] [(.ref b170)]))
    refine own_go (fun t k => XS.iconst X180.here hx rfl (hb hby at_113) k) ?_
    show own_G p.tables e below s _ _ _ (T180.setTop (mkF m 114 #[.val (.int p1), .val (.long q1), .second, .val (.int (8 : Int32)), .val (.int c0), .val (.int c1), .val (.int c2), .val (.int c3), .val (.int c4), .val (.int c5), .val (.int c6), .val (.int c7), .val (.ref b170), .unset] [(.int (3 : Int32)), (.ref b170)]))
    refine own_go (fun t k => XS.iload X180.here hx rfl (hb hby at_114) rfl k) ?_
    show own_G p.tables e below s _ _ _ (T180.setTop (mkF m 116 #[.val (.int p1), .val (.long q1), .second, .val (.int (8 : Int32)), .val (.int c0), .val (.int c1), .val (.int c2), .val (.int c3), .val (.int c4), .val (.int c5), .val (.int c6), .val (.int c7), .val (.ref b170), .unset] [(.int c3), (.int (3 : Int32)), (.ref b170)]))
    obtain ⟨cl183, Ar183, q183, S183, NN183, HH183, GG183⟩ := v181
    have hin183 : ¬ ((3 : Int32) < 0 ∨ cl183.slots.size ≤ ((3 : Int32)).toNatClampNeg) := inb_of S183 ⟨by decide, by decide⟩
    obtain ⟨T183, h183, X183, e183, W183, st183⟩ := stB X180 hx hZ e180 Ar183 (j := (3 : Int32)) hin183 (g := (mkF m 116 #[.val (.int p1), .val (.long q1), .second, .val (.int (8 : Int32)), .val (.int c0), .val (.int c1), .val (.int c2), .val (.int c3), .val (.int c4), .val (.int c5), .val (.int c6), .val (.int c7), .val (.ref b170), .unset] [(.int c3), (.int (3 : Int32)), (.ref b170)])) rfl rfl (hb hby at_116)
    refine own_go st183 ?_
    have v184 : Arv Z h183 b170 k170 .byte (8 : Int32) [(.int c0), (.int c1), (.int c2), (.int (nar .byte c3)), (.int (0 : Int32)), (.int (0 : Int32)), (.int (0 : Int32)), (.int (0 : Int32))] (.int (0 : Int32)) := Arv.set Ar183 q183 S183 NN183 HH183 GG183 (fits_nar_byte _) W183 3 rfl (Nat.le_of_ble_eq_true rfl)
    rw [hb3] at v184
    have z185 := Nat.le_trans z182 (Keep.of_wr W183).1
    have N183 := Fr.snoc X183 N180 g171
    show own_G p.tables e below s _ _ _ (T183.setTop (mkF m 117 #[.val (.int p1), .val (.long q1), .second, .val (.int (8 : Int32)), .val (.int c0), .val (.int c1), .val (.int c2), .val (.int c3), .val (.int c4), .val (.int c5), .val (.int c6), .val (.int c7), .val (.ref b170), .unset] []))
    refine own_go (fun t k => XS.iloadN X183.here hx rfl (hb hby at_117) rfl k) ?_
    show own_G p.tables e below s _ _ _ (T183.setTop (mkF m 118 #[.val (.int p1), .val (.long q1), .second, .val (.int (8 : Int32)), .val (.int c0), .val (.int c1), .val (.int c2), .val (.int c3), .val (.int c4), .val (.int c5), .val (.int c6), .val (.int c7), .val (.ref b170), .unset] [(.int (8 : Int32))]))
    refine own_go (fun t k => XS.iconst X183.here hx rfl (hb hby at_118) k) ?_
    show own_G p.tables e below s _ _ _ (T183.setTop (mkF m 119 #[.val (.int p1), .val (.long q1), .second, .val (.int (8 : Int32)), .val (.int c0), .val (.int c1), .val (.int c2), .val (.int c3), .val (.int c4), .val (.int c5), .val (.int c6), .val (.int c7), .val (.ref b170), .unset] [(.int (4 : Int32)), (.int (8 : Int32))]))
    refine own_go (fun t k => XS.icmpNo X183.here hx rfl (hb hby at_119) rfl (by decide) k) ?_
    show own_G p.tables e below s _ _ _ (T183.setTop (mkF m 122 #[.val (.int p1), .val (.long q1), .second, .val (.int (8 : Int32)), .val (.int c0), .val (.int c1), .val (.int c2), .val (.int c3), .val (.int c4), .val (.int c5), .val (.int c6), .val (.int c7), .val (.ref b170), .unset] []))
    refine own_go (fun t k => XS.aload X183.here hx rfl (hb hby at_122) rfl rfl k) ?_
    show own_G p.tables e below s _ _ _ (T183.setTop (mkF m 124 #[.val (.int p1), .val (.long q1), .second, .val (.int (8 : Int32)), .val (.int c0), .val (.int c1), .val (.int c2), .val (.int c3), .val (.int c4), .val (.int c5), .val (.int c6), .val (.int c7), .val (.ref b170), .unset] [(.ref b170)]))
    refine own_go (fun t k => XS.iconst X183.here hx rfl (hb hby at_124) k) ?_
    show own_G p.tables e below s _ _ _ (T183.setTop (mkF m 125 #[.val (.int p1), .val (.long q1), .second, .val (.int (8 : Int32)), .val (.int c0), .val (.int c1), .val (.int c2), .val (.int c3), .val (.int c4), .val (.int c5), .val (.int c6), .val (.int c7), .val (.ref b170), .unset] [(.int (4 : Int32)), (.ref b170)]))
    refine own_go (fun t k => XS.iload X183.here hx rfl (hb hby at_125) rfl k) ?_
    show own_G p.tables e below s _ _ _ (T183.setTop (mkF m 127 #[.val (.int p1), .val (.long q1), .second, .val (.int (8 : Int32)), .val (.int c0), .val (.int c1), .val (.int c2), .val (.int c3), .val (.int c4), .val (.int c5), .val (.int c6), .val (.int c7), .val (.ref b170), .unset] [(.int c4), (.int (4 : Int32)), (.ref b170)]))
    obtain ⟨cl186, Ar186, q186, S186, NN186, HH186, GG186⟩ := v184
    have hin186 : ¬ ((4 : Int32) < 0 ∨ cl186.slots.size ≤ ((4 : Int32)).toNatClampNeg) := inb_of S186 ⟨by decide, by decide⟩
    obtain ⟨T186, h186, X186, e186, W186, st186⟩ := stB X183 hx hZ e183 Ar186 (j := (4 : Int32)) hin186 (g := (mkF m 127 #[.val (.int p1), .val (.long q1), .second, .val (.int (8 : Int32)), .val (.int c0), .val (.int c1), .val (.int c2), .val (.int c3), .val (.int c4), .val (.int c5), .val (.int c6), .val (.int c7), .val (.ref b170), .unset] [(.int c4), (.int (4 : Int32)), (.ref b170)])) rfl rfl (hb hby at_127)
    refine own_go st186 ?_
    have v187 : Arv Z h186 b170 k170 .byte (8 : Int32) [(.int c0), (.int c1), (.int c2), (.int c3), (.int (nar .byte c4)), (.int (0 : Int32)), (.int (0 : Int32)), (.int (0 : Int32))] (.int (0 : Int32)) := Arv.set Ar186 q186 S186 NN186 HH186 GG186 (fits_nar_byte _) W186 4 rfl (Nat.le_of_ble_eq_true rfl)
    rw [hb4] at v187
    have z188 := Nat.le_trans z185 (Keep.of_wr W186).1
    have N186 := Fr.snoc X186 N183 g171
    show own_G p.tables e below s _ _ _ (T186.setTop (mkF m 128 #[.val (.int p1), .val (.long q1), .second, .val (.int (8 : Int32)), .val (.int c0), .val (.int c1), .val (.int c2), .val (.int c3), .val (.int c4), .val (.int c5), .val (.int c6), .val (.int c7), .val (.ref b170), .unset] []))
    refine own_go (fun t k => XS.iloadN X186.here hx rfl (hb hby at_128) rfl k) ?_
    show own_G p.tables e below s _ _ _ (T186.setTop (mkF m 129 #[.val (.int p1), .val (.long q1), .second, .val (.int (8 : Int32)), .val (.int c0), .val (.int c1), .val (.int c2), .val (.int c3), .val (.int c4), .val (.int c5), .val (.int c6), .val (.int c7), .val (.ref b170), .unset] [(.int (8 : Int32))]))
    refine own_go (fun t k => XS.iconst X186.here hx rfl (hb hby at_129) k) ?_
    show own_G p.tables e below s _ _ _ (T186.setTop (mkF m 130 #[.val (.int p1), .val (.long q1), .second, .val (.int (8 : Int32)), .val (.int c0), .val (.int c1), .val (.int c2), .val (.int c3), .val (.int c4), .val (.int c5), .val (.int c6), .val (.int c7), .val (.ref b170), .unset] [(.int (5 : Int32)), (.int (8 : Int32))]))
    refine own_go (fun t k => XS.icmpNo X186.here hx rfl (hb hby at_130) rfl (by decide) k) ?_
    show own_G p.tables e below s _ _ _ (T186.setTop (mkF m 133 #[.val (.int p1), .val (.long q1), .second, .val (.int (8 : Int32)), .val (.int c0), .val (.int c1), .val (.int c2), .val (.int c3), .val (.int c4), .val (.int c5), .val (.int c6), .val (.int c7), .val (.ref b170), .unset] []))
    refine own_go (fun t k => XS.aload X186.here hx rfl (hb hby at_133) rfl rfl k) ?_
    show own_G p.tables e below s _ _ _ (T186.setTop (mkF m 135 #[.val (.int p1), .val (.long q1), .second, .val (.int (8 : Int32)), .val (.int c0), .val (.int c1), .val (.int c2), .val (.int c3), .val (.int c4), .val (.int c5), .val (.int c6), .val (.int c7), .val (.ref b170), .unset] [(.ref b170)]))
    refine own_go (fun t k => XS.iconst X186.here hx rfl (hb hby at_135) k) ?_
    show own_G p.tables e below s _ _ _ (T186.setTop (mkF m 136 #[.val (.int p1), .val (.long q1), .second, .val (.int (8 : Int32)), .val (.int c0), .val (.int c1), .val (.int c2), .val (.int c3), .val (.int c4), .val (.int c5), .val (.int c6), .val (.int c7), .val (.ref b170), .unset] [(.int (5 : Int32)), (.ref b170)]))
    refine own_go (fun t k => XS.iload X186.here hx rfl (hb hby at_136) rfl k) ?_
    show own_G p.tables e below s _ _ _ (T186.setTop (mkF m 138 #[.val (.int p1), .val (.long q1), .second, .val (.int (8 : Int32)), .val (.int c0), .val (.int c1), .val (.int c2), .val (.int c3), .val (.int c4), .val (.int c5), .val (.int c6), .val (.int c7), .val (.ref b170), .unset] [(.int c5), (.int (5 : Int32)), (.ref b170)]))
    obtain ⟨cl189, Ar189, q189, S189, NN189, HH189, GG189⟩ := v187
    have hin189 : ¬ ((5 : Int32) < 0 ∨ cl189.slots.size ≤ ((5 : Int32)).toNatClampNeg) := inb_of S189 ⟨by decide, by decide⟩
    obtain ⟨T189, h189, X189, e189, W189, st189⟩ := stB X186 hx hZ e186 Ar189 (j := (5 : Int32)) hin189 (g := (mkF m 138 #[.val (.int p1), .val (.long q1), .second, .val (.int (8 : Int32)), .val (.int c0), .val (.int c1), .val (.int c2), .val (.int c3), .val (.int c4), .val (.int c5), .val (.int c6), .val (.int c7), .val (.ref b170), .unset] [(.int c5), (.int (5 : Int32)), (.ref b170)])) rfl rfl (hb hby at_138)
    refine own_go st189 ?_
    have v190 : Arv Z h189 b170 k170 .byte (8 : Int32) [(.int c0), (.int c1), (.int c2), (.int c3), (.int c4), (.int (nar .byte c5)), (.int (0 : Int32)), (.int (0 : Int32))] (.int (0 : Int32)) := Arv.set Ar189 q189 S189 NN189 HH189 GG189 (fits_nar_byte _) W189 5 rfl (Nat.le_of_ble_eq_true rfl)
    rw [hb5] at v190
    have z191 := Nat.le_trans z188 (Keep.of_wr W189).1
    have N189 := Fr.snoc X189 N186 g171
    show own_G p.tables e below s _ _ _ (T189.setTop (mkF m 139 #[.val (.int p1), .val (.long q1), .second, .val (.int (8 : Int32)), .val (.int c0), .val (.int c1), .val (.int c2), .val (.int c3), .val (.int c4), .val (.int c5), .val (.int c6), .val (.int c7), .val (.ref b170), .unset] []))
    refine own_go (fun t k => XS.iloadN X189.here hx rfl (hb hby at_139) rfl k) ?_
    show own_G p.tables e below s _ _ _ (T189.setTop (mkF m 140 #[.val (.int p1), .val (.long q1), .second, .val (.int (8 : Int32)), .val (.int c0), .val (.int c1), .val (.int c2), .val (.int c3), .val (.int c4), .val (.int c5), .val (.int c6), .val (.int c7), .val (.ref b170), .unset] [(.int (8 : Int32))]))
    refine own_go (fun t k => XS.bipush X189.here hx rfl (hb hby at_140) k) ?_
    show own_G p.tables e below s _ _ _ (T189.setTop (mkF m 142 #[.val (.int p1), .val (.long q1), .second, .val (.int (8 : Int32)), .val (.int c0), .val (.int c1), .val (.int c2), .val (.int c3), .val (.int c4), .val (.int c5), .val (.int c6), .val (.int c7), .val (.ref b170), .unset] [(.int (6 : Int32)), (.int (8 : Int32))]))
    refine own_go (fun t k => XS.icmpNo X189.here hx rfl (hb hby at_142) rfl (by decide) k) ?_
    show own_G p.tables e below s _ _ _ (T189.setTop (mkF m 145 #[.val (.int p1), .val (.long q1), .second, .val (.int (8 : Int32)), .val (.int c0), .val (.int c1), .val (.int c2), .val (.int c3), .val (.int c4), .val (.int c5), .val (.int c6), .val (.int c7), .val (.ref b170), .unset] []))
    refine own_go (fun t k => XS.aload X189.here hx rfl (hb hby at_145) rfl rfl k) ?_
    show own_G p.tables e below s _ _ _ (T189.setTop (mkF m 147 #[.val (.int p1), .val (.long q1), .second, .val (.int (8 : Int32)), .val (.int c0), .val (.int c1), .val (.int c2), .val (.int c3), .val (.int c4), .val (.int c5), .val (.int c6), .val (.int c7), .val (.ref b170), .unset] [(.ref b170)]))
    refine own_go (fun t k => XS.bipush X189.here hx rfl (hb hby at_147) k) ?_
    show own_G p.tables e below s _ _ _ (T189.setTop (mkF m 149 #[.val (.int p1), .val (.long q1), .second, .val (.int (8 : Int32)), .val (.int c0), .val (.int c1), .val (.int c2), .val (.int c3), .val (.int c4), .val (.int c5), .val (.int c6), .val (.int c7), .val (.ref b170), .unset] [(.int (6 : Int32)), (.ref b170)]))
    refine own_go (fun t k => XS.iload X189.here hx rfl (hb hby at_149) rfl k) ?_
    show own_G p.tables e below s _ _ _ (T189.setTop (mkF m 151 #[.val (.int p1), .val (.long q1), .second, .val (.int (8 : Int32)), .val (.int c0), .val (.int c1), .val (.int c2), .val (.int c3), .val (.int c4), .val (.int c5), .val (.int c6), .val (.int c7), .val (.ref b170), .unset] [(.int c6), (.int (6 : Int32)), (.ref b170)]))
    obtain ⟨cl192, Ar192, q192, S192, NN192, HH192, GG192⟩ := v190
    have hin192 : ¬ ((6 : Int32) < 0 ∨ cl192.slots.size ≤ ((6 : Int32)).toNatClampNeg) := inb_of S192 ⟨by decide, by decide⟩
    obtain ⟨T192, h192, X192, e192, W192, st192⟩ := stB X189 hx hZ e189 Ar192 (j := (6 : Int32)) hin192 (g := (mkF m 151 #[.val (.int p1), .val (.long q1), .second, .val (.int (8 : Int32)), .val (.int c0), .val (.int c1), .val (.int c2), .val (.int c3), .val (.int c4), .val (.int c5), .val (.int c6), .val (.int c7), .val (.ref b170), .unset] [(.int c6), (.int (6 : Int32)), (.ref b170)])) rfl rfl (hb hby at_151)
    refine own_go st192 ?_
    have v193 : Arv Z h192 b170 k170 .byte (8 : Int32) [(.int c0), (.int c1), (.int c2), (.int c3), (.int c4), (.int c5), (.int (nar .byte c6)), (.int (0 : Int32))] (.int (0 : Int32)) := Arv.set Ar192 q192 S192 NN192 HH192 GG192 (fits_nar_byte _) W192 6 rfl (Nat.le_of_ble_eq_true rfl)
    rw [hb6] at v193
    have z194 := Nat.le_trans z191 (Keep.of_wr W192).1
    have N192 := Fr.snoc X192 N189 g171
    show own_G p.tables e below s _ _ _ (T192.setTop (mkF m 152 #[.val (.int p1), .val (.long q1), .second, .val (.int (8 : Int32)), .val (.int c0), .val (.int c1), .val (.int c2), .val (.int c3), .val (.int c4), .val (.int c5), .val (.int c6), .val (.int c7), .val (.ref b170), .unset] []))
    refine own_go (fun t k => XS.iloadN X192.here hx rfl (hb hby at_152) rfl k) ?_
    show own_G p.tables e below s _ _ _ (T192.setTop (mkF m 153 #[.val (.int p1), .val (.long q1), .second, .val (.int (8 : Int32)), .val (.int c0), .val (.int c1), .val (.int c2), .val (.int c3), .val (.int c4), .val (.int c5), .val (.int c6), .val (.int c7), .val (.ref b170), .unset] [(.int (8 : Int32))]))
    refine own_go (fun t k => XS.bipush X192.here hx rfl (hb hby at_153) k) ?_
    show own_G p.tables e below s _ _ _ (T192.setTop (mkF m 155 #[.val (.int p1), .val (.long q1), .second, .val (.int (8 : Int32)), .val (.int c0), .val (.int c1), .val (.int c2), .val (.int c3), .val (.int c4), .val (.int c5), .val (.int c6), .val (.int c7), .val (.ref b170), .unset] [(.int (7 : Int32)), (.int (8 : Int32))]))
    refine own_go (fun t k => XS.icmpNo X192.here hx rfl (hb hby at_155) rfl (by decide) k) ?_
    show own_G p.tables e below s _ _ _ (T192.setTop (mkF m 158 #[.val (.int p1), .val (.long q1), .second, .val (.int (8 : Int32)), .val (.int c0), .val (.int c1), .val (.int c2), .val (.int c3), .val (.int c4), .val (.int c5), .val (.int c6), .val (.int c7), .val (.ref b170), .unset] []))
    refine own_go (fun t k => XS.aload X192.here hx rfl (hb hby at_158) rfl rfl k) ?_
    show own_G p.tables e below s _ _ _ (T192.setTop (mkF m 160 #[.val (.int p1), .val (.long q1), .second, .val (.int (8 : Int32)), .val (.int c0), .val (.int c1), .val (.int c2), .val (.int c3), .val (.int c4), .val (.int c5), .val (.int c6), .val (.int c7), .val (.ref b170), .unset] [(.ref b170)]))
    refine own_go (fun t k => XS.bipush X192.here hx rfl (hb hby at_160) k) ?_
    show own_G p.tables e below s _ _ _ (T192.setTop (mkF m 162 #[.val (.int p1), .val (.long q1), .second, .val (.int (8 : Int32)), .val (.int c0), .val (.int c1), .val (.int c2), .val (.int c3), .val (.int c4), .val (.int c5), .val (.int c6), .val (.int c7), .val (.ref b170), .unset] [(.int (7 : Int32)), (.ref b170)]))
    refine own_go (fun t k => XS.iload X192.here hx rfl (hb hby at_162) rfl k) ?_
    show own_G p.tables e below s _ _ _ (T192.setTop (mkF m 164 #[.val (.int p1), .val (.long q1), .second, .val (.int (8 : Int32)), .val (.int c0), .val (.int c1), .val (.int c2), .val (.int c3), .val (.int c4), .val (.int c5), .val (.int c6), .val (.int c7), .val (.ref b170), .unset] [(.int c7), (.int (7 : Int32)), (.ref b170)]))
    obtain ⟨cl195, Ar195, q195, S195, NN195, HH195, GG195⟩ := v193
    have hin195 : ¬ ((7 : Int32) < 0 ∨ cl195.slots.size ≤ ((7 : Int32)).toNatClampNeg) := inb_of S195 ⟨by decide, by decide⟩
    obtain ⟨T195, h195, X195, e195, W195, st195⟩ := stB X192 hx hZ e192 Ar195 (j := (7 : Int32)) hin195 (g := (mkF m 164 #[.val (.int p1), .val (.long q1), .second, .val (.int (8 : Int32)), .val (.int c0), .val (.int c1), .val (.int c2), .val (.int c3), .val (.int c4), .val (.int c5), .val (.int c6), .val (.int c7), .val (.ref b170), .unset] [(.int c7), (.int (7 : Int32)), (.ref b170)])) rfl rfl (hb hby at_164)
    refine own_go st195 ?_
    have v196 : Arv Z h195 b170 k170 .byte (8 : Int32) [(.int c0), (.int c1), (.int c2), (.int c3), (.int c4), (.int c5), (.int c6), (.int (nar .byte c7))] (.int (0 : Int32)) := Arv.set Ar195 q195 S195 NN195 HH195 GG195 (fits_nar_byte _) W195 7 rfl (Nat.le_of_ble_eq_true rfl)
    rw [hb7] at v196
    have z197 := Nat.le_trans z194 (Keep.of_wr W195).1
    have N195 := Fr.snoc X195 N192 g171
    show own_G p.tables e below s _ _ _ (T195.setTop (mkF m 165 #[.val (.int p1), .val (.long q1), .second, .val (.int (8 : Int32)), .val (.int c0), .val (.int c1), .val (.int c2), .val (.int c3), .val (.int c4), .val (.int c5), .val (.int c6), .val (.int c7), .val (.ref b170), .unset] []))
    refine own_go (fun t k => XS.iloadN X195.here hx rfl (hb hby at_165) rfl k) ?_
    show own_G p.tables e below s _ _ _ (T195.setTop (mkF m 166 #[.val (.int p1), .val (.long q1), .second, .val (.int (8 : Int32)), .val (.int c0), .val (.int c1), .val (.int c2), .val (.int c3), .val (.int c4), .val (.int c5), .val (.int c6), .val (.int c7), .val (.ref b170), .unset] [(.int (8 : Int32))]))
    refine own_go (fun t k => XS.ifNo X195.here hx rfl (hb hby at_166) rfl (by decide) k) ?_
    show own_G p.tables e below s _ _ _ (T195.setTop (mkF m 169 #[.val (.int p1), .val (.long q1), .second, .val (.int (8 : Int32)), .val (.int c0), .val (.int c1), .val (.int c2), .val (.int c3), .val (.int c4), .val (.int c5), .val (.int c6), .val (.int c7), .val (.ref b170), .unset] []))
    refine own_go (fun t k => XS.iload X195.here hx rfl (hb hby at_169) rfl k) ?_
    show own_G p.tables e below s _ _ _ (T195.setTop (mkF m 171 #[.val (.int p1), .val (.long q1), .second, .val (.int (8 : Int32)), .val (.int c0), .val (.int c1), .val (.int c2), .val (.int c3), .val (.int c4), .val (.int c5), .val (.int c6), .val (.int c7), .val (.ref b170), .unset] [(.int c0)]))
    obtain ⟨ex, hex⟩ : ∃ z, (if c0 < (0 : Int32) ∨ c1 < (0 : Int32) ∨ c2 < (0 : Int32) ∨ c3 < (0 : Int32) ∨ c4 < (0 : Int32) ∨ c5 < (0 : Int32) ∨ c6 < (0 : Int32) ∨ c7 < (0 : Int32) then (0 : Int32) else 1) = z := ⟨_, rfl⟩
    refine own_go (A := (T195.setTop (mkF m 251 #[.val (.int p1), .val (.long q1), .second, .val (.int (8 : Int32)), .val (.int c0), .val (.int c1), .val (.int c2), .val (.int c3), .val (.int c4), .val (.int c5), .val (.int c6), .val (.int c7), .val (.ref b170), .unset] [(.int ex)]))) (fun t k => ?_) ?_
    · show Steps p.tables e below (T195.setTop (mkF m 171 #[.val (.int p1), .val (.long q1), .second, .val (.int (8 : Int32)), .val (.int c0), .val (.int c1), .val (.int c2), .val (.int c3), .val (.int c4), .val (.int c5), .val (.int c6), .val (.int c7), .val (.ref b170), .unset] [(.int c0)])) _
      by_cases hn0 : c0 < (0 : Int32)
      · refine XS.ifYes X195.here hx rfl (pc0 := 171) (pc' := 250) rfl (hb hby at_171) rfl (Jvm.Free.XT.i0_lt_t hn0) (by decide) (by decide) ?_
        show Steps p.tables e below (T195.setTop (mkF m 250 #[.val (.int p1), .val (.long q1), .second, .val (.int (8 : Int32)), .val (.int c0), .val (.int c1), .val (.int c2), .val (.int c3), .val (.int c4), .val (.int c5), .val (.int c6), .val (.int c7), .val (.ref b170), .unset] [])) _
        refine XS.iconst X195.here hx rfl (hb hby at_250) ?_
        show Steps p.tables e below (T195.setTop (mkF m 251 #[.val (.int p1), .val (.long q1), .second, .val (.int (8 : Int32)), .val (.int c0), .val (.int c1), .val (.int c2), .val (.int c3), .val (.int c4), .val (.int c5), .val (.int c6), .val (.int c7), .val (.ref b170), .unset] [(.int (0 : Int32))])) _
        rw [← hex, if_pos (Or.inl hn0)] at k
        exact k
      · refine XS.ifNo X195.here hx rfl (hb hby at_171) rfl (Jvm.Free.XT.i0_lt_f hn0) ?_
        show Steps p.tables e below (T195.setTop (mkF m 174 #[.val (.int p1), .val (.long q1), .second, .val (.int (8 : Int32)), .val (.int c0), .val (.int c1), .val (.int c2), .val (.int c3), .val (.int c4), .val (.int c5), .val (.int c6), .val (.int c7), .val (.ref b170), .unset] [])) _
        refine XS.iloadN X195.here hx rfl (hb hby at_174) rfl ?_
        show Steps p.tables e below (T195.setTop (mkF m 175 #[.val (.int p1), .val (.long q1), .second, .val (.int (8 : Int32)), .val (.int c0), .val (.int c1), .val (.int c2), .val (.int c3), .val (.int c4), .val (.int c5), .val (.int c6), .val (.int c7), .val (.ref b170), .unset] [(.int (8 : Int32))])) _
        refine XS.iconst X195.here hx rfl (hb hby at_175) ?_
        show Steps p.tables e below (T195.setTop (mkF m 176 #[.val (.int p1), .val (.long q1), .second, .val (.int (8 : Int32)), .val (.int c0), .val (.int c1), .val (.int c2), .val (.int c3), .val (.int c4), .val (.int c5), .val (.int c6), .val (.int c7), .val (.ref b170), .unset] [(.int (1 : Int32)), (.int (8 : Int32))])) _
        refine XS.icmpNo X195.here hx rfl (hb hby at_176) rfl (by decide) ?_
        show Steps p.tables e below (T195.setTop (mkF m 179 #[.val (.int p1), .val (.long q1), .second, .val (.int (8 : Int32)), .val (.int c0), .val (.int c1), .val (.int c2), .val (.int c3), .val (.int c4), .val (.int c5), .val (.int c6), .val (.int c7), .val (.ref b170), .unset] [])) _
        refine XS.iload X195.here hx rfl (hb hby at_179) rfl ?_
        show Steps p.tables e below (T195.setTop (mkF m 181 #[.val (.int p1), .val (.long q1), .second, .val (.int (8 : Int32)), .val (.int c0), .val (.int c1), .val (.int c2), .val (.int c3), .val (.int c4), .val (.int c5), .val (.int c6), .val (.int c7), .val (.ref b170), .unset] [(.int c1)])) _
        by_cases hn1 : c1 < (0 : Int32)
        · refine XS.ifYes X195.here hx rfl (pc0 := 181) (pc' := 250) rfl (hb hby at_181) rfl (Jvm.Free.XT.i0_lt_t hn1) (by decide) (by decide) ?_
          show Steps p.tables e below (T195.setTop (mkF m 250 #[.val (.int p1), .val (.long q1), .second, .val (.int (8 : Int32)), .val (.int c0), .val (.int c1), .val (.int c2), .val (.int c3), .val (.int c4), .val (.int c5), .val (.int c6), .val (.int c7), .val (.ref b170), .unset] [])) _
          refine XS.iconst X195.here hx rfl (hb hby at_250) ?_
          show Steps p.tables e below (T195.setTop (mkF m 251 #[.val (.int p1), .val (.long q1), .second, .val (.int (8 : Int32)), .val (.int c0), .val (.int c1), .val (.int c2), .val (.int c3), .val (.int c4), .val (.int c5), .val (.int c6), .val (.int c7), .val (.ref b170), .unset] [(.int (0 : Int32))])) _
          rw [← hex, if_pos (Or.inr (Or.inl hn1))] at k
          exact k
        · refine XS.ifNo X195.here hx rfl (hb hby at_181) rfl (Jvm.Free.XT.i0_lt_f hn1) ?_
          show Steps p.tables e below (T195.setTop (mkF m 184 #[.val (.int p1), .val (.long q1), .second, .val (.int (8 : Int32)), .val (.int c0), .val (.int c1), .val (.int c2), .val (.int c3), .val (.int c4), .val (.int c5), .val (.int c6), .val (.int c7), .val (.ref b170), .unset] [])) _
          refine XS.iloadN X195.here hx rfl (hb hby at_184) rfl ?_
          show Steps p.tables e below (T195.setTop (mkF m 185 #[.val (.int p1), .val (.long q1), .second, .val (.int (8 : Int32)), .val (.int c0), .val (.int c1), .val (.int c2), .val (.int c3), .val (.int c4), .val (.int c5), .val (.int c6), .val (.int c7), .val (.ref b170), .unset] [(.int (8 : Int32))])) _
          refine XS.iconst X195.here hx rfl (hb hby at_185) ?_
          show Steps p.tables e below (T195.setTop (mkF m 186 #[.val (.int p1), .val (.long q1), .second, .val (.int (8 : Int32)), .val (.int c0), .val (.int c1), .val (.int c2), .val (.int c3), .val (.int c4), .val (.int c5), .val (.int c6), .val (.int c7), .val (.ref b170), .unset] [(.int (2 : Int32)), (.int (8 : Int32))])) _
          refine XS.icmpNo X195.here hx rfl (hb hby at_186) rfl (by decide) ?_
          show Steps p.tables e below (T195.setTop (mkF m 189 #[.val (.int p1), .val (.long q1), .second, .val (.int (8 : Int32)), .val (.int c0), .val (.int c1), .val (.int c2), .val (.int c3), .val (.int c4), .val (.int c5), .val (.int c6), .val (.int c7), .val (.ref b170), .unset] [])) _
          refine XS.iload X195.here hx rfl (hb hby at_189) rfl ?_
          show Steps p.tables e below (T195.setTop (mkF m 191 #[.val (.int p1), .val (.long q1), .second, .val (.int (8 : Int32)), .val (.int c0), .val (.int c1), .val (.int c2), .val (.int c3), .val (.int c4), .val (.int c5), .val (.int c6), .val (.int c7), .val (.ref b170), .unset] [(.int c2)])) _
          by_cases hn2 : c2 < (0 : Int32)
          · refine XS.ifYes X195.here hx rfl (pc0 := 191) (pc' := 250) rfl (hb hby at_191) rfl (Jvm.Free.XT.i0_lt_t hn2) (by decide) (by decide) ?_
            show Steps p.tables e below (T195.setTop (mkF m 250 #[.val (.int p1), .val (.long q1), .second, .val (.int (8 : Int32)), .val (.int c0), .val (.int c1), .val (.int c2), .val (.int c3), .val (.int c4), .val (.int c5), .val (.int c6), .val (.int c7), .val (.ref b170), .unset] [])) _
            refine XS.iconst X195.here hx rfl (hb hby at_250) ?_
            show Steps p.tables e below (T195.setTop (mkF m 251 #[.val (.int p1), .val (.long q1), .second, .val (.int (8 : Int32)), .val (.int c0), .val (.int c1), .val (.int c2), .val (.int c3), .val (.int c4), .val (.int c5), .val (.int c6), .val (.int c7), .val (.ref b170), .unset] [(.int (0 : Int32))])) _
            rw [← hex, if_pos (Or.inr (Or.inr (Or.inl hn2)))] at k
            exact k
          · refine XS.ifNo X195.here hx rfl (hb hby at_191) rfl (Jvm.Free.XT.i0_lt_f hn2) ?_
            show Steps p.tables e below (T195.setTop (mkF m 194 #[.val (.int p1), .val (.long q1), .second, .val (.int (8 : Int32)), .val (.int c0), .val (.int c1), .val (.int c2), .val (.int c3), .val (.int c4), .val (.int c5), .val (.int c6), .val (.int c7), .val (.ref b170), .unset] [])) _
            refine XS.iloadN X195.here hx rfl (hb hby at_194) rfl ?_
            show Steps p.tables e below (T195.setTop (mkF m 195 #[.val (.int p1), .val (.long q1), .second, .val (.int (8 : Int32)), .val (.int c0), .val (.int c1), .val (.int c2), .val (.int c3), .val (.int c4), .val (.int c5), .val (.int c6), .val (.int c7), .val (.ref b170), .unset] [(.int (8 : Int32))])) _
            refine XS.iconst X195.here hx rfl (hb hby at_195) ?_
            show Steps p.tables e below (T195.setTop (mkF m 196 #[.val (.int p1), .val (.long q1), .second, .val (.int (8 : Int32)), .val (.int c0), .val (.int c1), .val (.int c2), .val (.int c3), .val (.int c4), .val (.int c5), .val (.int c6), .val (.int c7), .val (.ref b170), .unset] [(.int (3 : Int32)), (.int (8 : Int32))])) _
            refine XS.icmpNo X195.here hx rfl (hb hby at_196) rfl (by decide) ?_
            show Steps p.tables e below (T195.setTop (mkF m 199 #[.val (.int p1), .val (.long q1), .second, .val (.int (8 : Int32)), .val (.int c0), .val (.int c1), .val (.int c2), .val (.int c3), .val (.int c4), .val (.int c5), .val (.int c6), .val (.int c7), .val (.ref b170), .unset] [])) _
            refine XS.iload X195.here hx rfl (hb hby at_199) rfl ?_
            show Steps p.tables e below (T195.setTop (mkF m 201 #[.val (.int p1), .val (.long q1), .second, .val (.int (8 : Int32)), .val (.int c0), .val (.int c1), .val (.int c2), .val (.int c3), .val (.int c4), .val (.int c5), .val (.int c6), .val (.int c7), .val (.ref b170), .unset] [(.int c3)])) _
            by_cases hn3 : c3 < (0 : Int32)
            · refine XS.ifYes X195.here hx rfl (pc0 := 201) (pc' := 250) rfl (hb hby at_201) rfl (Jvm.Free.XT.i0_lt_t hn3) (by decide) (by decide) ?_
              show Steps p.tables e below (T195.setTop (mkF m 250 #[.val (.int p1), .val (.long q1), .second, .val (.int (8 : Int32)), .val (.int c0), .val (.int c1), .val (.int c2), .val (.int c3), .val (.int c4), .val (.int c5), .val (.int c6), .val (.int c7), .val (.ref b170), .unset] [])) _
              refine XS.iconst X195.here hx rfl (hb hby at_250) ?_
              show Steps p.tables e below (T195.setTop (mkF m 251 #[.val (.int p1), .val (.long q1), .second, .val (.int (8 : Int32)), .val (.int c0), .val (.int c1), .val (.int c2), .val (.int c3), .val (.int c4), .val (.int c5), .val (.int c6), .val (.int c7), .val (.ref b170), .unset] [(.int (0 : Int32))])) _
              rw [← hex, if_pos (Or.inr (Or.inr (Or.inr (Or.inl hn3))))] at k
              exact k
            · refine XS.ifNo X195.here hx rfl (hb hby at_201) rfl (Jvm.Free.XT.i0_lt_f hn3) ?_
              show Steps p.tables e below (T195.setTop (mkF m 204 #[.val (.int p1), .val (.long q1), .second, .val (.int (8 : Int32)), .val (.int c0), .val (.int c1), .val (.int c2), .val (.int c3), .val (.int c4), .val (.int c5), .val (.int c6), .val (.int c7), .val (.ref b170), .unset] [])) _
              refine XS.iloadN X195.here hx rfl (hb hby at_204) rfl ?_
              show Steps p.tables e below (T195.setTop (mkF m 205 #[.val (.int p1), .val (.long q1), .second, .val (.int (8 : Int32)), .val (.int c0), .val (.int c1), .val (.int c2), .val (.int c3), .val (.int c4), .val (.int c5), .val (.int c6), .val (.int c7), .val (.ref b170), .unset] [(.int (8 : Int32))])) _
              refine XS.iconst X195.here hx rfl (hb hby at_205) ?_
              show Steps p.tables e below (T195.setTop (mkF m 206 #[.val (.int p1), .val (.long q1), .second, .val (.int (8 : Int32)), .val (.int c0), .val (.int c1), .val (.int c2), .val (.int c3), .val (.int c4), .val (.int c5), .val (.int c6), .val (.int c7), .val (.ref b170), .unset] [(.int (4 : Int32)), (.int (8 : Int32))])) _
              refine XS.icmpNo X195.here hx rfl (hb hby at_206) rfl (by decide) ?_
              show Steps p.tables e below (T195.setTop (mkF m 209 #[.val (.int p1), .val (.long q1), .second, .val (.int (8 : Int32)), .val (.int c0), .val (.int c1), .val (.int c2), .val (.int c3), .val (.int c4), .val (.int c5), .val (.int c6), .val (.int c7), .val (.ref b170), .unset] [])) _
              refine XS.iload X195.here hx rfl (hb hby at_209) rfl ?_
              show Steps p.tables e below (T195.setTop (mkF m 211 #[.val (.int p1), .val (.long q1), .second, .val (.int (8 : Int32)), .val (.int c0), .val (.int c1), .val (.int c2), .val (.int c3), .val (.int c4), .val (.int c5), .val (.int c6), .val (.int c7), .val (.ref b170), .unset] [(.int c4)])) _
              by_cases hn4 : c4 < (0 : Int32)
              · refine XS.ifYes X195.here hx rfl (pc0 := 211) (pc' := 250) rfl (hb hby at_211) rfl (Jvm.Free.XT.i0_lt_t hn4) (by decide) (by decide) ?_
                show Steps p.tables e below (T195.setTop (mkF m 250 #[.val (.int p1), .val (.long q1), .second, .val (.int (8 : Int32)), .val (.int c0), .val (.int c1), .val (.int c2), .val (.int c3), .val (.int c4), .val (.int c5), .val (.int c6), .val (.int c7), .val (.ref b170), .unset] [])) _
                refine XS.iconst X195.here hx rfl (hb hby at_250) ?_
                show Steps p.tables e below (T195.setTop (mkF m 251 #[.val (.int p1), .val (.long q1), .second, .val (.int (8 : Int32)), .val (.int c0), .val (.int c1), .val (.int c2), .val (.int c3), .val (.int c4), .val (.int c5), .val (.int c6), .val (.int c7), .val (.ref b170), .unset] [(.int (0 : Int32))])) _
                rw [← hex, if_pos (Or.inr (Or.inr (Or.inr (Or.inr (Or.inl hn4)))))] at k
                exact k
              · refine XS.ifNo X195.here hx rfl (hb hby at_211) rfl (Jvm.Free.XT.i0_lt_f hn4) ?_
                show Steps p.tables e below (T195.setTop (mkF m 214 #[.val (.int p1), .val (.long q1), .second, .val (.int (8 : Int32)), .val (.int c0), .val (.int c1), .val (.int c2), .val (.int c3), .val (.int c4), .val (.int c5), .val (.int c6), .val (.int c7), .val (.ref b170), .unset] [])) _
                refine XS.iloadN X195.here hx rfl (hb hby at_214) rfl ?_
                show Steps p.tables e below (T195.setTop (mkF m 215 #[.val (.int p1), .val (.long q1), .second, .val (.int (8 : Int32)), .val (.int c0), .val (.int c1), .val (.int c2), .val (.int c3), .val (.int c4), .val (.int c5), .val (.int c6), .val (.int c7), .val (.ref b170), .unset] [(.int (8 : Int32))])) _
                refine XS.iconst X195.here hx rfl (hb hby at_215) ?_
                show Steps p.tables e below (T195.setTop (mkF m 216 #[.val (.int p1), .val (.long q1), .second, .val (.int (8 : Int32)), .val (.int c0), .val (.int c1), .val (.int c2), .val (.int c3), .val (.int c4), .val (.int c5), .val (.int c6), .val (.int c7), .val (.ref b170), .unset] [(.int (5 : Int32)), (.int (8 : Int32))])) _
                refine XS.icmpNo X195.here hx rfl (hb hby at_216) rfl (by decide) ?_
                show Steps p.tables e below (T195.setTop (mkF m 219 #[.val (.int p1), .val (.long q1), .second, .val (.int (8 : Int32)), .val (.int c0), .val (.int c1), .val (.int c2), .val (.int c3), .val (.int c4), .val (.int c5), .val (.int c6), .val (.int c7), .val (.ref b170), .unset] [])) _
                refine XS.iload X195.here hx rfl (hb hby at_219) rfl ?_
                show Steps p.tables e below (T195.setTop (mkF m 221 #[.val (.int p1), .val (.long q1), .second, .val (.int (8 : Int32)), .val (.int c0), .val (.int c1), .val (.int c2), .val (.int c3), .val (.int c4), .val (.int c5), .val (.int c6), .val (.int c7), .val (.ref b170), .unset] [(.int c5)])) _
                by_cases hn5 : c5 < (0 : Int32)
                · refine XS.ifYes X195.here hx rfl (pc0 := 221) (pc' := 250) rfl (hb hby at_221) rfl (Jvm.Free.XT.i0_lt_t hn5) (by decide) (by decide) ?_
                  show Steps p.tables e below (T195.setTop (mkF m 250 #[.val (.int p1), .val (.long q1), .second, .val (.int (8 : Int32)), .val (.int c0), .val (.int c1), .val (.int c2), .val (.int c3), .val (.int c4), .val (.int c5), .val (.int c6), .val (.int c7), .val (.ref b170), .unset] [])) _
                  refine XS.iconst X195.here hx rfl (hb hby at_250) ?_
                  show Steps p.tables e below (T195.setTop (mkF m 251 #[.val (.int p1), .val (.long q1), .second, .val (.int (8 : Int32)), .val (.int c0), .val (.int c1), .val (.int c2), .val (.int c3), .val (.int c4), .val (.int c5), .val (.int c6), .val (.int c7), .val (.ref b170), .unset] [(.int (0 : Int32))])) _
                  rw [← hex, if_pos (Or.inr (Or.inr (Or.inr (Or.inr (Or.inr (Or.inl hn5))))))] at k
                  exact k
                · refine XS.ifNo X195.here hx rfl (hb hby at_221) rfl (Jvm.Free.XT.i0_lt_f hn5) ?_
                  show Steps p.tables e below (T195.setTop (mkF m 224 #[.val (.int p1), .val (.long q1), .second, .val (.int (8 : Int32)), .val (.int c0), .val (.int c1), .val (.int c2), .val (.int c3), .val (.int c4), .val (.int c5), .val (.int c6), .val (.int c7), .val (.ref b170), .unset] [])) _
                  refine XS.iloadN X195.here hx rfl (hb hby at_224) rfl ?_
                  show Steps p.tables e below (T195.setTop (mkF m 225 #[.val (.int p1), .val (.long q1), .second, .val (.int (8 : Int32)), .val (.int c0), .val (.int c1), .val (.int c2), .val (.int c3), .val (.int c4), .val (.int c5), .val (.int c6), .val (.int c7), .val (.ref b170), .unset] [(.int (8 : Int32))])) _
                  refine XS.bipush X195.here hx rfl (hb hby at_225) ?_
                  show Steps p.tables e below (T195.setTop (mkF m 227 #[.val (.int p1), .val (.long q1), .second, .val (.int (8 : Int32)), .val (.int c0), .val (.int c1), .val (.int c2), .val (.int c3), .val (.int c4), .val (.int c5), .val (.int c6), .val (.int c7), .val (.ref b170), .unset] [(.int (6 : Int32)), (.int (8 : Int32))])) _
                  refine XS.icmpNo X195.here hx rfl (hb hby at_227) rfl (by decide) ?_
                  show Steps p.tables e below (T195.setTop (mkF m 230 #[.val (.int p1), .val (.long q1), .second, .val (.int (8 : Int32)), .val (.int c0), .val (.int c1), .val (.int c2), .val (.int c3), .val (.int c4), .val (.int c5), .val (.int c6), .val (.int c7), .val (.ref b170), .unset] [])) _
                  refine XS.iload X195.here hx rfl (hb hby at_230) rfl ?_
                  show Steps p.tables e below (T195.setTop (mkF m 232 #[.val (.int p1), .val (.long q1), .second, .val (.int (8 : Int32)), .val (.int c0), .val (.int c1), .val (.int c2), .val (.int c3), .val (.int c4), .val (.int c5), .val (.int c6), .val (.int c7), .val (.ref b170), .unset] [(.int c6)])) _
                  by_cases hn6 : c6 < (0 : Int32)
                  · refine XS.ifYes X195.here hx rfl (pc0 := 232) (pc' := 250) rfl (hb hby at_232) rfl (Jvm.Free.XT.i0_lt_t hn6) (by decide) (by decide) ?_
                    show Steps p.tables e below (T195.setTop (mkF m 250 #[.val (.int p1), .val (.long q1), .second, .val (.int (8 : Int32)), .val (.int c0), .val (.int c1), .val (.int c2), .val (.int c3), .val (.int c4), .val (.int c5), .val (.int c6), .val (.int c7), .val (.ref b170), .unset] [])) _
                    refine XS.iconst X195.here hx rfl (hb hby at_250) ?_
                    show Steps p.tables e below (T195.setTop (mkF m 251 #[.val (.int p1), .val (.long q1), .second, .val (.int (8 : Int32)), .val (.int c0), .val (.int c1), .val (.int c2), .val (.int c3), .val (.int c4), .val (.int c5), .val (.int c6), .val (.int c7), .val (.ref b170), .unset] [(.int (0 : Int32))])) _
                    rw [← hex, if_pos (Or.inr (Or.inr (Or.inr (Or.inr (Or.inr (Or.inr (Or.inl hn6)))))))] at k
                    exact k
                  · refine XS.ifNo X195.here hx rfl (hb hby at_232) rfl (Jvm.Free.XT.i0_lt_f hn6) ?_
                    show Steps p.tables e below (T195.setTop (mkF m 235 #[.val (.int p1), .val (.long q1), .second, .val (.int (8 : Int32)), .val (.int c0), .val (.int c1), .val (.int c2), .val (.int c3), .val (.int c4), .val (.int c5), .val (.int c6), .val (.int c7), .val (.ref b170), .unset] [])) _
                    refine XS.iloadN X195.here hx rfl (hb hby at_235) rfl ?_
                    show Steps p.tables e below (T195.setTop (mkF m 236 #[.val (.int p1), .val (.long q1), .second, .val (.int (8 : Int32)), .val (.int c0), .val (.int c1), .val (.int c2), .val (.int c3), .val (.int c4), .val (.int c5), .val (.int c6), .val (.int c7), .val (.ref b170), .unset] [(.int (8 : Int32))])) _
                    refine XS.bipush X195.here hx rfl (hb hby at_236) ?_
                    show Steps p.tables e below (T195.setTop (mkF m 238 #[.val (.int p1), .val (.long q1), .second, .val (.int (8 : Int32)), .val (.int c0), .val (.int c1), .val (.int c2), .val (.int c3), .val (.int c4), .val (.int c5), .val (.int c6), .val (.int c7), .val (.ref b170), .unset] [(.int (7 : Int32)), (.int (8 : Int32))])) _
                    refine XS.icmpNo X195.here hx rfl (hb hby at_238) rfl (by decide) ?_
                    show Steps p.tables e below (T195.setTop (mkF m 241 #[.val (.int p1), .val (.long q1), .second, .val (.int (8 : Int32)), .val (.int c0), .val (.int c1), .val (.int c2), .val (.int c3), .val (.int c4), .val (.int c5), .val (.int c6), .val (.int c7), .val (.ref b170), .unset] [])) _
                    refine XS.iload X195.here hx rfl (hb hby at_241) rfl ?_
                    show Steps p.tables e below (T195.setTop (mkF m 243 #[.val (.int p1), .val (.long q1), .second, .val (.int (8 : Int32)), .val (.int c0), .val (.int c1), .val (.int c2), .val (.int c3), .val (.int c4), .val (.int c5), .val (.int c6), .val (.int c7), .val (.ref b170), .unset] [(.int c7)])) _
                    by_cases hn7 : c7 < (0 : Int32)
                    · refine XS.ifYes X195.here hx rfl (pc0 := 243) (pc' := 250) rfl (hb hby at_243) rfl (Jvm.Free.XT.i0_lt_t hn7) (by decide) (by decide) ?_
                      show Steps p.tables e below (T195.setTop (mkF m 250 #[.val (.int p1), .val (.long q1), .second, .val (.int (8 : Int32)), .val (.int c0), .val (.int c1), .val (.int c2), .val (.int c3), .val (.int c4), .val (.int c5), .val (.int c6), .val (.int c7), .val (.ref b170), .unset] [])) _
                      refine XS.iconst X195.here hx rfl (hb hby at_250) ?_
                      show Steps p.tables e below (T195.setTop (mkF m 251 #[.val (.int p1), .val (.long q1), .second, .val (.int (8 : Int32)), .val (.int c0), .val (.int c1), .val (.int c2), .val (.int c3), .val (.int c4), .val (.int c5), .val (.int c6), .val (.int c7), .val (.ref b170), .unset] [(.int (0 : Int32))])) _
                      rw [← hex, if_pos (Or.inr (Or.inr (Or.inr (Or.inr (Or.inr (Or.inr (Or.inr (hn7))))))))] at k
                      exact k
                    · refine XS.ifNo X195.here hx rfl (hb hby at_243) rfl (Jvm.Free.XT.i0_lt_f hn7) ?_
                      show Steps p.tables e below (T195.setTop (mkF m 246 #[.val (.int p1), .val (.long q1), .second, .val (.int (8 : Int32)), .val (.int c0), .val (.int c1), .val (.int c2), .val (.int c3), .val (.int c4), .val (.int c5), .val (.int c6), .val (.int c7), .val (.ref b170), .unset] [])) _
                      refine XS.iconst X195.here hx rfl (hb hby at_246) ?_
                      show Steps p.tables e below (T195.setTop (mkF m 247 #[.val (.int p1), .val (.long q1), .second, .val (.int (8 : Int32)), .val (.int c0), .val (.int c1), .val (.int c2), .val (.int c3), .val (.int c4), .val (.int c5), .val (.int c6), .val (.int c7), .val (.ref b170), .unset] [(.int (1 : Int32))])) _
                      refine XS.goto X195.here hx rfl (pc0 := 247) (pc' := 251) rfl (hb hby at_247) (by decide) (by decide) ?_
                      show Steps p.tables e below (T195.setTop (mkF m 251 #[.val (.int p1), .val (.long q1), .second, .val (.int (8 : Int32)), .val (.int c0), .val (.int c1), .val (.int c2), .val (.int c3), .val (.int c4), .val (.int c5), .val (.int c6), .val (.int c7), .val (.ref b170), .unset] [(.int (1 : Int32))])) _
                      rw [← hex, if_neg (fun q => q.elim hn0 (fun q => q.elim hn1 (fun q => q.elim hn2 (fun q => q.elim hn3 (fun q => q.elim hn4 (fun q => q.elim hn5 (fun q => q.elim hn6 hn7)))))))] at k
                      exact k
    show own_G p.tables e below s _ _ _ (T195.setTop (mkF m 251 #[.val (.int p1), .val (.long q1), .second, .val (.int (8 : Int32)), .val (.int c0), .val (.int c1), .val (.int c2), .val (.int c3), .val (.int c4), .val (.int c5), .val (.int c6), .val (.int c7), .val (.ref b170), .unset] [(.int ex)]))
    refine own_go (fun t k => XS.istore X195.here hx rfl (hb hby at_251) rfl (l' := #[.val (.int p1), .val (.long q1), .second, .val (.int (8 : Int32)), .val (.int c0), .val (.int c1), .val (.int c2), .val (.int c3), .val (.int c4), .val (.int c5), .val (.int c6), .val (.int c7), .val (.ref b170), .val (.int ex)]) rfl k) ?_
    show own_G p.tables e below s _ _ _ (T195.setTop (mkF m 253 #[.val (.int p1), .val (.long q1), .second, .val (.int (8 : Int32)), .val (.int c0), .val (.int c1), .val (.int c2), .val (.int c3), .val (.int c4), .val (.int c5), .val (.int c6), .val (.int c7), .val (.ref b170), .val (.int ex)] []))
    refine own_go (fun t k => XS.aload X195.here hx rfl (hb hby at_253) rfl rfl k) ?_
    show own_G p.tables e below s _ _ _ (T195.setTop (mkF m 255 #[.val (.int p1), .val (.long q1), .second, .val (.int (8 : Int32)), .val (.int c0), .val (.int c1), .val (.int c2), .val (.int c3), .val (.int c4), .val (.int c5), .val (.int c6), .val (.int c7), .val (.ref b170), .val (.int ex)] [(.ref b170)]))
    obtain ⟨_, _, ⟨T198, L198, k198, n198⟩, -, X198, ⟨Lc198, hQ198, l198, y198, z198⟩, st198⟩ := Jvm.LawKit.callS X195 hx (y := (⟨"com/example/cartulary/cartulary/model/Syntax", "isAscii", "([B)Z"⟩ : MethodName)) hown (mvT hZ (hw _ (List.mem_of_getElem? (i := 2) rfl))) (mvT hZ (hw _ (List.mem_of_getElem? (i := 3) rfl))) (mvT hZ (hw _ (List.mem_of_getElem? (i := 4) rfl))) (mvT hZ (hw _ (List.mem_of_getElem? (i := 5) rfl))) (by decide) (backOf (W := 0) (rm1_8 l Z a0 hw [] b170 k170 c0 c1 c2 c3 c4 c5 c6 c7 ex h195 n0 z197 v196 hex) hZ (hw _ (List.mem_of_getElem? (i := 5) rfl)) (hw _ (List.mem_of_getElem? (i := 4) rfl)) (by decide) (by decide)) (g := (mkF m 255 #[.val (.int p1), .val (.long q1), .second, .val (.int (8 : Int32)), .val (.int c0), .val (.int c1), .val (.int c2), .val (.int c3), .val (.int c4), .val (.int c5), .val (.int c6), .val (.int c7), .val (.ref b170), .val (.int ex)] [(.ref b170)])) rfl (by rw [hml]; rfl) (argsL := [(.ref b170)]) (rest := []) (lenOf pd___B_Z rfl) rfl (by show 2 * 0 + _ ≤ _; exact Nat.le_of_eq rfl) (hb hby at_255) (fun _ _ => ⟨rfl, e195, (by decide : 1 + 0 ≤ _), (by decide : 8 + 0 ≤ _)⟩)
    dsimp only [Pt.U, Pt.locs, Pt.cells, Pt.slots] at X198 l198 y198 z198 st198 hQ198
    subst l198 y198 z198
    obtain ⟨rfl, N198q, hh198⟩ := hQ198
    have N198 := Fr.app N195 N198q
    refine own_go st198 ?_
    show own_G p.tables e below s _ _ _ (T198.setTop (mkF m 258 #[.val (.int p1), .val (.long q1), .second, .val (.int (8 : Int32)), .val (.int c0), .val (.int c1), .val (.int c2), .val (.int c3), .val (.int c4), .val (.int c5), .val (.int c6), .val (.int c7), .val (.ref b170), .val (.int ex)] [(.int ex)]))
    refine own_go (fun t k => XS.iload X198.here hx rfl (hb hby at_258) rfl k) ?_
    show own_G p.tables e below s _ _ _ (T198.setTop (mkF m 260 #[.val (.int p1), .val (.long q1), .second, .val (.int (8 : Int32)), .val (.int c0), .val (.int c1), .val (.int c2), .val (.int c3), .val (.int c4), .val (.int c5), .val (.int c6), .val (.int c7), .val (.ref b170), .val (.int ex)] [(.int ex), (.int ex)]))
    refine own_go (fun t k => XS.icmpNo X198.here hx rfl (hb hby at_260) rfl (Jvm.Free.XT.ii_ne_f rfl) k) ?_
    show own_G p.tables e below s _ _ _ (T198.setTop (mkF m 263 #[.val (.int p1), .val (.long q1), .second, .val (.int (8 : Int32)), .val (.int c0), .val (.int c1), .val (.int c2), .val (.int c3), .val (.int c4), .val (.int c5), .val (.int c6), .val (.int c7), .val (.ref b170), .val (.int ex)] []))
    refine own_go (fun t k => XS.iconst X198.here hx rfl (hb hby at_263) k) ?_
    show own_G p.tables e below s _ _ _ (T198.setTop (mkF m 264 #[.val (.int p1), .val (.long q1), .second, .val (.int (8 : Int32)), .val (.int c0), .val (.int c1), .val (.int c2), .val (.int c3), .val (.int c4), .val (.int c5), .val (.int c6), .val (.int c7), .val (.ref b170), .val (.int ex)] [(.int (1 : Int32))]))
    refine own_go (fun t k => XS.goto X198.here hx rfl (pc0 := 264) (pc' := 268) rfl (hb hby at_264) (by decide) (by decide) k) ?_
    show own_G p.tables e below s _ _ _ (T198.setTop (mkF m 268 #[.val (.int p1), .val (.long q1), .second, .val (.int (8 : Int32)), .val (.int c0), .val (.int c1), .val (.int c2), .val (.int c3), .val (.int c4), .val (.int c5), .val (.int c6), .val (.int c7), .val (.ref b170), .val (.int ex)] [(.int (1 : Int32))]))
    exact own_retN X198 hx hlk (t := .boolean) (z' := (1 : Int32)) Bd.returns (by simp) (hb hby at_268) (rfl) (by rw [hh198]; exact ⟨rfl, N198⟩) (by decide) (by decide)
set_option maxRecDepth 65536 in
set_option maxHeartbeats 40000000 in
theorem comes_1 {Post : Tables → Env → Array Value → State → Outcome → State → Prop} (hpost : ∀ tb e args s v u, (limb_1_1.after args s (.returned v) u = true ∧ limb_1_2.after args s (.returned v) u = true ∧ True) → FrameEnd s (.returned v) u (Jvm.fieldLocs frame_1_writes args s ++ Jvm.arrayLocs frame_1_arrays args s ++ Jvm.staticLocs frame_1_statics s) 16 128 → Post tb e args s (.returned v) u) :
    ArmFor flags0 classFile x code maxLocals ret World_1 tables_1 room_1 Calls_1 rest_1 Pre_1 Post := by
  intro l hfl _ _ p e ha hc hk s m args below hf hA hF happ hP
  obtain ⟨hcalls, hrest, hpre⟩ := hP
  obtain ⟨-, -, -, hnamed, -, -, -, hat⟩ := (Spec.applies_iff hf).mp happ
  obtain ⟨hg, hn⟩ := and_e (Cond.before_iff.mp (show (Jvm.Cond.and given_1 narrow_1).before args s = true from hpre))
  obtain ⟨gc, g0'⟩ := and_e hg
  obtain ⟨ga0, g1'⟩ := and_e g0'
  have ga1 := g1'
  obtain ⟨w0, w1, rfl⟩ : ∃ w0 w1 : Value, args = #[w0, w1] := by
    have hs : args.size = 2 := by simpa [Cond.value, given_1] using gc
    obtain ⟨L⟩ := args
    match L, hs with
    | [w0, w1], _ => exact ⟨w0, w1, rfl⟩
  have hw := fun d (hd : d ∈ tables_1) => atoms_spec (ws := Jvm.Cond.code x code maxLocals ret :: tables_1) hat d (List.mem_cons_of_mem _ hd)
  have hfit : Fit s := fun {y c} hc i hi => by
    obtain ⟨ha, rfl⟩ := Array.getElem?_eq_some_iff.mp hc
    have q := List.all_eq_true.mp ((Array.all_eq_true_iff_forall_mem.mp hF) _ (Array.getElem_mem ha)) i (List.mem_range.mpr hi)
    simpa [Array.getElem?_eq_getElem hi] using q
  obtain ⟨i0, ei0⟩ := is_v ga0
  obtain rfl : w0 = (.int i0) := Option.some.inj ei0
  obtain ⟨i1, ei1⟩ := isL_v ga1
  obtain rfl : w1 = (.long i1) := Option.some.inj ei1
  obtain ⟨n, o, h1, h2, h3, _, L, rfl, ⟨rfl, N⟩, hq⟩ := rm0 l s _ hw tables_1 i0 i1 s.heap s.heap.size (Nat.le_refl _) p e ha hc hk s m _ below hf ((Spec.applies_iff_loose hf).mp happ).1 ⟨rfl, State.Warmed39.refl s, rfl⟩ trivial
  refine ⟨n, _, h1, h2, h3, hpost _ _ _ _ _ _ ⟨Cond.after_iff.mpr rfl, Cond.after_iff.mpr (eq_i res_at (Term.int_eval (1)) rfl), trivial⟩ ⟨hq.1, hq.2.1, (hq.2.2.sift fun y hy => Or.inr (N y hy)).mono (by decide) (by decide)⟩⟩
theorem main_1_1 : Claimed_1_1 := comes_1 fun _ _ _ _ _ _ h hF => ⟨h.1, hF⟩
theorem main_1_2 : Claimed_1_2 := comes_1 fun _ _ _ _ _ _ h hF => ⟨h.2.1, hF⟩
end Jvm.Pilot.@@N@@
namespace Jvm.Pilot.@@N@@
open Jvm Jvm.ClassFile Sem Op Lib Jvm.Free Jvm.Stand Jvm.Pilot.@@N@@.Jvm.D
/-! MADE BY PROGRAM (witnessworld.py) out of the Statement's table words and the real class files: 12 classes; the members and pool entries that the words name. The judged class is class 1, her method 1. -/
namespace start1
open Jvm.ClassFile
def u (s : String) : CpInfo := .utf8 (stringToUtf16 s)
/-- a pool by its gaps: so many unusable entries, then the entry; so many at the end -/
def gap : Nat → List CpInfo → List CpInfo
  | 0, r => r
  | n + 1, r => .unusable :: gap n r
def poolList (es : List (Nat × CpInfo)) (last : Nat) : List CpInfo := es.foldr (fun e r => gap e.1 (e.2 :: r)) (gap last [])
def pool (es : List (Nat × CpInfo)) (last : Nat) : Array CpInfo := ⟨poolList es last⟩
def fileOf (pool : Array CpInfo) (this : Nat) (attrs : Array Attribute := #[]) (ms : Array MethodInfo := #[]) (fl : Nat := 33) (sup : Nat := 0) (ifs : Array Nat := #[]) (fds : Array FieldInfo := #[]) : ClassFile where
  minorVersion := 0
  majorVersion := 65
  constantPool := pool
  accessFlags := fl
  thisClass := this
  superClass := sup
  interfaces := ifs
  fields := fds
  methods := ms
  attributes := attrs
def plain (name : String) (sup : Option ClassId) : Class where
  name := name
  kind := .ordinary
  loader := none
  accessFlags := 33
  super := sup
  interfaces := #[]
  cf := none
  fields := #[]
  methods := #[]
  instanceTypes := #[]
  staticTypes := #[]
  resolved := #[]
  callSites := []
  init := .initialized
  statics := none
  mirror := none

def pool0 : Array CpInfo := pool [(5, u "<init>"), (0, u "()V"), (1, .class_ 10), (1, u "java/lang/Object")] 113

def k0m0 : Method := { name := "<init>", desc := "()V", sig := { parameters := [], returnType := none }, accessFlags := 1, code := none }
/-- java/lang/Object -/
def k0 : Class := { plain "java/lang/Object" none with
  accessFlags := 33
  interfaces := #[]
  cf := some (fileOf pool0 8 #[] #[{ accessFlags := 1, nameIndex := 5, descriptorIndex := 6, attributes := #[] }] 33 0 #[] #[])
  fields := #[]
  methods := #[k0m0]
  instanceTypes := #[]
  staticTypes := #[]
  resolved := Array.replicate 124 none
  statics := none }

def pool1 : Array CpInfo := pool [(2, .class_ 4), (1, u "java/lang/Object"), (0, u "<init>"), (0, u "()V"), (0, .integer 2147483647), (0, .methodref 9 10), (0, .class_ 11), (0, .nameAndType 12 13), (0, u "com/example/cartulary/cartulary/model/Syntax"), (0, u "isAscii"), (0, u "([B)Z"), (0, .class_ 15), (0, u "com/example/cartulary/cartulary/model/SyntaxIsAsciiPinLaw"), (2, u "law"), (0, u "(IJ)Z")] 5

def k1m0 : Method := { name := "<init>", desc := "()V", sig := { parameters := [], returnType := none }, accessFlags := 1, code := none }
def k1c1 : Code := { maxStack := 3, maxLocals := 14, code := code, exceptionTable := #[], attributes := #[] }
def k1m1 : Method := { name := "law", desc := "(IJ)Z", sig := { parameters := [.int, .long], returnType := some .boolean }, accessFlags := 9, code := some k1c1 }
/-- com/example/cartulary/cartulary/model/SyntaxIsAsciiPinLaw -/
def k1 : Class := { plain "com/example/cartulary/cartulary/model/SyntaxIsAsciiPinLaw" (some 0) with
  accessFlags := 49
  interfaces := #[]
  cf := some (fileOf pool1 14 #[] #[{ accessFlags := 1, nameIndex := 5, descriptorIndex := 6, attributes := #[] }, { accessFlags := 9, nameIndex := 18, descriptorIndex := 19, attributes := #[] }] 49 2 #[] #[])
  fields := #[]
  methods := #[k1m0, k1m1]
  instanceTypes := #[]
  staticTypes := #[]
  resolved := Array.replicate 25 none
  statics := none }

def pool2 : Array CpInfo := pool [(1, .class_ 2), (0, u "java/lang/constant/Constable"), (0, .class_ 4), (0, u "java/lang/Object")] 6

/-- java/lang/constant/Constable -/
def k2 : Class := { plain "java/lang/constant/Constable" (some 0) with
  accessFlags := 1537
  interfaces := #[]
  cf := some (fileOf pool2 1 #[] #[] 1537 3 #[] #[])
  fields := #[]
  methods := #[]
  instanceTypes := #[]
  staticTypes := #[]
  resolved := Array.replicate 11 none
  statics := none }

def pool3 : Array CpInfo := pool [(1, .class_ 2), (0, u "java/lang/Comparable"), (0, .class_ 4), (0, u "java/lang/Object")] 7

/-- java/lang/Comparable -/
def k3 : Class := { plain "java/lang/Comparable" (some 0) with
  accessFlags := 1537
  interfaces := #[]
  cf := some (fileOf pool3 1 #[] #[] 1537 3 #[] #[])
  fields := #[]
  methods := #[]
  instanceTypes := #[]
  staticTypes := #[]
  resolved := Array.replicate 12 none
  statics := none }

def pool4 : Array CpInfo := pool [(1, .class_ 2), (0, u "java/io/Serializable"), (0, .class_ 4), (0, u "java/lang/Object")] 2

/-- java/io/Serializable -/
def k4 : Class := { plain "java/io/Serializable" (some 0) with
  accessFlags := 1537
  interfaces := #[]
  cf := some (fileOf pool4 1 #[] #[] 1537 3 #[] #[])
  fields := #[]
  methods := #[]
  instanceTypes := #[]
  staticTypes := #[]
  resolved := Array.replicate 7 none
  statics := none }

def pool5 : Array CpInfo := pool [(2, .class_ 4), (1, u "java/lang/Enum"), (0, u "name"), (0, u "Ljava/lang/String;"), (2, u "ordinal"), (0, u "I"), (1, .class_ 14), (1, u "java/lang/Object"), (4, u "hash"), (86, .class_ 108), (1, u "java/lang/Enum$EnumDesc"), (2, .class_ 112), (0, u "java/lang/constant/Constable"), (0, .class_ 114), (0, u "java/lang/Comparable"), (0, .class_ 116), (0, u "java/io/Serializable")] 87

/-- java/lang/Enum -/
def k5 : Class := { plain "java/lang/Enum" (some 0) with
  accessFlags := 1057
  interfaces := #[2, 3, 4]
  cf := some (fileOf pool5 2 #[.nestMembers #[106]] #[] 1057 12 #[111, 113, 115] #[{ accessFlags := 18, nameIndex := 5, descriptorIndex := 6, attributes := #[] }, { accessFlags := 18, nameIndex := 9, descriptorIndex := 10, attributes := #[] }, { accessFlags := 2, nameIndex := 19, descriptorIndex := 10, attributes := #[] }])
  fields := #[{ name := "name", type := (.object "java/lang/String"), accessFlags := 18, slot := 0, constantValue := 0 }, { name := "ordinal", type := .int, accessFlags := 18, slot := 1, constantValue := 0 }, { name := "hash", type := .int, accessFlags := 2, slot := 2, constantValue := 0 }]
  methods := #[]
  instanceTypes := #[(.object "java/lang/String"), .int, .int]
  staticTypes := #[]
  resolved := Array.replicate 204 none
  statics := none }

def pool6 : Array CpInfo := pool [(1, .class_ 2), (0, u "com/example/cartulary/cartulary/model/Syntax"), (2, u "ATTRIBUTE_TYPE_DESCRIPTION"), (0, u "Lcom/example/cartulary/cartulary/model/Syntax;"), (2, u "AUDIO"), (2, u "BINARY"), (2, u "BIT_STRING"), (2, u "CERTIFICATE"), (2, u "CERTIFICATE_LIST"), (2, u "CERTIFICATE_PAIR"), (2, u "COUNTRY_STRING"), (2, u "DN"), (2, u "DELIVERY_METHOD"), (2, u "DIRECTORY_STRING"), (2, u "DIT_CONTENT_RULE_DESCRIPTION"), (2, u "DIT_STRUCTURE_RULE_DESCRIPTION"), (2, u "ENHANCED_GUIDE"), (2, u "FACSIMILE_TELEPHONE_NUMBER"), (2, u "FAX"), (2, u "GENERALIZED_TIME"), (2, u "GUIDE"), (2, u "IA5_STRING"), (2, u "INTEGER"), (2, u "JPEG"), (2, u "MATCHING_RULE_DESCRIPTION"), (2, u "MATCHING_RULE_USE_DESCRIPTION"), (2, u "NAME_AND_OPTIONAL_UID"), (2, u "NAME_FORM_DESCRIPTION"), (2, u "NUMERIC_STRING"), (2, u "OBJECT_CLASS_DESCRIPTION"), (2, u "OID"), (2, u "OCTET_STRING"), (2, u "POSTAL_ADDRESS"), (2, u "PROTOCOL_INFORMATION"), (2, u "PRESENTATION_ADDRESS"), (2, u "PRINTABLE_STRING"), (2, u "SUPPORTED_ALGORITHM"), (2, u "TELEPHONE_NUMBER"), (2, u "TELETEX_TERMINAL_IDENTIFIER"), (2, u "TELEX_NUMBER"), (2, u "LDAP_SYNTAX_DESCRIPTION"), (2, u "SUBSTRING_ASSERTION"), (2, u "NIS_NETGROUP_TRIPLE"), (2, u "BOOT_PARAMETER"), (2, u "$VALUES"), (0, u "[Lcom/example/cartulary/cartulary/model/Syntax;"), (6, .class_ 139), (1, u "java/lang/Enum"), (8, u "oid"), (0, u "Ljava/lang/String;"), (2, u "description"), (33, u "isAscii"), (0, u "([B)Z"), (2, u "TRIPLE"), (0, u "Ljava/util/regex/Pattern;"), (13, u "BOOT"), (2, u "TELETEX"), (20, u "BITS"), (2, u "COUNTRY"), (2, u "PRINTABLE_TEXT"), (2, u "NUMERIC"), (2, u "NUMBER"), (2, u "OBJECT_IDENTIFIER"), (2, u "DELIVERY"), (2, u "FACSIMILE"), (2, u "TELEX"), (2, u "POSTAL"), (22, u "DESCRIPTION"), (125, u "SUBSET"), (11, u "GUIDE_TERM"), (250, u "PRINTABLE"), (3, u "NUMERIC_OID"), (2, u "DESCR"), (2, u "ESCAPED_LINE"), (2, u "MAX_GUIDE_DEPTH"), (0, u "I")] 34

def k6c0 : Code := { maxStack := 2, maxLocals := 5, code := prog_92_method_13_code, exceptionTable := #[], attributes := #[] }
def k6m0 : Method := { name := "isAscii", desc := "([B)Z", sig := { parameters := [(.array .byte)], returnType := some .boolean }, accessFlags := 8, code := some k6c0 }
/-- com/example/cartulary/cartulary/model/Syntax -/
def k6 : Class := { plain "com/example/cartulary/cartulary/model/Syntax" (some 5) with
  accessFlags := 16433
  interfaces := #[]
  cf := some (fileOf pool6 1 #[] #[{ accessFlags := 8, nameIndex := 186, descriptorIndex := 187, attributes := #[] }] 16433 137 #[] #[{ accessFlags := 16409, nameIndex := 5, descriptorIndex := 6, attributes := #[] }, { accessFlags := 16409, nameIndex := 9, descriptorIndex := 6, attributes := #[] }, { accessFlags := 16409, nameIndex := 12, descriptorIndex := 6, attributes := #[] }, { accessFlags := 16409, nameIndex := 15, descriptorIndex := 6, attributes := #[] }, { accessFlags := 16409, nameIndex := 18, descriptorIndex := 6, attributes := #[] }, { accessFlags := 16409, nameIndex := 21, descriptorIndex := 6, attributes := #[] }, { accessFlags := 16409, nameIndex := 24, descriptorIndex := 6, attributes := #[] }, { accessFlags := 16409, nameIndex := 27, descriptorIndex := 6, attributes := #[] }, { accessFlags := 16409, nameIndex := 30, descriptorIndex := 6, attributes := #[] }, { accessFlags := 16409, nameIndex := 33, descriptorIndex := 6, attributes := #[] }, { accessFlags := 16409, nameIndex := 36, descriptorIndex := 6, attributes := #[] }, { accessFlags := 16409, nameIndex := 39, descriptorIndex := 6, attributes := #[] }, { accessFlags := 16409, nameIndex := 42, descriptorIndex := 6, attributes := #[] }, { accessFlags := 16409, nameIndex := 45, descriptorIndex := 6, attributes := #[] }, { accessFlags := 16409, nameIndex := 48, descriptorIndex := 6, attributes := #[] }, { accessFlags := 16409, nameIndex := 51, descriptorIndex := 6, attributes := #[] }, { accessFlags := 16409, nameIndex := 54, descriptorIndex := 6, attributes := #[] }, { accessFlags := 16409, nameIndex := 57, descriptorIndex := 6, attributes := #[] }, { accessFlags := 16409, nameIndex := 60, descriptorIndex := 6, attributes := #[] }, { accessFlags := 16409, nameIndex := 63, descriptorIndex := 6, attributes := #[] }, { accessFlags := 16409, nameIndex := 66, descriptorIndex := 6, attributes := #[] }, { accessFlags := 16409, nameIndex := 69, descriptorIndex := 6, attributes := #[] }, { accessFlags := 16409, nameIndex := 72, descriptorIndex := 6, attributes := #[] }, { accessFlags := 16409, nameIndex := 75, descriptorIndex := 6, attributes := #[] }, { accessFlags := 16409, nameIndex := 78, descriptorIndex := 6, attributes := #[] }, { accessFlags := 16409, nameIndex := 81, descriptorIndex := 6, attributes := #[] }, { accessFlags := 16409, nameIndex := 84, descriptorIndex := 6, attributes := #[] }, { accessFlags := 16409, nameIndex := 87, descriptorIndex := 6, attributes := #[] }, { accessFlags := 16409, nameIndex := 90, descriptorIndex := 6, attributes := #[] }, { accessFlags := 16409, nameIndex := 93, descriptorIndex := 6, attributes := #[] }, { accessFlags := 16409, nameIndex := 96, descriptorIndex := 6, attributes := #[] }, { accessFlags := 16409, nameIndex := 99, descriptorIndex := 6, attributes := #[] }, { accessFlags := 16409, nameIndex := 102, descriptorIndex := 6, attributes := #[] }, { accessFlags := 16409, nameIndex := 105, descriptorIndex := 6, attributes := #[] }, { accessFlags := 16409, nameIndex := 108, descriptorIndex := 6, attributes := #[] }, { accessFlags := 16409, nameIndex := 111, descriptorIndex := 6, attributes := #[] }, { accessFlags := 16409, nameIndex := 114, descriptorIndex := 6, attributes := #[] }, { accessFlags := 16409, nameIndex := 117, descriptorIndex := 6, attributes := #[] }, { accessFlags := 16409, nameIndex := 120, descriptorIndex := 6, attributes := #[] }, { accessFlags := 16409, nameIndex := 123, descriptorIndex := 6, attributes := #[] }, { accessFlags := 16409, nameIndex := 126, descriptorIndex := 6, attributes := #[] }, { accessFlags := 26, nameIndex := 668, descriptorIndex := 149, attributes := #[] }, { accessFlags := 26, nameIndex := 672, descriptorIndex := 149, attributes := #[] }, { accessFlags := 26, nameIndex := 675, descriptorIndex := 149, attributes := #[] }, { accessFlags := 26, nameIndex := 678, descriptorIndex := 149, attributes := #[] }, { accessFlags := 26, nameIndex := 229, descriptorIndex := 191, attributes := #[] }, { accessFlags := 26, nameIndex := 232, descriptorIndex := 191, attributes := #[] }, { accessFlags := 26, nameIndex := 235, descriptorIndex := 191, attributes := #[] }, { accessFlags := 26, nameIndex := 238, descriptorIndex := 191, attributes := #[] }, { accessFlags := 26, nameIndex := 241, descriptorIndex := 191, attributes := #[] }, { accessFlags := 26, nameIndex := 244, descriptorIndex := 191, attributes := #[] }, { accessFlags := 26, nameIndex := 247, descriptorIndex := 191, attributes := #[] }, { accessFlags := 26, nameIndex := 250, descriptorIndex := 191, attributes := #[] }, { accessFlags := 26, nameIndex := 253, descriptorIndex := 191, attributes := #[] }, { accessFlags := 26, nameIndex := 208, descriptorIndex := 191, attributes := #[] }, { accessFlags := 26, nameIndex := 256, descriptorIndex := 191, attributes := #[] }, { accessFlags := 26, nameIndex := 279, descriptorIndex := 191, attributes := #[] }, { accessFlags := 26, nameIndex := 190, descriptorIndex := 191, attributes := #[] }, { accessFlags := 26, nameIndex := 205, descriptorIndex := 191, attributes := #[] }, { accessFlags := 26, nameIndex := 417, descriptorIndex := 191, attributes := #[] }, { accessFlags := 26, nameIndex := 405, descriptorIndex := 191, attributes := #[] }, { accessFlags := 26, nameIndex := 681, descriptorIndex := 682, attributes := #[] }, { accessFlags := 18, nameIndex := 148, descriptorIndex := 149, attributes := #[] }, { accessFlags := 18, nameIndex := 152, descriptorIndex := 149, attributes := #[] }, { accessFlags := 4122, nameIndex := 129, descriptorIndex := 130, attributes := #[] }])
  fields := #[{ name := "ATTRIBUTE_TYPE_DESCRIPTION", type := (.object "com/example/cartulary/cartulary/model/Syntax"), accessFlags := 16409, slot := 0, constantValue := 0 }, { name := "AUDIO", type := (.object "com/example/cartulary/cartulary/model/Syntax"), accessFlags := 16409, slot := 1, constantValue := 0 }, { name := "BINARY", type := (.object "com/example/cartulary/cartulary/model/Syntax"), accessFlags := 16409, slot := 2, constantValue := 0 }, { name := "BIT_STRING", type := (.object "com/example/cartulary/cartulary/model/Syntax"), accessFlags := 16409, slot := 3, constantValue := 0 }, { name := "CERTIFICATE", type := (.object "com/example/cartulary/cartulary/model/Syntax"), accessFlags := 16409, slot := 4, constantValue := 0 }, { name := "CERTIFICATE_LIST", type := (.object "com/example/cartulary/cartulary/model/Syntax"), accessFlags := 16409, slot := 5, constantValue := 0 }, { name := "CERTIFICATE_PAIR", type := (.object "com/example/cartulary/cartulary/model/Syntax"), accessFlags := 16409, slot := 6, constantValue := 0 }, { name := "COUNTRY_STRING", type := (.object "com/example/cartulary/cartulary/model/Syntax"), accessFlags := 16409, slot := 7, constantValue := 0 }, { name := "DN", type := (.object "com/example/cartulary/cartulary/model/Syntax"), accessFlags := 16409, slot := 8, constantValue := 0 }, { name := "DELIVERY_METHOD", type := (.object "com/example/cartulary/cartulary/model/Syntax"), accessFlags := 16409, slot := 9, constantValue := 0 }, { name := "DIRECTORY_STRING", type := (.object "com/example/cartulary/cartulary/model/Syntax"), accessFlags := 16409, slot := 10, constantValue := 0 }, { name := "DIT_CONTENT_RULE_DESCRIPTION", type := (.object "com/example/cartulary/cartulary/model/Syntax"), accessFlags := 16409, slot := 11, constantValue := 0 }, { name := "DIT_STRUCTURE_RULE_DESCRIPTION", type := (.object "com/example/cartulary/cartulary/model/Syntax"), accessFlags := 16409, slot := 12, constantValue := 0 }, { name := "ENHANCED_GUIDE", type := (.object "com/example/cartulary/cartulary/model/Syntax"), accessFlags := 16409, slot := 13, constantValue := 0 }, { name := "FACSIMILE_TELEPHONE_NUMBER", type := (.object "com/example/cartulary/cartulary/model/Syntax"), accessFlags := 16409, slot := 14, constantValue := 0 }, { name := "FAX", type := (.object "com/example/cartulary/cartulary/model/Syntax"), accessFlags := 16409, slot := 15, constantValue := 0 }, { name := "GENERALIZED_TIME", type := (.object "com/example/cartulary/cartulary/model/Syntax"), accessFlags := 16409, slot := 16, constantValue := 0 }, { name := "GUIDE", type := (.object "com/example/cartulary/cartulary/model/Syntax"), accessFlags := 16409, slot := 17, constantValue := 0 }, { name := "IA5_STRING", type := (.object "com/example/cartulary/cartulary/model/Syntax"), accessFlags := 16409, slot := 18, constantValue := 0 }, { name := "INTEGER", type := (.object "com/example/cartulary/cartulary/model/Syntax"), accessFlags := 16409, slot := 19, constantValue := 0 }, { name := "JPEG", type := (.object "com/example/cartulary/cartulary/model/Syntax"), accessFlags := 16409, slot := 20, constantValue := 0 }, { name := "MATCHING_RULE_DESCRIPTION", type := (.object "com/example/cartulary/cartulary/model/Syntax"), accessFlags := 16409, slot := 21, constantValue := 0 }, { name := "MATCHING_RULE_USE_DESCRIPTION", type := (.object "com/example/cartulary/cartulary/model/Syntax"), accessFlags := 16409, slot := 22, constantValue := 0 }, { name := "NAME_AND_OPTIONAL_UID", type := (.object "com/example/cartulary/cartulary/model/Syntax"), accessFlags := 16409, slot := 23, constantValue := 0 }, { name := "NAME_FORM_DESCRIPTION", type := (.object "com/example/cartulary/cartulary/model/Syntax"), accessFlags := 16409, slot := 24, constantValue := 0 }, { name := "NUMERIC_STRING", type := (.object "com/example/cartulary/cartulary/model/Syntax"), accessFlags := 16409, slot := 25, constantValue := 0 }, { name := "OBJECT_CLASS_DESCRIPTION", type := (.object "com/example/cartulary/cartulary/model/Syntax"), accessFlags := 16409, slot := 26, constantValue := 0 }, { name := "OID", type := (.object "com/example/cartulary/cartulary/model/Syntax"), accessFlags := 16409, slot := 27, constantValue := 0 }, { name := "OCTET_STRING", type := (.object "com/example/cartulary/cartulary/model/Syntax"), accessFlags := 16409, slot := 28, constantValue := 0 }, { name := "POSTAL_ADDRESS", type := (.object "com/example/cartulary/cartulary/model/Syntax"), accessFlags := 16409, slot := 29, constantValue := 0 }, { name := "PROTOCOL_INFORMATION", type := (.object "com/example/cartulary/cartulary/model/Syntax"), accessFlags := 16409, slot := 30, constantValue := 0 }, { name := "PRESENTATION_ADDRESS", type := (.object "com/example/cartulary/cartulary/model/Syntax"), accessFlags := 16409, slot := 31, constantValue := 0 }, { name := "PRINTABLE_STRING", type := (.object "com/example/cartulary/cartulary/model/Syntax"), accessFlags := 16409, slot := 32, constantValue := 0 }, { name := "SUPPORTED_ALGORITHM", type := (.object "com/example/cartulary/cartulary/model/Syntax"), accessFlags := 16409, slot := 33, constantValue := 0 }, { name := "TELEPHONE_NUMBER", type := (.object "com/example/cartulary/cartulary/model/Syntax"), accessFlags := 16409, slot := 34, constantValue := 0 }, { name := "TELETEX_TERMINAL_IDENTIFIER", type := (.object "com/example/cartulary/cartulary/model/Syntax"), accessFlags := 16409, slot := 35, constantValue := 0 }, { name := "TELEX_NUMBER", type := (.object "com/example/cartulary/cartulary/model/Syntax"), accessFlags := 16409, slot := 36, constantValue := 0 }, { name := "LDAP_SYNTAX_DESCRIPTION", type := (.object "com/example/cartulary/cartulary/model/Syntax"), accessFlags := 16409, slot := 37, constantValue := 0 }, { name := "SUBSTRING_ASSERTION", type := (.object "com/example/cartulary/cartulary/model/Syntax"), accessFlags := 16409, slot := 38, constantValue := 0 }, { name := "NIS_NETGROUP_TRIPLE", type := (.object "com/example/cartulary/cartulary/model/Syntax"), accessFlags := 16409, slot := 39, constantValue := 0 }, { name := "BOOT_PARAMETER", type := (.object "com/example/cartulary/cartulary/model/Syntax"), accessFlags := 16409, slot := 40, constantValue := 0 }, { name := "PRINTABLE", type := (.object "java/lang/String"), accessFlags := 26, slot := 41, constantValue := 0 }, { name := "NUMERIC_OID", type := (.object "java/lang/String"), accessFlags := 26, slot := 42, constantValue := 0 }, { name := "DESCR", type := (.object "java/lang/String"), accessFlags := 26, slot := 43, constantValue := 0 }, { name := "ESCAPED_LINE", type := (.object "java/lang/String"), accessFlags := 26, slot := 44, constantValue := 0 }, { name := "BITS", type := (.object "java/util/regex/Pattern"), accessFlags := 26, slot := 45, constantValue := 0 }, { name := "COUNTRY", type := (.object "java/util/regex/Pattern"), accessFlags := 26, slot := 46, constantValue := 0 }, { name := "PRINTABLE_TEXT", type := (.object "java/util/regex/Pattern"), accessFlags := 26, slot := 47, constantValue := 0 }, { name := "NUMERIC", type := (.object "java/util/regex/Pattern"), accessFlags := 26, slot := 48, constantValue := 0 }, { name := "NUMBER", type := (.object "java/util/regex/Pattern"), accessFlags := 26, slot := 49, constantValue := 0 }, { name := "OBJECT_IDENTIFIER", type := (.object "java/util/regex/Pattern"), accessFlags := 26, slot := 50, constantValue := 0 }, { name := "DELIVERY", type := (.object "java/util/regex/Pattern"), accessFlags := 26, slot := 51, constantValue := 0 }, { name := "FACSIMILE", type := (.object "java/util/regex/Pattern"), accessFlags := 26, slot := 52, constantValue := 0 }, { name := "TELEX", type := (.object "java/util/regex/Pattern"), accessFlags := 26, slot := 53, constantValue := 0 }, { name := "TELETEX", type := (.object "java/util/regex/Pattern"), accessFlags := 26, slot := 54, constantValue := 0 }, { name := "POSTAL", type := (.object "java/util/regex/Pattern"), accessFlags := 26, slot := 55, constantValue := 0 }, { name := "DESCRIPTION", type := (.object "java/util/regex/Pattern"), accessFlags := 26, slot := 56, constantValue := 0 }, { name := "TRIPLE", type := (.object "java/util/regex/Pattern"), accessFlags := 26, slot := 57, constantValue := 0 }, { name := "BOOT", type := (.object "java/util/regex/Pattern"), accessFlags := 26, slot := 58, constantValue := 0 }, { name := "GUIDE_TERM", type := (.object "java/util/regex/Pattern"), accessFlags := 26, slot := 59, constantValue := 0 }, { name := "SUBSET", type := (.object "java/util/regex/Pattern"), accessFlags := 26, slot := 60, constantValue := 0 }, { name := "MAX_GUIDE_DEPTH", type := .int, accessFlags := 26, slot := 61, constantValue := 0 }, { name := "oid", type := (.object "java/lang/String"), accessFlags := 18, slot := 3, constantValue := 0 }, { name := "description", type := (.object "java/lang/String"), accessFlags := 18, slot := 4, constantValue := 0 }, { name := "$VALUES", type := (.array (.object "com/example/cartulary/cartulary/model/Syntax")), accessFlags := 4122, slot := 62, constantValue := 0 }]
  methods := #[k6m0]
  instanceTypes := #[(.object "java/lang/String"), .int, .int, (.object "java/lang/String"), (.object "java/lang/String")]
  staticTypes := #[(.object "com/example/cartulary/cartulary/model/Syntax"), (.object "com/example/cartulary/cartulary/model/Syntax"), (.object "com/example/cartulary/cartulary/model/Syntax"), (.object "com/example/cartulary/cartulary/model/Syntax"), (.object "com/example/cartulary/cartulary/model/Syntax"), (.object "com/example/cartulary/cartulary/model/Syntax"), (.object "com/example/cartulary/cartulary/model/Syntax"), (.object "com/example/cartulary/cartulary/model/Syntax"), (.object "com/example/cartulary/cartulary/model/Syntax"), (.object "com/example/cartulary/cartulary/model/Syntax"), (.object "com/example/cartulary/cartulary/model/Syntax"), (.object "com/example/cartulary/cartulary/model/Syntax"), (.object "com/example/cartulary/cartulary/model/Syntax"), (.object "com/example/cartulary/cartulary/model/Syntax"), (.object "com/example/cartulary/cartulary/model/Syntax"), (.object "com/example/cartulary/cartulary/model/Syntax"), (.object "com/example/cartulary/cartulary/model/Syntax"), (.object "com/example/cartulary/cartulary/model/Syntax"), (.object "com/example/cartulary/cartulary/model/Syntax"), (.object "com/example/cartulary/cartulary/model/Syntax"), (.object "com/example/cartulary/cartulary/model/Syntax"), (.object "com/example/cartulary/cartulary/model/Syntax"), (.object "com/example/cartulary/cartulary/model/Syntax"), (.object "com/example/cartulary/cartulary/model/Syntax"), (.object "com/example/cartulary/cartulary/model/Syntax"), (.object "com/example/cartulary/cartulary/model/Syntax"), (.object "com/example/cartulary/cartulary/model/Syntax"), (.object "com/example/cartulary/cartulary/model/Syntax"), (.object "com/example/cartulary/cartulary/model/Syntax"), (.object "com/example/cartulary/cartulary/model/Syntax"), (.object "com/example/cartulary/cartulary/model/Syntax"), (.object "com/example/cartulary/cartulary/model/Syntax"), (.object "com/example/cartulary/cartulary/model/Syntax"), (.object "com/example/cartulary/cartulary/model/Syntax"), (.object "com/example/cartulary/cartulary/model/Syntax"), (.object "com/example/cartulary/cartulary/model/Syntax"), (.object "com/example/cartulary/cartulary/model/Syntax"), (.object "com/example/cartulary/cartulary/model/Syntax"), (.object "com/example/cartulary/cartulary/model/Syntax"), (.object "com/example/cartulary/cartulary/model/Syntax"), (.object "com/example/cartulary/cartulary/model/Syntax"), (.object "java/lang/String"), (.object "java/lang/String"), (.object "java/lang/String"), (.object "java/lang/String"), (.object "java/util/regex/Pattern"), (.object "java/util/regex/Pattern"), (.object "java/util/regex/Pattern"), (.object "java/util/regex/Pattern"), (.object "java/util/regex/Pattern"), (.object "java/util/regex/Pattern"), (.object "java/util/regex/Pattern"), (.object "java/util/regex/Pattern"), (.object "java/util/regex/Pattern"), (.object "java/util/regex/Pattern"), (.object "java/util/regex/Pattern"), (.object "java/util/regex/Pattern"), (.object "java/util/regex/Pattern"), (.object "java/util/regex/Pattern"), (.object "java/util/regex/Pattern"), (.object "java/util/regex/Pattern"), .int, (.array (.object "com/example/cartulary/cartulary/model/Syntax"))]
  resolved := Array.replicate 717 none
  statics := none }

def pool7 : Array CpInfo := pool [(1, u "java/lang/Cloneable"), (0, .class_ 1), (0, u "java/lang/Object"), (0, .class_ 3)] 3

/-- java/lang/Cloneable -/
def k7 : Class := { plain "java/lang/Cloneable" (some 0) with
  accessFlags := 1537
  interfaces := #[]
  cf := some (fileOf pool7 2 #[] #[] 1537 4 #[] #[])
  fields := #[]
  methods := #[]
  instanceTypes := #[]
  staticTypes := #[]
  resolved := Array.replicate 8 none
  statics := none }

/-- the primitive byte -/
def k8 : Class := { plain "byte" none with kind := .primitive 'B', accessFlags := 0x411 }
/-- [B -/
def k9 : Class := { plain "[B" (some 0) with kind := .array 8 .byte, interfaces := #[7, 4], accessFlags := 1041 }

/-- the primitive int -/
def k10 : Class := { plain "int" none with kind := .primitive 'I', accessFlags := 0x411 }
/-- [I -/
def k11 : Class := { plain "[I" (some 0) with kind := .array 10 .int, interfaces := #[7, 4], accessFlags := 1041 }

def heap : Heap := #[]
def classes : Array Class := #[k0, k1, k2, k3, k4, k5, k6, k7, k8, k9, k10, k11]
def interned : List (Array UInt16 × Addr) := []
def slotsUsed : Nat := 0
def theMethod : MethodId := ⟨1, 1⟩
def args0 : Array Value := #[.int 5, .long 3]
def aboutOver (below : List Frame) : State where
  vm := { classes := classes, interned := interned.toArray }
  heap := heap
  slotsUsed := slotsUsed
  threads := #[{ frames := .invoking theMethod args0 :: below }]
def below0 : List Frame := [.native { method := ⟨0, 0⟩, args := #[] }]
def about1 : State := aboutOver below0
def p0 : Program := .bare "" "" ""
def e0 : Env := launch0.env 0 0 0
theorem w_frames : about1.frames = Frame.invoking theMethod args0 :: below0 := rfl
set_option maxRecDepth 65536 in
theorem w_args : argsFit about1.vm theMethod args0 = true := by decide +kernel
set_option maxRecDepth 65536 in
theorem w_heap : heapFits about1 = true := by decide +kernel
set_option maxRecDepth 65536 in
theorem w_runnable : about1.curStatus? = some .runnable := by decide +kernel
set_option maxRecDepth 65536 in
theorem w_alone : about1.alone = true := by decide +kernel
set_option maxRecDepth 65536 in
theorem w_named : about1.methodNamed? x = some theMethod := by decide +kernel
set_option maxRecDepth 65536 in
theorem w_hears : about1.hears theMethod below0 = true := by decide +kernel
set_option maxRecDepth 65536 in
theorem w_ripe : about1.ripe theMethod args0 below0 = true := by decide +kernel
theorem w_running : about1.status = .running := rfl
set_option maxRecDepth 65536 in
theorem w_room : about1.hasRoom e0.platform room_1 = true :=
  launch0.hasRoom_least _ room_1 (by decide +kernel) (by decide +kernel) (by decide +kernel) (by decide +kernel) (by decide +kernel) (by decide +kernel)
theorem allAtoms_all (ts : List Jvm.Cond) (a : Array Jvm.Value) (st : Jvm.State) : (allAtoms ts).before a st = ts.all (fun c => c.before a st) := by
  induction ts with
  | nil => rfl
  | cons c t ih =>
    show (Jvm.Cond.and c (allAtoms t)).before a st = _
    rw [Jvm.Cond.before_and, ih, List.all_cons]
def words1 : List Jvm.Cond := Jvm.Cond.code x code maxLocals ret :: tables_1
/-- a 'code' word, met by the world's own term for the bytes: nothing is compared byte by byte -/
theorem code_word {y : MethodName} {bytes : ByteArray} {mx : Nat} {rt : Option FieldType} {a : Array Value} {s : State} {m : MethodId} {meth : Method} {c : Code} (h1 : s.methodNamed? y = some m) (h2 : s.vm.method? m = some meth) (h3 : meth.code = some c) (h4 : c.code = bytes)
    (h5 : (c.maxLocals == mx && c.exceptionTable.isEmpty && decide (c.maxStack ≤ mostOperands) && decide (meth.sig.returnType = rt) && !meth.locks && decide (parseMethodDescriptor y.desc = some meth.sig)) = true) : (Jvm.Cond.code y bytes mx rt).before a s = true := by
  simp only [Bool.and_eq_true, beq_iff_eq, Bool.not_eq_true', decide_eq_true_eq] at h5
  obtain ⟨⟨⟨⟨⟨g1, g2⟩, g3⟩, g4⟩, g5⟩, g6⟩ := h5
  simp [Cond.before, Cond.holds, Cond.value, h1, h2, h3, h4, g1, g2, g3, g4, g5, g6]
def isCode : Jvm.Cond → Bool
  | .code _ _ _ _ => true
  | _ => false
theorem all_split {L : List Jvm.Cond} {P : Jvm.Cond → Bool} (h1 : L.all (fun c => isCode c || P c) = true) (h2 : ∀ c ∈ L.filter isCode, P c = true) : L.all P = true := by
  refine List.all_eq_true.mpr fun c hc => ?_
  have h := List.all_eq_true.mp h1 c hc
  rcases Bool.eq_false_or_eq_true (isCode c) with hi | hi
  · exact h2 c (List.mem_filter.mpr ⟨hc, hi⟩)
  · simpa [hi] using h
set_option maxRecDepth 65536 in
theorem w_c0 : (Jvm.Cond.code x code maxLocals ret).before args0 about1 = true := code_word (m := ⟨1, 1⟩) (meth := k1m1) (c := k1c1) (by decide +kernel) rfl rfl rfl (by decide +kernel)
set_option maxRecDepth 65536 in
theorem w_c1 : (Jvm.Cond.code ({ cls := "com/example/cartulary/cartulary/model/Syntax", name := "isAscii", desc := "([B)Z" } : Jvm.MethodName) prog_92_method_13_code (5 : Nat) (Option.some Jvm.ClassFile.FieldType.boolean)).before args0 about1 = true := code_word (m := ⟨6, 0⟩) (meth := k6m0) (c := k6c0) (by decide +kernel) rfl rfl rfl (by decide +kernel)
def codes1 : List Jvm.Cond := [Jvm.Cond.code x code maxLocals ret, Jvm.Cond.code ({ cls := "com/example/cartulary/cartulary/model/Syntax", name := "isAscii", desc := "([B)Z" } : Jvm.MethodName) prog_92_method_13_code (5 : Nat) (Option.some Jvm.ClassFile.FieldType.boolean)]
set_option maxRecDepth 65536 in
theorem codes_eq : words1.filter isCode = codes1 := rfl
theorem w_codes : ∀ c ∈ words1.filter isCode, c.before args0 about1 = true := by
  rw [codes_eq]
  intro c hc
  simp only [codes1, List.mem_cons, List.not_mem_nil, or_false] at hc
  rcases hc with rfl | rfl
  · exact w_c0
  · exact w_c1
set_option maxRecDepth 65536 in
theorem w_t1 : words1.all (fun c => isCode c || c.before args0 about1) = true := by decide +kernel
theorem w_tables : (allAtoms (Jvm.Cond.code x code maxLocals ret :: tables_1)).before args0 about1 = true := by
  rw [allAtoms_all]
  show words1.all (fun c => c.before args0 about1) = true
  refine all_split ?_ w_codes
  rw [w_t1]
set_option maxRecDepth 65536 in
theorem w_case : (Jvm.Cond.and given_1 narrow_1).before args0 about1 = true := by decide +kernel
theorem w_applies : (headSpec (Jvm.Cond.code x code maxLocals ret :: tables_1) room_1).applies x e0.platform about1 = true :=
  (Spec.applies_iff w_frames).mpr ⟨w_running, w_runnable, w_alone, w_named, w_hears, w_ripe, w_room, w_tables⟩
theorem atStart : AtStart classFile x code maxLocals ret World_1 tables_1 room_1 Calls_1 rest_1 Pre_1 launch0 p0 e0 about1 theMethod args0 below0 :=
  ⟨lists_1, trivial, launch0.admits_env _ _ _, launch0.least_env, fairChoices_fair.cas, fairChoices_fair.clock, w_frames, w_args, w_heap, w_applies, trivial, trivial, w_case⟩
end start1
theorem witness_1 : WitnessClaimed_1 := ⟨start1.p0, start1.e0, start1.about1, start1.theMethod, start1.args0, start1.below0, start1.atStart⟩
end Jvm.Pilot.@@N@@
