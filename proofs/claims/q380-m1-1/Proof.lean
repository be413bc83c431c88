import JvmDerived
import JvmDerived.Pilot.@@N@@Statement
import JvmDerived.Pilot.@@N@@Code
set_option linter.unusedVariables false
set_option linter.unusedSimpArgs false
namespace Jvm.RoadKit
open Sem ClassFile Op Lib Jvm.Stand Jvm.Free Jvm.LawKit
section OwnKit
variable {p : Program} {l : Launch} {e : Env} {R : Room} {s : State} {m : MethodId} {args : Array Value} {below : List Frame} {meth : Method} {c : Code} {T : State} {locs : List Loc} {cells slots : Nat}
/-- a run that stands in S comes to an end of the invocation, of which Q is said -/
def own_G (tb : Tables) (e : Env) (below : List Frame) (s : State) (Q : Option Value → Heap → List Loc → Prop) (k n : Nat) (S : State) : Prop :=
  ∃ s₂ o, Steps tb e below S s₂ ∧ s₂.status = .running ∧ Ended s₂ below o ∧ ∃ v L, o = .returned v ∧ Q v s₂.heap L ∧ FrameEnd s o s₂ L k n
variable {tb : Tables} {Q : Option Value → Heap → List Loc → Prop} {k n : Nat}
theorem own_go {A B : State} (st : ∀ t, Steps tb e below A t → Steps tb e below B t) (h : own_G tb e below s Q k n A) : own_G tb e below s Q k n B := by
  obtain ⟨s₂, o, h1, h2⟩ := h
  exact ⟨s₂, o, st _ h1, h2⟩
theorem own_ret (X : Stand p l e R s m args below meth c T locs cells slots) {v : Option Value} (hv : meth.sig.returnType = none → v = none) (hlk : meth.locks = false) (hQ : Q v T.heap locs) (hk : cells ≤ k) (hn : slots ≤ n) {S : State}
    (st : ∀ fs, (∀ (f : JFrame) (acts : List Action), f.method = m → f.locked = none → f.entered = [] → (doReturn e (T.setTop f) acts v).1 = T.setFrames fs) → Steps p.tables e below S (T.setFrames fs)) : own_G p.tables e below s Q k n S := by
  obtain ⟨fs, hr, hrun, hended, hW, hsame⟩ := X.leave hv hlk
  exact ⟨_, _, st fs hr, hrun, hended, _, _, rfl, hQ, ⟨_, rfl⟩, hW, hsame.mono hk hn⟩
variable {pc : Nat} {Ls : Array Slot} {rest : List Value}
theorem own_retN (X : Stand p l e R s m args below meth c T locs cells slots) (hx : p.tables.exec = Jvm.exec) (hlk : meth.locks = false) {t : FieldType} {z z' : Int32} (hret : meth.sig.returnType = some t) (ht : t = .boolean ∨ t = .byte ∨ t = .char ∨ t = .short) (hd : decode c.code pc = .ok (.ireturn, 1)) (hz : nar t z = z') (hQ : Q (some (.int z')) T.heap locs) (hk : cells ≤ k) (hn : slots ≤ n) :
    own_G p.tables e below s Q k n (T.setTop (mkF m pc Ls (.int z :: rest))) := by
  subst hz
  exact own_ret X (fun h => by rw [hret] at h; cases h) hlk hQ hk hn fun fs hr => retN X hx hret ht hd hr
theorem own_retI (X : Stand p l e R s m args below meth c T locs cells slots) (hx : p.tables.exec = Jvm.exec) (hlk : meth.locks = false) {z : Int32} (hret : meth.sig.returnType = some .int) (hd : decode c.code pc = .ok (.ireturn, 1)) (hQ : Q (some (.int z)) T.heap locs) (hk : cells ≤ k) (hn : slots ≤ n) :
    own_G p.tables e below s Q k n (T.setTop (mkF m pc Ls (.int z :: rest))) :=
  own_ret X (fun h => by rw [hret] at h; cases h) hlk hQ hk hn fun fs hr => retOut X hx hret rfl (Or.inl ⟨rfl, Or.inl rfl, _, rfl⟩) hd hr
theorem own_retJ (X : Stand p l e R s m args below meth c T locs cells slots) (hx : p.tables.exec = Jvm.exec) (hlk : meth.locks = false) {z : Int64} (hret : meth.sig.returnType = some .long) (hd : decode c.code pc = .ok (.lreturn, 1)) (hQ : Q (some (.long z)) T.heap locs) (hk : cells ≤ k) (hn : slots ≤ n) :
    own_G p.tables e below s Q k n (T.setTop (mkF m pc Ls (.long z :: rest))) :=
  own_ret X (fun h => by rw [hret] at h; cases h) hlk hQ hk hn fun fs hr => retOut X hx hret rfl (Or.inr (Or.inl ⟨rfl, rfl, _, rfl⟩)) hd hr
theorem own_retA (X : Stand p l e R s m args below meth c T locs cells slots) (hx : p.tables.exec = Jvm.exec) (hlk : meth.locks = false) {t : FieldType} {w : Value} (hret : meth.sig.returnType = some t) (ht : t.isReference = true) (hv : w.isRef = true) (hd : decode c.code pc = .ok (.areturn, 1)) (hQ : Q (some w) T.heap locs) (hk : cells ≤ k) (hn : slots ≤ n) :
    own_G p.tables e below s Q k n (T.setTop (mkF m pc Ls (w :: rest))) :=
  own_ret X (fun h => by rw [hret] at h; cases h) hlk hQ hk hn fun fs hr => retOut X hx hret (by rcases ref_cases hv with rfl | ⟨_, rfl⟩ <;> cases t <;> first | rfl | cases ht) (Or.inr (Or.inr (Or.inr (Or.inr ⟨rfl, ht, hv⟩)))) hd hr
theorem own_retV (X : Stand p l e R s m args below meth c T locs cells slots) (hx : p.tables.exec = Jvm.exec) (hlk : meth.locks = false) (hret : meth.sig.returnType = none) (hd : decode c.code pc = .ok (.return_, 1)) (hQ : Q none T.heap locs) (hk : cells ≤ k) (hn : slots ≤ n) :
    own_G p.tables e below s Q k n (T.setTop (mkF m pc Ls [])) :=
  own_ret X (fun _ => rfl) hlk hQ hk hn fun fs hr => X.returnOut hx hret hd hr
end OwnKit
end Jvm.RoadKit
namespace Jvm.Pilot.@@N@@
open Jvm Jvm.ClassFile Sem Op Lib Jvm.Free Jvm.Stand Jvm.LawKit Jvm.RoadKit Bundle Jvm.Pilot.@@N@@.Jvm.D
theorem own_four (x : Int32) : (x &&& (3 : Int32)) = 0 ∨ (x &&& (3 : Int32)) = 1 ∨ (x &&& (3 : Int32)) = 2 ∨ (x &&& (3 : Int32)) = 3 := by
  have h2 : (x &&& (3 : Int32)).toBitVec.toNat ≤ 3 := by
    rw [Int32.toBitVec_and, BitVec.toNat_and]
    exact Nat.and_le_right
  generalize x &&& (3 : Int32) = r at *
  have g : ∀ k : Int32, r.toBitVec.toNat = k.toBitVec.toNat → r = k := fun k q => Int32.toBitVec_inj.mp (BitVec.eq_of_toNat_eq q)
  have hc : r.toBitVec.toNat = 0 ∨ r.toBitVec.toNat = 1 ∨ r.toBitVec.toNat = 2 ∨ r.toBitVec.toNat = 3 := by omega
  rcases hc with q | q | q | q
  · exact Or.inl (g 0 q)
  · exact Or.inr (Or.inl (g 1 q))
  · exact Or.inr (Or.inr (Or.inl (g 2 q)))
  · exact Or.inr (Or.inr (Or.inr (g 3 q)))
theorem own_le3 {t : Int32} (h : t = 0 ∨ t = 1 ∨ t = 2 ∨ t = 3) : ¬ ((3 : Int32) < t) := by rcases h with rfl | rfl | rfl | rfl <;> decide
theorem d1_0 : decode prog_66_method_2_code 0 = .ok (.aload_n 0, 1) := by decide +kernel
theorem d1_1 : decode prog_66_method_2_code 1 = .ok (.invokespecial 7, 3) := by decide +kernel
theorem d1_4 : decode prog_66_method_2_code 4 = .ok (.aload_n 0, 1) := by decide +kernel
theorem d1_5 : decode prog_66_method_2_code 5 = .ok (.aload_n 1, 1) := by decide +kernel
theorem d1_6 : decode prog_66_method_2_code 6 = .ok (.invokevirtual 12, 3) := by decide +kernel
theorem d1_9 : decode prog_66_method_2_code 9 = .ok (.checkcast 13, 3) := by decide +kernel
theorem d1_12 : decode prog_66_method_2_code 12 = .ok (.putfield 18, 3) := by decide +kernel
theorem d1_15 : decode prog_66_method_2_code 15 = .ok (.aload_n 0, 1) := by decide +kernel
theorem d1_16 : decode prog_66_method_2_code 16 = .ok (.aload_n 1, 1) := by decide +kernel
theorem d1_17 : decode prog_66_method_2_code 17 = .ok (.arraylength, 1) := by decide +kernel
theorem d1_18 : decode prog_66_method_2_code 18 = .ok (.putfield 21, 3) := by decide +kernel
theorem d1_21 : decode prog_66_method_2_code 21 = .ok (.return_, 1) := by decide +kernel
theorem pn_org_stowage_format_IntList : plainName "org/stowage/format/IntList" = true := by first | (simp [plainName, overriddenIn]; done) | decide +kernel
theorem ef_1 (m : MethodId) (x0 : Addr) (x1 : Addr) : entryFrame m #[(.ref x0), (.ref x1)] 2 = mkF m 0 #[.val (.ref x0), .val (.ref x1)] [] := by first | (simp [entryFrame, mkF, argsToLocals, Value.category]; done) | rfl
def Q1 (Z : State) (a1 a2 : Addr) (k1 : ClassId) (x1 x2 x3 : Int32) (h0 : Heap) (n0 : Nat) (v : Option Value) (h : Heap) (L : List Loc) : Prop := v = none ∧ Fr n0 L ∧ Keep h0 h [a1] ∧ ∃ d : Addr, n0 ≤ d ∧ a1 ≠ d ∧ Fld Z h a1 "org/stowage/format/IntList" "values" "[I" (.ref d) ∧ Fld Z h a1 "org/stowage/format/IntList" "size" "I" (.int (3 : Int32)) ∧ Arv Z h d k1 .int (3 : Int32) [(.int x1), (.int x2), (.int x3)] (.int (0 : Int32))
set_option maxRecDepth 65536 in
set_option maxHeartbeats 40000000 in
theorem rm1 (l : Launch) (Z : State) (a0 : Array Value) (hw : ∀ d ∈ tables_1, d.before a0 Z = true) (ws : List Jvm.Cond) (a1 a2 : Addr) (k1 : ClassId) (x1 x2 x3 : Int32) (h0 : Heap) (n0 : Nat) (Z0 : n0 ≤ h0.size) (E1 : Exa Z h0 a1 "org/stowage/format/IntList") (F1 : Fld Z h0 a1 "org/stowage/format/IntList" "values" "[I" .null) (F2 : Fld Z h0 a1 "org/stowage/format/IntList" "size" "I" (.int (0 : Int32))) (g1 : n0 ≤ a1) (V2 : Arv Z h0 a2 k1 .int (3 : Int32) [(.int x1), (.int x2), (.int x3)] (.int (0 : Int32))) (Ea : Exa Z h0 a2 "[I") (hne : a2 ≠ a1) :
    MetFree l (⟨"org/stowage/format/IntList", "<init>", "([I)V"⟩ : MethodName) (head1 (Jvm.Cond.code (⟨"org/stowage/format/IntList", "<init>", "([I)V"⟩ : MethodName) prog_66_method_2_code 2 none :: ws) ({ frames := 1, cells := 1, slots := 3, locals := 15 } : Room)) (fun a U => a = #[(.ref a1), (.ref a2)] ∧ Z.Warmed39 U.vm ∧ U.heap = h0) (fun _ _ _ _ _ => True) (fun _ U o U' => ∃ v L, o = .returned v ∧ Q1 Z a1 a2 k1 x1 x2 x3 h0 n0 v U'.heap L ∧ FrameEnd U o U' L ({ frames := 1, cells := 1, slots := 3, locals := 15 } : Room).cells ({ frames := 1, cells := 1, slots := 3, locals := 15 } : Room).slots) := by
  refine MetFree.of_bodySF (plainFor_of_name pn_org_stowage_format_IntList) hisR ?_
  intro p e s m args below meth c s₁ Bd hml0 hP hK
  obtain ⟨rfl, hZ, hh⟩ := hP
  have hx := Bd.exec
  have hby := Bd.bytes
  have hlk : meth.locks = false := BodyLoose.notSynchronized Bd
  have hml : c.maxLocals = 2 := hml0
  have hown : s.vm.findClass "org/stowage/format/IntList" = some m.cls := findClass_of_methodNamed Bd.named
  have hnm := (name_of_methodNamed Bd.named Bd.method).1
  have X0 : Stand p l e ({ frames := 1, cells := 1, slots := 3, locals := 15 } : Room) s m #[(.ref a1), (.ref a2)] below meth c s₁ [] 0 0 := Stand.of_body Bd
  have e0 : s₁.heap = h0 := by rw [← hh, Bd.state]; rfl
  have N0 := Fr.nil n0
  show own_G p.tables e below s (Q1 Z a1 a2 k1 x1 x2 x3 h0 n0) ({ frames := 1, cells := 1, slots := 3, locals := 15 } : Room).cells ({ frames := 1, cells := 1, slots := 3, locals := 15 } : Room).slots (s₁.setTop (entryFrame m #[(.ref a1), (.ref a2)] 2))
  refine own_go (fun t k => castTop (ef_1 m a1 a2) k) ?_
  show own_G p.tables e below s _ _ _ (s₁.setTop (mkF m 0 #[.val (.ref a1), .val (.ref a2)] []))
  refine own_go (fun t k => XS.aloadN X0.here hx rfl (hb hby d1_0) rfl rfl k) ?_
  show own_G p.tables e below s _ _ _ (s₁.setTop (mkF m 1 #[.val (.ref a1), .val (.ref a2)] [(.ref a1)]))
  obtain ⟨T1, X1, e1, st1⟩ := initO X0 hx hZ hown (hw _ (List.mem_of_getElem? (i := 7) rfl)) (hw _ (List.mem_of_getElem? (i := 8) rfl)) (hw _ (List.mem_of_getElem? (i := 9) rfl)) e0 (g := (mkF m 1 #[.val (.ref a1), .val (.ref a2)] [(.ref a1)])) rfl (by rw [hml]; rfl) rfl (hb hby d1_1) (by decide) (W := 0) (by show 2 * 0 + _ ≤ _; exact Nat.le_of_eq rfl) (by decide)
  refine own_go st1 ?_
  show own_G p.tables e below s _ _ _ (T1.setTop (mkF m 4 #[.val (.ref a1), .val (.ref a2)] []))
  refine own_go (fun t k => XS.aloadN X1.here hx rfl (hb hby d1_4) rfl rfl k) ?_
  show own_G p.tables e below s _ _ _ (T1.setTop (mkF m 5 #[.val (.ref a1), .val (.ref a2)] [(.ref a1)]))
  refine own_go (fun t k => XS.aloadN X1.here hx rfl (hb hby d1_5) rfl rfl k) ?_
  show own_G p.tables e below s _ _ _ (T1.setTop (mkF m 6 #[.val (.ref a1), .val (.ref a2)] [(.ref a2), (.ref a1)]))
  obtain ⟨T2, h2, X2, e2, E2, R2, Y2, st2⟩ := cloneH X1 hx hZ hown (hw _ (List.mem_of_getElem? (i := 10) rfl)) (hw _ (List.mem_of_getElem? (i := 11) rfl)) (hw _ (List.mem_of_getElem? (i := 15) rfl)) (hw _ (List.mem_of_getElem? (i := 13) rfl)) (hw _ (List.mem_of_getElem? (i := 14) rfl)) (hw _ (List.mem_of_getElem? (i := 16) rfl)) e1 (Arv.arh V2) Ea (g := (mkF m 6 #[.val (.ref a1), .val (.ref a2)] [(.ref a2), (.ref a1)])) rfl (by rw [hml]; rfl) rfl (hb hby d1_6) (by decide) (W := 1) (cap := 3) (by show 2 * 0 + _ ≤ _; exact Nat.le_of_eq rfl) (by decide) (by decide) (by decide) (by decide)
  obtain ⟨b2, g2⟩ : ∃ z, z = h0.size := ⟨_, rfl⟩
  rw [← g2] at R2 Y2 st2
  refine own_go st2 ?_
  have g3 := Nat.le_trans Z0 (Nat.le_of_eq g2.symm)
  have s4 := Nat.le_trans (Keep.refl h0 [a1]).1 (Nat.le_of_eq g2.symm)
  have n5 := Nat.ne_of_lt (Nat.lt_of_lt_of_le E1.lt (Nat.le_of_eq g2.symm))
  have n6 := Nat.ne_of_lt (Nat.lt_of_lt_of_le Ea.lt (Nat.le_of_eq g2.symm))
  have f7 := Exa.ext E2 E1
  have f8 := Fld.ext E2 F1
  have f9 := Fld.ext E2 F2
  have f10 := Exa.ext E2 Ea
  have f11 := V2.ext E2
  have z12 := Nat.le_trans Z0 E2.1
  have k13 := (Keep.refl h0 [a1]).ext E2
  have v14 : Arv Z h2 b2 k1 .int (3 : Int32) [(.int x1), (.int x2), (.int x3)] (.int (0 : Int32)) := R2
  show own_G p.tables e below s _ _ _ (T2.setTop (mkF m 9 #[.val (.ref a1), .val (.ref a2)] [(.ref b2), (.ref a1)]))
  obtain ⟨T15, X15, e15, st15⟩ := castY X2 hx hZ hown (hw _ (List.mem_of_getElem? (i := 17) rfl)) e2 (Ins.self Y2) (g := (mkF m 9 #[.val (.ref a1), .val (.ref a2)] [(.ref b2), (.ref a1)])) rfl rfl (hb hby d1_9)
  refine own_go st15 ?_
  show own_G p.tables e below s _ _ _ (T15.setTop (mkF m 12 #[.val (.ref a1), .val (.ref a2)] [(.ref b2), (.ref a1)]))
  obtain ⟨T16, h16, X16, e16, W16, st16⟩ := putF X15 hx hZ hown (host := "") (Or.inl (hw _ (List.mem_of_getElem? (i := 19) rfl))) Via.refl e15 f8 f7 (Or.inl (hw _ (List.mem_of_getElem? (i := 20) rfl))) (hw _ (List.mem_of_getElem? (i := 1) rfl)) (ty := (.array .int)) (by decide) rfl rfl (g := (mkF m 12 #[.val (.ref a1), .val (.ref a2)] [(.ref b2), (.ref a1)])) rfl rfl (hb hby d1_12)
  have N16 := Fr.snoc X16 N0 g1
  refine own_go st16 ?_
  have f17 := Fld.same W16 f8
  have f18 := Exa.wr W16 f7
  have f19 := Fld.other W16 f9 (Or.inr (slot_ne (Or.inl (hw _ (List.mem_of_getElem? (i := 22) rfl))) (Or.inl (hw _ (List.mem_of_getElem? (i := 20) rfl))) (by decide) (t := .int) (t' := (.array .int)) (by decide) (by decide)))
  have f20 := Exa.wr W16 f10
  have f21 := f11.other W16 hne
  have f22 := Exa.wr W16 Y2
  have f23 := v14.other W16 (Ne.symm n5)
  have z24 := Nat.le_trans z12 (Keep.of_wr W16).1
  have k25 := k13.wr W16 (Or.inl (List.mem_of_getElem? (i := 0) rfl))
  show own_G p.tables e below s _ _ _ (T16.setTop (mkF m 15 #[.val (.ref a1), .val (.ref a2)] []))
  refine own_go (fun t k => XS.aloadN X16.here hx rfl (hb hby d1_15) rfl rfl k) ?_
  show own_G p.tables e below s _ _ _ (T16.setTop (mkF m 16 #[.val (.ref a1), .val (.ref a2)] [(.ref a1)]))
  refine own_go (fun t k => XS.aloadN X16.here hx rfl (hb hby d1_16) rfl rfl k) ?_
  show own_G p.tables e below s _ _ _ (T16.setTop (mkF m 17 #[.val (.ref a1), .val (.ref a2)] [(.ref a2), (.ref a1)]))
  obtain ⟨cl26, Ar26, q26, S26, NN26, HH26, GG26⟩ := id f21
  have hlen26 := len_of S26 NN26
  refine own_go (A := T16.setTop (mkF m 18 #[.val (.ref a1), .val (.ref a2)] [(.int (3 : Int32)), (.ref a1)])) (fun t k => X16.arraylength hx (by rw [e16]; exact Ar26.1) (State.isArrayOf_alike hZ.alike Ar26.2.1) (g := (mkF m 17 #[.val (.ref a1), .val (.ref a2)] [(.ref a2), (.ref a1)])) rfl rfl (hb hby d1_17) _ (by rw [hlen26]; exact k)) ?_
  show own_G p.tables e below s _ _ _ (T16.setTop (mkF m 18 #[.val (.ref a1), .val (.ref a2)] [(.int (3 : Int32)), (.ref a1)]))
  obtain ⟨T27, h27, X27, e27, W27, st27⟩ := putF X16 hx hZ hown (host := "") (Or.inl (hw _ (List.mem_of_getElem? (i := 21) rfl))) Via.refl e16 f19 f18 (Or.inl (hw _ (List.mem_of_getElem? (i := 22) rfl))) (hw _ (List.mem_of_getElem? (i := 1) rfl)) (ty := .int) (by decide) rfl rfl (g := (mkF m 18 #[.val (.ref a1), .val (.ref a2)] [(.int (3 : Int32)), (.ref a1)])) rfl rfl (hb hby d1_18)
  have N27 := Fr.snoc X27 N16 g1
  refine own_go st27 ?_
  have f28 := Fld.same W27 f19
  have f29 := Exa.wr W27 f18
  have f30 := Fld.other W27 f17 (Or.inr (slot_ne (Or.inl (hw _ (List.mem_of_getElem? (i := 20) rfl))) (Or.inl (hw _ (List.mem_of_getElem? (i := 22) rfl))) (by decide) (t := (.array .int)) (t' := .int) (by decide) (by decide)))
  have f31 := Exa.wr W27 f20
  have f32 := f21.other W27 hne
  have f33 := Exa.wr W27 f22
  have f34 := f23.other W27 (Ne.symm n5)
  have z35 := Nat.le_trans z24 (Keep.of_wr W27).1
  have k36 := k25.wr W27 (Or.inl (List.mem_of_getElem? (i := 0) rfl))
  show own_G p.tables e below s _ _ _ (T27.setTop (mkF m 21 #[.val (.ref a1), .val (.ref a2)] []))
  exact own_retV X27 hx hlk Bd.returns (hb hby d1_21) (by rw [e27]; exact ⟨rfl, N27, k36, _, g3, n5, f30, f28, f34⟩) (by decide) (by decide)
theorem d2_0 : decode prog_66_method_7_code 0 = .ok (.iload_n 1, 1) := by decide +kernel
theorem d2_1 : decode prog_66_method_7_code 1 = .ok (.aload_n 0, 1) := by decide +kernel
theorem d2_2 : decode prog_66_method_7_code 2 = .ok (.getfield 21, 3) := by decide +kernel
theorem d2_5 : decode prog_66_method_7_code 5 = .ok (.if_icmp .le 12, 3) := by decide +kernel
theorem d2_17 : decode prog_66_method_7_code 17 = .ok (.aload_n 0, 1) := by decide +kernel
theorem d2_18 : decode prog_66_method_7_code 18 = .ok (.iload_n 1, 1) := by decide +kernel
theorem d2_19 : decode prog_66_method_7_code 19 = .ok (.putfield 21, 3) := by decide +kernel
theorem d2_22 : decode prog_66_method_7_code 22 = .ok (.return_, 1) := by decide +kernel
theorem ef_2 (m : MethodId) (x0 : Addr) (x1 : Int32) : entryFrame m #[(.ref x0), (.int x1)] 2 = mkF m 0 #[.val (.ref x0), .val (.int x1)] [] := by first | (simp [entryFrame, mkF, argsToLocals, Value.category]; done) | rfl
def Q2 (Z : State) (a1 d1 : Addr) (p2 : Int32) (h0 : Heap) (n0 : Nat) (v : Option Value) (h : Heap) (L : List Loc) : Prop := v = none ∧ Fr n0 L ∧ Keep h0 h [a1] ∧ Fld Z h a1 "org/stowage/format/IntList" "values" "[I" (.ref d1) ∧ Fld Z h a1 "org/stowage/format/IntList" "size" "I" (.int p2)
set_option maxRecDepth 65536 in
set_option maxHeartbeats 40000000 in
theorem rm2 (l : Launch) (Z : State) (a0 : Array Value) (hw : ∀ d ∈ tables_1, d.before a0 Z = true) (ws : List Jvm.Cond) (a1 d1 : Addr) (p2 : Int32) (h0 : Heap) (n0 : Nat) (Z0 : n0 ≤ h0.size) (E1 : Exa Z h0 a1 "org/stowage/format/IntList") (F1 : Fld Z h0 a1 "org/stowage/format/IntList" "values" "[I" (.ref d1)) (F2 : Fld Z h0 a1 "org/stowage/format/IntList" "size" "I" (.int (3 : Int32))) (g1 : n0 ≤ a1) (hp : ¬ ((3 : Int32) < p2)) :
    MetFree l (⟨"org/stowage/format/IntList", "truncate", "(I)V"⟩ : MethodName) (head1 (Jvm.Cond.code (⟨"org/stowage/format/IntList", "truncate", "(I)V"⟩ : MethodName) prog_66_method_7_code 2 none :: ws) ({ frames := 0, cells := 0, slots := 0, locals := 0 } : Room)) (fun a U => a = #[(.ref a1), (.int p2)] ∧ Z.Warmed39 U.vm ∧ U.heap = h0) (fun _ _ _ _ _ => True) (fun _ U o U' => ∃ v L, o = .returned v ∧ Q2 Z a1 d1 p2 h0 n0 v U'.heap L ∧ FrameEnd U o U' L ({ frames := 0, cells := 0, slots := 0, locals := 0 } : Room).cells ({ frames := 0, cells := 0, slots := 0, locals := 0 } : Room).slots) := by
  refine MetFree.of_bodySF (plainFor_of_name pn_org_stowage_format_IntList) hisR ?_
  intro p e s m args below meth c s₁ Bd hml0 hP hK
  obtain ⟨rfl, hZ, hh⟩ := hP
  have hx := Bd.exec
  have hby := Bd.bytes
  have hlk : meth.locks = false := BodyLoose.notSynchronized Bd
  have hml : c.maxLocals = 2 := hml0
  have hown : s.vm.findClass "org/stowage/format/IntList" = some m.cls := findClass_of_methodNamed Bd.named
  have hnm := (name_of_methodNamed Bd.named Bd.method).1
  have X0 : Stand p l e ({ frames := 0, cells := 0, slots := 0, locals := 0 } : Room) s m #[(.ref a1), (.int p2)] below meth c s₁ [] 0 0 := Stand.of_body Bd
  have e0 : s₁.heap = h0 := by rw [← hh, Bd.state]; rfl
  have N0 := Fr.nil n0
  show own_G p.tables e below s (Q2 Z a1 d1 p2 h0 n0) ({ frames := 0, cells := 0, slots := 0, locals := 0 } : Room).cells ({ frames := 0, cells := 0, slots := 0, locals := 0 } : Room).slots (s₁.setTop (entryFrame m #[(.ref a1), (.int p2)] 2))
  refine own_go (fun t k => castTop (ef_2 m a1 p2) k) ?_
  show own_G p.tables e below s _ _ _ (s₁.setTop (mkF m 0 #[.val (.ref a1), .val (.int p2)] []))
  refine own_go (fun t k => XS.iloadN X0.here hx rfl (hb hby d2_0) rfl k) ?_
  show own_G p.tables e below s _ _ _ (s₁.setTop (mkF m 1 #[.val (.ref a1), .val (.int p2)] [(.int p2)]))
  refine own_go (fun t k => XS.aloadN X0.here hx rfl (hb hby d2_1) rfl rfl k) ?_
  show own_G p.tables e below s _ _ _ (s₁.setTop (mkF m 2 #[.val (.ref a1), .val (.int p2)] [(.ref a1), (.int p2)]))
  obtain ⟨T37, X37, e37, st37⟩ := getF X0 hx hZ hown (host := "") (Or.inl (hw _ (List.mem_of_getElem? (i := 21) rfl))) Via.refl e0 F2 (g := (mkF m 2 #[.val (.ref a1), .val (.int p2)] [(.ref a1), (.int p2)])) rfl rfl (hb hby d2_2)
  refine own_go st37 ?_
  show own_G p.tables e below s _ _ _ (T37.setTop (mkF m 5 #[.val (.ref a1), .val (.int p2)] [(.int (3 : Int32)), (.int p2)]))
  refine own_go (fun t k => XS.icmpYes X37.here hx rfl (pc0 := 5) (pc' := 17) rfl (hb hby d2_5) rfl (Jvm.Free.XT.ii_le_t hp) (by decide) (by decide) k) ?_
  show own_G p.tables e below s _ _ _ (T37.setTop (mkF m 17 #[.val (.ref a1), .val (.int p2)] []))
  refine own_go (fun t k => XS.aloadN X37.here hx rfl (hb hby d2_17) rfl rfl k) ?_
  show own_G p.tables e below s _ _ _ (T37.setTop (mkF m 18 #[.val (.ref a1), .val (.int p2)] [(.ref a1)]))
  refine own_go (fun t k => XS.iloadN X37.here hx rfl (hb hby d2_18) rfl k) ?_
  show own_G p.tables e below s _ _ _ (T37.setTop (mkF m 19 #[.val (.ref a1), .val (.int p2)] [(.int p2), (.ref a1)]))
  obtain ⟨T38, h38, X38, e38, W38, st38⟩ := putF X37 hx hZ hown (host := "") (Or.inl (hw _ (List.mem_of_getElem? (i := 21) rfl))) Via.refl e37 F2 E1 (Or.inl (hw _ (List.mem_of_getElem? (i := 22) rfl))) (hw _ (List.mem_of_getElem? (i := 1) rfl)) (ty := .int) (by decide) rfl rfl (g := (mkF m 19 #[.val (.ref a1), .val (.int p2)] [(.int p2), (.ref a1)])) rfl rfl (hb hby d2_19)
  have N38 := Fr.snoc X38 N0 g1
  refine own_go st38 ?_
  have f39 := Fld.same W38 F2
  have f40 := Exa.wr W38 E1
  have f41 := Fld.other W38 F1 (Or.inr (slot_ne (Or.inl (hw _ (List.mem_of_getElem? (i := 20) rfl))) (Or.inl (hw _ (List.mem_of_getElem? (i := 22) rfl))) (by decide) (t := (.array .int)) (t' := .int) (by decide) (by decide)))
  have z42 := Nat.le_trans Z0 (Keep.of_wr W38).1
  have k43 := (Keep.refl h0 [a1]).wr W38 (Or.inl (List.mem_of_getElem? (i := 0) rfl))
  show own_G p.tables e below s _ _ _ (T38.setTop (mkF m 22 #[.val (.ref a1), .val (.int p2)] []))
  exact own_retV X38 hx hlk Bd.returns (hb hby d2_22) (by rw [e38]; exact ⟨rfl, N38, k43, f41, f39⟩) (by decide) (by decide)
theorem d3_0_0 : decode prog_66_method_8_code 0 = .ok (.iconst 0, 1) := by decide +kernel
theorem d3_0_1 : decode prog_66_method_8_code 1 = .ok (.istore_n 2, 1) := by decide +kernel
theorem d3_0_2 : decode prog_66_method_8_code 2 = .ok (.iload_n 2, 1) := by decide +kernel
theorem d3_0_3 : decode prog_66_method_8_code 3 = .ok (.aload_n 0, 1) := by decide +kernel
theorem d3_0_4 : decode prog_66_method_8_code 4 = .ok (.getfield 21, 3) := by decide +kernel
theorem d3_0_7 : decode prog_66_method_8_code 7 = .ok (.if_icmp .ge 21, 3) := by decide +kernel
theorem d3_0_28 : decode prog_66_method_8_code 28 = .ok (.iconst 0, 1) := by decide +kernel
theorem d3_0_29 : decode prog_66_method_8_code 29 = .ok (.ireturn, 1) := by decide +kernel
theorem ef_3_0 (m : MethodId) (x0 : Addr) (x1 : Int32) : entryFrame m #[(.ref x0), (.int x1)] 3 = mkF m 0 #[.val (.ref x0), .val (.int x1), .unset] [] := by first | (simp [entryFrame, mkF, argsToLocals, Value.category]; done) | rfl
def Q3_0 (Z : State) (a1 d1 : Addr) (k1 : ClassId) (x1 x2 x3 p2 r : Int32) (h0 : Heap) (n0 : Nat) (v : Option Value) (h : Heap) (L : List Loc) : Prop := v = some (.int r) ∧ Fr n0 L ∧ h = h0
set_option maxRecDepth 65536 in
set_option maxHeartbeats 40000000 in
theorem rm3_0 (l : Launch) (Z : State) (a0 : Array Value) (hw : ∀ d ∈ tables_1, d.before a0 Z = true) (ws : List Jvm.Cond) (a1 d1 : Addr) (k1 : ClassId) (x1 x2 x3 p2 r : Int32) (h0 : Heap) (n0 : Nat) (Z0 : n0 ≤ h0.size) (F1 : Fld Z h0 a1 "org/stowage/format/IntList" "values" "[I" (.ref d1)) (F2 : Fld Z h0 a1 "org/stowage/format/IntList" "size" "I" (.int (0 : Int32))) (V1 : Arv Z h0 d1 k1 .int (3 : Int32) [(.int x1), (.int x2), (.int x3)] (.int (0 : Int32))) (hr : (if False then (1 : Int32) else 0) = r) :
    MetFree l (⟨"org/stowage/format/IntList", "contains", "(I)Z"⟩ : MethodName) (head1 (Jvm.Cond.code (⟨"org/stowage/format/IntList", "contains", "(I)Z"⟩ : MethodName) prog_66_method_8_code 3 (some .boolean) :: ws) ({ frames := 0, cells := 0, slots := 0, locals := 0 } : Room)) (fun a U => a = #[(.ref a1), (.int p2)] ∧ Z.Warmed39 U.vm ∧ U.heap = h0) (fun _ _ _ _ _ => True) (fun _ U o U' => ∃ v L, o = .returned v ∧ Q3_0 Z a1 d1 k1 x1 x2 x3 p2 r h0 n0 v U'.heap L ∧ FrameEnd U o U' L ({ frames := 0, cells := 0, slots := 0, locals := 0 } : Room).cells ({ frames := 0, cells := 0, slots := 0, locals := 0 } : Room).slots) := by
  refine MetFree.of_bodySF (plainFor_of_name pn_org_stowage_format_IntList) hisR ?_
  intro p e s m args below meth c s₁ Bd hml0 hP hK
  obtain ⟨rfl, hZ, hh⟩ := hP
  have hx := Bd.exec
  have hby := Bd.bytes
  have hlk : meth.locks = false := BodyLoose.notSynchronized Bd
  have hml : c.maxLocals = 3 := hml0
  have hown : s.vm.findClass "org/stowage/format/IntList" = some m.cls := findClass_of_methodNamed Bd.named
  have hnm := (name_of_methodNamed Bd.named Bd.method).1
  have X0 : Stand p l e ({ frames := 0, cells := 0, slots := 0, locals := 0 } : Room) s m #[(.ref a1), (.int p2)] below meth c s₁ [] 0 0 := Stand.of_body Bd
  have e0 : s₁.heap = h0 := by rw [← hh, Bd.state]; rfl
  have N0 := Fr.nil n0
  show own_G p.tables e below s (Q3_0 Z a1 d1 k1 x1 x2 x3 p2 r h0 n0) ({ frames := 0, cells := 0, slots := 0, locals := 0 } : Room).cells ({ frames := 0, cells := 0, slots := 0, locals := 0 } : Room).slots (s₁.setTop (entryFrame m #[(.ref a1), (.int p2)] 3))
  refine own_go (fun t k => castTop (ef_3_0 m a1 p2) k) ?_
  show own_G p.tables e below s _ _ _ (s₁.setTop (mkF m 0 #[.val (.ref a1), .val (.int p2), .unset] []))
  refine own_go (fun t k => XS.iconst X0.here hx rfl (hb hby d3_0_0) k) ?_
  show own_G p.tables e below s _ _ _ (s₁.setTop (mkF m 1 #[.val (.ref a1), .val (.int p2), .unset] [(.int (0 : Int32))]))
  refine own_go (fun t k => XS.istoreN X0.here hx rfl (hb hby d3_0_1) rfl (l' := #[.val (.ref a1), .val (.int p2), .val (.int (0 : Int32))]) rfl k) ?_
  show own_G p.tables e below s _ _ _ (s₁.setTop (mkF m 2 #[.val (.ref a1), .val (.int p2), .val (.int (0 : Int32))] []))
  refine own_go (fun t k => XS.iloadN X0.here hx rfl (hb hby d3_0_2) rfl k) ?_
  show own_G p.tables e below s _ _ _ (s₁.setTop (mkF m 3 #[.val (.ref a1), .val (.int p2), .val (.int (0 : Int32))] [(.int (0 : Int32))]))
  refine own_go (fun t k => XS.aloadN X0.here hx rfl (hb hby d3_0_3) rfl rfl k) ?_
  show own_G p.tables e below s _ _ _ (s₁.setTop (mkF m 4 #[.val (.ref a1), .val (.int p2), .val (.int (0 : Int32))] [(.ref a1), (.int (0 : Int32))]))
  obtain ⟨T44, X44, e44, st44⟩ := getF X0 hx hZ hown (host := "") (Or.inl (hw _ (List.mem_of_getElem? (i := 21) rfl))) Via.refl e0 F2 (g := (mkF m 4 #[.val (.ref a1), .val (.int p2), .val (.int (0 : Int32))] [(.ref a1), (.int (0 : Int32))])) rfl rfl (hb hby d3_0_4)
  refine own_go st44 ?_
  show own_G p.tables e below s _ _ _ (T44.setTop (mkF m 7 #[.val (.ref a1), .val (.int p2), .val (.int (0 : Int32))] [(.int (0 : Int32)), (.int (0 : Int32))]))
  refine own_go (fun t k => XS.icmpYes X44.here hx rfl (pc0 := 7) (pc' := 28) rfl (hb hby d3_0_7) rfl (by decide) (by decide) (by decide) k) ?_
  show own_G p.tables e below s _ _ _ (T44.setTop (mkF m 28 #[.val (.ref a1), .val (.int p2), .val (.int (0 : Int32))] []))
  refine own_go (fun t k => XS.iconst X44.here hx rfl (hb hby d3_0_28) k) ?_
  show own_G p.tables e below s _ _ _ (T44.setTop (mkF m 29 #[.val (.ref a1), .val (.int p2), .val (.int (0 : Int32))] [(.int (0 : Int32))]))
  exact own_retN X44 hx hlk (t := .boolean) (z' := (0 : Int32)) Bd.returns (by simp) (hb hby d3_0_29) (rfl) (by rw [e44]; exact ⟨by rw [← hr, if_neg id], N0, rfl⟩) (by decide) (by decide)
theorem d3_1_0 : decode prog_66_method_8_code 0 = .ok (.iconst 0, 1) := by decide +kernel
theorem d3_1_1 : decode prog_66_method_8_code 1 = .ok (.istore_n 2, 1) := by decide +kernel
theorem d3_1_2 : decode prog_66_method_8_code 2 = .ok (.iload_n 2, 1) := by decide +kernel
theorem d3_1_3 : decode prog_66_method_8_code 3 = .ok (.aload_n 0, 1) := by decide +kernel
theorem d3_1_4 : decode prog_66_method_8_code 4 = .ok (.getfield 21, 3) := by decide +kernel
theorem d3_1_7 : decode prog_66_method_8_code 7 = .ok (.if_icmp .ge 21, 3) := by decide +kernel
theorem d3_1_10 : decode prog_66_method_8_code 10 = .ok (.aload_n 0, 1) := by decide +kernel
theorem d3_1_11 : decode prog_66_method_8_code 11 = .ok (.getfield 18, 3) := by decide +kernel
theorem d3_1_14 : decode prog_66_method_8_code 14 = .ok (.iload_n 2, 1) := by decide +kernel
theorem d3_1_15 : decode prog_66_method_8_code 15 = .ok (.iaload, 1) := by decide +kernel
theorem d3_1_16 : decode prog_66_method_8_code 16 = .ok (.iload_n 1, 1) := by decide +kernel
theorem d3_1_17 : decode prog_66_method_8_code 17 = .ok (.if_icmp .ne 5, 3) := by decide +kernel
theorem d3_1_20 : decode prog_66_method_8_code 20 = .ok (.iconst 1, 1) := by decide +kernel
theorem d3_1_21 : decode prog_66_method_8_code 21 = .ok (.ireturn, 1) := by decide +kernel
theorem d3_1_22 : decode prog_66_method_8_code 22 = .ok (.iinc 2 1, 3) := by decide +kernel
theorem d3_1_25 : decode prog_66_method_8_code 25 = .ok (.goto (-23), 3) := by decide +kernel
theorem d3_1_28 : decode prog_66_method_8_code 28 = .ok (.iconst 0, 1) := by decide +kernel
theorem d3_1_29 : decode prog_66_method_8_code 29 = .ok (.ireturn, 1) := by decide +kernel
theorem ef_3_1 (m : MethodId) (x0 : Addr) (x1 : Int32) : entryFrame m #[(.ref x0), (.int x1)] 3 = mkF m 0 #[.val (.ref x0), .val (.int x1), .unset] [] := by first | (simp [entryFrame, mkF, argsToLocals, Value.category]; done) | rfl
def Q3_1 (Z : State) (a1 d1 : Addr) (k1 : ClassId) (x1 x2 x3 p2 r : Int32) (h0 : Heap) (n0 : Nat) (v : Option Value) (h : Heap) (L : List Loc) : Prop := v = some (.int r) ∧ Fr n0 L ∧ h = h0
set_option maxRecDepth 65536 in
set_option maxHeartbeats 40000000 in
theorem rm3_1 (l : Launch) (Z : State) (a0 : Array Value) (hw : ∀ d ∈ tables_1, d.before a0 Z = true) (ws : List Jvm.Cond) (a1 d1 : Addr) (k1 : ClassId) (x1 x2 x3 p2 r : Int32) (h0 : Heap) (n0 : Nat) (Z0 : n0 ≤ h0.size) (F1 : Fld Z h0 a1 "org/stowage/format/IntList" "values" "[I" (.ref d1)) (F2 : Fld Z h0 a1 "org/stowage/format/IntList" "size" "I" (.int (1 : Int32))) (V1 : Arv Z h0 d1 k1 .int (3 : Int32) [(.int x1), (.int x2), (.int x3)] (.int (0 : Int32))) (hr : (if x1 = p2 then (1 : Int32) else 0) = r) :
    MetFree l (⟨"org/stowage/format/IntList", "contains", "(I)Z"⟩ : MethodName) (head1 (Jvm.Cond.code (⟨"org/stowage/format/IntList", "contains", "(I)Z"⟩ : MethodName) prog_66_method_8_code 3 (some .boolean) :: ws) ({ frames := 0, cells := 0, slots := 0, locals := 0 } : Room)) (fun a U => a = #[(.ref a1), (.int p2)] ∧ Z.Warmed39 U.vm ∧ U.heap = h0) (fun _ _ _ _ _ => True) (fun _ U o U' => ∃ v L, o = .returned v ∧ Q3_1 Z a1 d1 k1 x1 x2 x3 p2 r h0 n0 v U'.heap L ∧ FrameEnd U o U' L ({ frames := 0, cells := 0, slots := 0, locals := 0 } : Room).cells ({ frames := 0, cells := 0, slots := 0, locals := 0 } : Room).slots) := by
  refine MetFree.of_bodySF (plainFor_of_name pn_org_stowage_format_IntList) hisR ?_
  intro p e s m args below meth c s₁ Bd hml0 hP hK
  obtain ⟨rfl, hZ, hh⟩ := hP
  have hx := Bd.exec
  have hby := Bd.bytes
  have hlk : meth.locks = false := BodyLoose.notSynchronized Bd
  have hml : c.maxLocals = 3 := hml0
  have hown : s.vm.findClass "org/stowage/format/IntList" = some m.cls := findClass_of_methodNamed Bd.named
  have hnm := (name_of_methodNamed Bd.named Bd.method).1
  have X0 : Stand p l e ({ frames := 0, cells := 0, slots := 0, locals := 0 } : Room) s m #[(.ref a1), (.int p2)] below meth c s₁ [] 0 0 := Stand.of_body Bd
  have e0 : s₁.heap = h0 := by rw [← hh, Bd.state]; rfl
  have N0 := Fr.nil n0
  show own_G p.tables e below s (Q3_1 Z a1 d1 k1 x1 x2 x3 p2 r h0 n0) ({ frames := 0, cells := 0, slots := 0, locals := 0 } : Room).cells ({ frames := 0, cells := 0, slots := 0, locals := 0 } : Room).slots (s₁.setTop (entryFrame m #[(.ref a1), (.int p2)] 3))
  refine own_go (fun t k => castTop (ef_3_1 m a1 p2) k) ?_
  show own_G p.tables e below s _ _ _ (s₁.setTop (mkF m 0 #[.val (.ref a1), .val (.int p2), .unset] []))
  refine own_go (fun t k => XS.iconst X0.here hx rfl (hb hby d3_1_0) k) ?_
  show own_G p.tables e below s _ _ _ (s₁.setTop (mkF m 1 #[.val (.ref a1), .val (.int p2), .unset] [(.int (0 : Int32))]))
  refine own_go (fun t k => XS.istoreN X0.here hx rfl (hb hby d3_1_1) rfl (l' := #[.val (.ref a1), .val (.int p2), .val (.int (0 : Int32))]) rfl k) ?_
  show own_G p.tables e below s _ _ _ (s₁.setTop (mkF m 2 #[.val (.ref a1), .val (.int p2), .val (.int (0 : Int32))] []))
  refine own_go (fun t k => XS.iloadN X0.here hx rfl (hb hby d3_1_2) rfl k) ?_
  show own_G p.tables e below s _ _ _ (s₁.setTop (mkF m 3 #[.val (.ref a1), .val (.int p2), .val (.int (0 : Int32))] [(.int (0 : Int32))]))
  refine own_go (fun t k => XS.aloadN X0.here hx rfl (hb hby d3_1_3) rfl rfl k) ?_
  show own_G p.tables e below s _ _ _ (s₁.setTop (mkF m 4 #[.val (.ref a1), .val (.int p2), .val (.int (0 : Int32))] [(.ref a1), (.int (0 : Int32))]))
  obtain ⟨T45, X45, e45, st45⟩ := getF X0 hx hZ hown (host := "") (Or.inl (hw _ (List.mem_of_getElem? (i := 21) rfl))) Via.refl e0 F2 (g := (mkF m 4 #[.val (.ref a1), .val (.int p2), .val (.int (0 : Int32))] [(.ref a1), (.int (0 : Int32))])) rfl rfl (hb hby d3_1_4)
  refine own_go st45 ?_
  show own_G p.tables e below s _ _ _ (T45.setTop (mkF m 7 #[.val (.ref a1), .val (.int p2), .val (.int (0 : Int32))] [(.int (1 : Int32)), (.int (0 : Int32))]))
  refine own_go (fun t k => XS.icmpNo X45.here hx rfl (hb hby d3_1_7) rfl (by decide) k) ?_
  show own_G p.tables e below s _ _ _ (T45.setTop (mkF m 10 #[.val (.ref a1), .val (.int p2), .val (.int (0 : Int32))] []))
  refine own_go (fun t k => XS.aloadN X45.here hx rfl (hb hby d3_1_10) rfl rfl k) ?_
  show own_G p.tables e below s _ _ _ (T45.setTop (mkF m 11 #[.val (.ref a1), .val (.int p2), .val (.int (0 : Int32))] [(.ref a1)]))
  obtain ⟨T46, X46, e46, st46⟩ := getF X45 hx hZ hown (host := "") (Or.inl (hw _ (List.mem_of_getElem? (i := 19) rfl))) Via.refl e45 F1 (g := (mkF m 11 #[.val (.ref a1), .val (.int p2), .val (.int (0 : Int32))] [(.ref a1)])) rfl rfl (hb hby d3_1_11)
  refine own_go st46 ?_
  show own_G p.tables e below s _ _ _ (T46.setTop (mkF m 14 #[.val (.ref a1), .val (.int p2), .val (.int (0 : Int32))] [(.ref d1)]))
  refine own_go (fun t k => XS.iloadN X46.here hx rfl (hb hby d3_1_14) rfl k) ?_
  show own_G p.tables e below s _ _ _ (T46.setTop (mkF m 15 #[.val (.ref a1), .val (.int p2), .val (.int (0 : Int32))] [(.int (0 : Int32)), (.ref d1)]))
  obtain ⟨cl47, Ar47, q47, S47, NN47, HH47, GG47⟩ := id V1
  have hin47 : ¬ ((0 : Int32) < 0 ∨ cl47.slots.size ≤ ((0 : Int32)).toNatClampNeg) := inb_of S47 ⟨by decide, by decide⟩
  have hat47 : cl47.slots[((0 : Int32)).toNatClampNeg]? = some (.int x1) := Has.at HH47 hin47 rfl
  refine own_go (fun t k => X46.iaload hx (j := (0 : Int32)) (v := (.int x1)) (by rw [e46]; exact Ar47.1) (State.isArrayOf_alike hZ.alike Ar47.2.1) Ar47.2.2 hin47 hat47 (g := (mkF m 15 #[.val (.ref a1), .val (.int p2), .val (.int (0 : Int32))] [(.int (0 : Int32)), (.ref d1)])) rfl rfl (hb hby d3_1_15) _ k) ?_
  show own_G p.tables e below s _ _ _ (T46.setTop (mkF m 16 #[.val (.ref a1), .val (.int p2), .val (.int (0 : Int32))] [(.int x1)]))
  refine own_go (fun t k => XS.iloadN X46.here hx rfl (hb hby d3_1_16) rfl k) ?_
  show own_G p.tables e below s _ _ _ (T46.setTop (mkF m 17 #[.val (.ref a1), .val (.int p2), .val (.int (0 : Int32))] [(.int p2), (.int x1)]))
  by_cases hn0 : x1 = p2
  · refine own_go (fun t k => XS.icmpNo X46.here hx rfl (hb hby d3_1_17) rfl (Jvm.Free.XT.ii_ne_f hn0) k) ?_
    show own_G p.tables e below s _ _ _ (T46.setTop (mkF m 20 #[.val (.ref a1), .val (.int p2), .val (.int (0 : Int32))] []))
    refine own_go (fun t k => XS.iconst X46.here hx rfl (hb hby d3_1_20) k) ?_
    show own_G p.tables e below s _ _ _ (T46.setTop (mkF m 21 #[.val (.ref a1), .val (.int p2), .val (.int (0 : Int32))] [(.int (1 : Int32))]))
    exact own_retN X46 hx hlk (t := .boolean) (z' := (1 : Int32)) Bd.returns (by simp) (hb hby d3_1_21) (rfl) (by rw [e46]; exact ⟨by rw [← hr, if_pos (hn0)], N0, rfl⟩) (by decide) (by decide)
  · refine own_go (fun t k => XS.icmpYes X46.here hx rfl (pc0 := 17) (pc' := 22) rfl (hb hby d3_1_17) rfl (Jvm.Free.XT.ii_ne_t hn0) (by decide) (by decide) k) ?_
    show own_G p.tables e below s _ _ _ (T46.setTop (mkF m 22 #[.val (.ref a1), .val (.int p2), .val (.int (0 : Int32))] []))
    refine own_go (fun t k => XS.iinc X46.here hx rfl (hb hby d3_1_22) rfl (l' := #[.val (.ref a1), .val (.int p2), .val (.int (1 : Int32))]) rfl k) ?_
    show own_G p.tables e below s _ _ _ (T46.setTop (mkF m 25 #[.val (.ref a1), .val (.int p2), .val (.int (1 : Int32))] []))
    refine own_go (fun t k => XS.goto X46.here hx rfl (pc0 := 25) (pc' := 2) rfl (hb hby d3_1_25) (by decide) (by decide) k) ?_
    show own_G p.tables e below s _ _ _ (T46.setTop (mkF m 2 #[.val (.ref a1), .val (.int p2), .val (.int (1 : Int32))] []))
    refine own_go (fun t k => XS.iloadN X46.here hx rfl (hb hby d3_1_2) rfl k) ?_
    show own_G p.tables e below s _ _ _ (T46.setTop (mkF m 3 #[.val (.ref a1), .val (.int p2), .val (.int (1 : Int32))] [(.int (1 : Int32))]))
    refine own_go (fun t k => XS.aloadN X46.here hx rfl (hb hby d3_1_3) rfl rfl k) ?_
    show own_G p.tables e below s _ _ _ (T46.setTop (mkF m 4 #[.val (.ref a1), .val (.int p2), .val (.int (1 : Int32))] [(.ref a1), (.int (1 : Int32))]))
    obtain ⟨T48, X48, e48, st48⟩ := getF X46 hx hZ hown (host := "") (Or.inl (hw _ (List.mem_of_getElem? (i := 21) rfl))) Via.refl e46 F2 (g := (mkF m 4 #[.val (.ref a1), .val (.int p2), .val (.int (1 : Int32))] [(.ref a1), (.int (1 : Int32))])) rfl rfl (hb hby d3_1_4)
    refine own_go st48 ?_
    show own_G p.tables e below s _ _ _ (T48.setTop (mkF m 7 #[.val (.ref a1), .val (.int p2), .val (.int (1 : Int32))] [(.int (1 : Int32)), (.int (1 : Int32))]))
    refine own_go (fun t k => XS.icmpYes X48.here hx rfl (pc0 := 7) (pc' := 28) rfl (hb hby d3_1_7) rfl (by decide) (by decide) (by decide) k) ?_
    show own_G p.tables e below s _ _ _ (T48.setTop (mkF m 28 #[.val (.ref a1), .val (.int p2), .val (.int (1 : Int32))] []))
    refine own_go (fun t k => XS.iconst X48.here hx rfl (hb hby d3_1_28) k) ?_
    show own_G p.tables e below s _ _ _ (T48.setTop (mkF m 29 #[.val (.ref a1), .val (.int p2), .val (.int (1 : Int32))] [(.int (0 : Int32))]))
    exact own_retN X48 hx hlk (t := .boolean) (z' := (0 : Int32)) Bd.returns (by simp) (hb hby d3_1_29) (rfl) (by rw [e48]; exact ⟨by rw [← hr, if_neg hn0], N0, rfl⟩) (by decide) (by decide)
theorem d3_2_0 : decode prog_66_method_8_code 0 = .ok (.iconst 0, 1) := by decide +kernel
theorem d3_2_1 : decode prog_66_method_8_code 1 = .ok (.istore_n 2, 1) := by decide +kernel
theorem d3_2_2 : decode prog_66_method_8_code 2 = .ok (.iload_n 2, 1) := by decide +kernel
theorem d3_2_3 : decode prog_66_method_8_code 3 = .ok (.aload_n 0, 1) := by decide +kernel
theorem d3_2_4 : decode prog_66_method_8_code 4 = .ok (.getfield 21, 3) := by decide +kernel
theorem d3_2_7 : decode prog_66_method_8_code 7 = .ok (.if_icmp .ge 21, 3) := by decide +kernel
theorem d3_2_10 : decode prog_66_method_8_code 10 = .ok (.aload_n 0, 1) := by decide +kernel
theorem d3_2_11 : decode prog_66_method_8_code 11 = .ok (.getfield 18, 3) := by decide +kernel
theorem d3_2_14 : decode prog_66_method_8_code 14 = .ok (.iload_n 2, 1) := by decide +kernel
theorem d3_2_15 : decode prog_66_method_8_code 15 = .ok (.iaload, 1) := by decide +kernel
theorem d3_2_16 : decode prog_66_method_8_code 16 = .ok (.iload_n 1, 1) := by decide +kernel
theorem d3_2_17 : decode prog_66_method_8_code 17 = .ok (.if_icmp .ne 5, 3) := by decide +kernel
theorem d3_2_20 : decode prog_66_method_8_code 20 = .ok (.iconst 1, 1) := by decide +kernel
theorem d3_2_21 : decode prog_66_method_8_code 21 = .ok (.ireturn, 1) := by decide +kernel
theorem d3_2_22 : decode prog_66_method_8_code 22 = .ok (.iinc 2 1, 3) := by decide +kernel
theorem d3_2_25 : decode prog_66_method_8_code 25 = .ok (.goto (-23), 3) := by decide +kernel
theorem d3_2_28 : decode prog_66_method_8_code 28 = .ok (.iconst 0, 1) := by decide +kernel
theorem d3_2_29 : decode prog_66_method_8_code 29 = .ok (.ireturn, 1) := by decide +kernel
theorem ef_3_2 (m : MethodId) (x0 : Addr) (x1 : Int32) : entryFrame m #[(.ref x0), (.int x1)] 3 = mkF m 0 #[.val (.ref x0), .val (.int x1), .unset] [] := by first | (simp [entryFrame, mkF, argsToLocals, Value.category]; done) | rfl
def Q3_2 (Z : State) (a1 d1 : Addr) (k1 : ClassId) (x1 x2 x3 p2 r : Int32) (h0 : Heap) (n0 : Nat) (v : Option Value) (h : Heap) (L : List Loc) : Prop := v = some (.int r) ∧ Fr n0 L ∧ h = h0
set_option maxRecDepth 65536 in
set_option maxHeartbeats 40000000 in
theorem rm3_2 (l : Launch) (Z : State) (a0 : Array Value) (hw : ∀ d ∈ tables_1, d.before a0 Z = true) (ws : List Jvm.Cond) (a1 d1 : Addr) (k1 : ClassId) (x1 x2 x3 p2 r : Int32) (h0 : Heap) (n0 : Nat) (Z0 : n0 ≤ h0.size) (F1 : Fld Z h0 a1 "org/stowage/format/IntList" "values" "[I" (.ref d1)) (F2 : Fld Z h0 a1 "org/stowage/format/IntList" "size" "I" (.int (2 : Int32))) (V1 : Arv Z h0 d1 k1 .int (3 : Int32) [(.int x1), (.int x2), (.int x3)] (.int (0 : Int32))) (hr : (if x1 = p2 ∨ x2 = p2 then (1 : Int32) else 0) = r) :
    MetFree l (⟨"org/stowage/format/IntList", "contains", "(I)Z"⟩ : MethodName) (head1 (Jvm.Cond.code (⟨"org/stowage/format/IntList", "contains", "(I)Z"⟩ : MethodName) prog_66_method_8_code 3 (some .boolean) :: ws) ({ frames := 0, cells := 0, slots := 0, locals := 0 } : Room)) (fun a U => a = #[(.ref a1), (.int p2)] ∧ Z.Warmed39 U.vm ∧ U.heap = h0) (fun _ _ _ _ _ => True) (fun _ U o U' => ∃ v L, o = .returned v ∧ Q3_2 Z a1 d1 k1 x1 x2 x3 p2 r h0 n0 v U'.heap L ∧ FrameEnd U o U' L ({ frames := 0, cells := 0, slots := 0, locals := 0 } : Room).cells ({ frames := 0, cells := 0, slots := 0, locals := 0 } : Room).slots) := by
  refine MetFree.of_bodySF (plainFor_of_name pn_org_stowage_format_IntList) hisR ?_
  intro p e s m args below meth c s₁ Bd hml0 hP hK
  obtain ⟨rfl, hZ, hh⟩ := hP
  have hx := Bd.exec
  have hby := Bd.bytes
  have hlk : meth.locks = false := BodyLoose.notSynchronized Bd
  have hml : c.maxLocals = 3 := hml0
  have hown : s.vm.findClass "org/stowage/format/IntList" = some m.cls := findClass_of_methodNamed Bd.named
  have hnm := (name_of_methodNamed Bd.named Bd.method).1
  have X0 : Stand p l e ({ frames := 0, cells := 0, slots := 0, locals := 0 } : Room) s m #[(.ref a1), (.int p2)] below meth c s₁ [] 0 0 := Stand.of_body Bd
  have e0 : s₁.heap = h0 := by rw [← hh, Bd.state]; rfl
  have N0 := Fr.nil n0
  show own_G p.tables e below s (Q3_2 Z a1 d1 k1 x1 x2 x3 p2 r h0 n0) ({ frames := 0, cells := 0, slots := 0, locals := 0 } : Room).cells ({ frames := 0, cells := 0, slots := 0, locals := 0 } : Room).slots (s₁.setTop (entryFrame m #[(.ref a1), (.int p2)] 3))
  refine own_go (fun t k => castTop (ef_3_2 m a1 p2) k) ?_
  show own_G p.tables e below s _ _ _ (s₁.setTop (mkF m 0 #[.val (.ref a1), .val (.int p2), .unset] []))
  refine own_go (fun t k => XS.iconst X0.here hx rfl (hb hby d3_2_0) k) ?_
  show own_G p.tables e below s _ _ _ (s₁.setTop (mkF m 1 #[.val (.ref a1), .val (.int p2), .unset] [(.int (0 : Int32))]))
  refine own_go (fun t k => XS.istoreN X0.here hx rfl (hb hby d3_2_1) rfl (l' := #[.val (.ref a1), .val (.int p2), .val (.int (0 : Int32))]) rfl k) ?_
  show own_G p.tables e below s _ _ _ (s₁.setTop (mkF m 2 #[.val (.ref a1), .val (.int p2), .val (.int (0 : Int32))] []))
  refine own_go (fun t k => XS.iloadN X0.here hx rfl (hb hby d3_2_2) rfl k) ?_
  show own_G p.tables e below s _ _ _ (s₁.setTop (mkF m 3 #[.val (.ref a1), .val (.int p2), .val (.int (0 : Int32))] [(.int (0 : Int32))]))
  refine own_go (fun t k => XS.aloadN X0.here hx rfl (hb hby d3_2_3) rfl rfl k) ?_
  show own_G p.tables e below s _ _ _ (s₁.setTop (mkF m 4 #[.val (.ref a1), .val (.int p2), .val (.int (0 : Int32))] [(.ref a1), (.int (0 : Int32))]))
  obtain ⟨T49, X49, e49, st49⟩ := getF X0 hx hZ hown (host := "") (Or.inl (hw _ (List.mem_of_getElem? (i := 21) rfl))) Via.refl e0 F2 (g := (mkF m 4 #[.val (.ref a1), .val (.int p2), .val (.int (0 : Int32))] [(.ref a1), (.int (0 : Int32))])) rfl rfl (hb hby d3_2_4)
  refine own_go st49 ?_
  show own_G p.tables e below s _ _ _ (T49.setTop (mkF m 7 #[.val (.ref a1), .val (.int p2), .val (.int (0 : Int32))] [(.int (2 : Int32)), (.int (0 : Int32))]))
  refine own_go (fun t k => XS.icmpNo X49.here hx rfl (hb hby d3_2_7) rfl (by decide) k) ?_
  show own_G p.tables e below s _ _ _ (T49.setTop (mkF m 10 #[.val (.ref a1), .val (.int p2), .val (.int (0 : Int32))] []))
  refine own_go (fun t k => XS.aloadN X49.here hx rfl (hb hby d3_2_10) rfl rfl k) ?_
  show own_G p.tables e below s _ _ _ (T49.setTop (mkF m 11 #[.val (.ref a1), .val (.int p2), .val (.int (0 : Int32))] [(.ref a1)]))
  obtain ⟨T50, X50, e50, st50⟩ := getF X49 hx hZ hown (host := "") (Or.inl (hw _ (List.mem_of_getElem? (i := 19) rfl))) Via.refl e49 F1 (g := (mkF m 11 #[.val (.ref a1), .val (.int p2), .val (.int (0 : Int32))] [(.ref a1)])) rfl rfl (hb hby d3_2_11)
  refine own_go st50 ?_
  show own_G p.tables e below s _ _ _ (T50.setTop (mkF m 14 #[.val (.ref a1), .val (.int p2), .val (.int (0 : Int32))] [(.ref d1)]))
  refine own_go (fun t k => XS.iloadN X50.here hx rfl (hb hby d3_2_14) rfl k) ?_
  show own_G p.tables e below s _ _ _ (T50.setTop (mkF m 15 #[.val (.ref a1), .val (.int p2), .val (.int (0 : Int32))] [(.int (0 : Int32)), (.ref d1)]))
  obtain ⟨cl51, Ar51, q51, S51, NN51, HH51, GG51⟩ := id V1
  have hin51 : ¬ ((0 : Int32) < 0 ∨ cl51.slots.size ≤ ((0 : Int32)).toNatClampNeg) := inb_of S51 ⟨by decide, by decide⟩
  have hat51 : cl51.slots[((0 : Int32)).toNatClampNeg]? = some (.int x1) := Has.at HH51 hin51 rfl
  refine own_go (fun t k => X50.iaload hx (j := (0 : Int32)) (v := (.int x1)) (by rw [e50]; exact Ar51.1) (State.isArrayOf_alike hZ.alike Ar51.2.1) Ar51.2.2 hin51 hat51 (g := (mkF m 15 #[.val (.ref a1), .val (.int p2), .val (.int (0 : Int32))] [(.int (0 : Int32)), (.ref d1)])) rfl rfl (hb hby d3_2_15) _ k) ?_
  show own_G p.tables e below s _ _ _ (T50.setTop (mkF m 16 #[.val (.ref a1), .val (.int p2), .val (.int (0 : Int32))] [(.int x1)]))
  refine own_go (fun t k => XS.iloadN X50.here hx rfl (hb hby d3_2_16) rfl k) ?_
  show own_G p.tables e below s _ _ _ (T50.setTop (mkF m 17 #[.val (.ref a1), .val (.int p2), .val (.int (0 : Int32))] [(.int p2), (.int x1)]))
  by_cases hn0 : x1 = p2
  · refine own_go (fun t k => XS.icmpNo X50.here hx rfl (hb hby d3_2_17) rfl (Jvm.Free.XT.ii_ne_f hn0) k) ?_
    show own_G p.tables e below s _ _ _ (T50.setTop (mkF m 20 #[.val (.ref a1), .val (.int p2), .val (.int (0 : Int32))] []))
    refine own_go (fun t k => XS.iconst X50.here hx rfl (hb hby d3_2_20) k) ?_
    show own_G p.tables e below s _ _ _ (T50.setTop (mkF m 21 #[.val (.ref a1), .val (.int p2), .val (.int (0 : Int32))] [(.int (1 : Int32))]))
    exact own_retN X50 hx hlk (t := .boolean) (z' := (1 : Int32)) Bd.returns (by simp) (hb hby d3_2_21) (rfl) (by rw [e50]; exact ⟨by rw [← hr, if_pos (Or.inl hn0)], N0, rfl⟩) (by decide) (by decide)
  · refine own_go (fun t k => XS.icmpYes X50.here hx rfl (pc0 := 17) (pc' := 22) rfl (hb hby d3_2_17) rfl (Jvm.Free.XT.ii_ne_t hn0) (by decide) (by decide) k) ?_
    show own_G p.tables e below s _ _ _ (T50.setTop (mkF m 22 #[.val (.ref a1), .val (.int p2), .val (.int (0 : Int32))] []))
    refine own_go (fun t k => XS.iinc X50.here hx rfl (hb hby d3_2_22) rfl (l' := #[.val (.ref a1), .val (.int p2), .val (.int (1 : Int32))]) rfl k) ?_
    show own_G p.tables e below s _ _ _ (T50.setTop (mkF m 25 #[.val (.ref a1), .val (.int p2), .val (.int (1 : Int32))] []))
    refine own_go (fun t k => XS.goto X50.here hx rfl (pc0 := 25) (pc' := 2) rfl (hb hby d3_2_25) (by decide) (by decide) k) ?_
    show own_G p.tables e below s _ _ _ (T50.setTop (mkF m 2 #[.val (.ref a1), .val (.int p2), .val (.int (1 : Int32))] []))
    refine own_go (fun t k => XS.iloadN X50.here hx rfl (hb hby d3_2_2) rfl k) ?_
    show own_G p.tables e below s _ _ _ (T50.setTop (mkF m 3 #[.val (.ref a1), .val (.int p2), .val (.int (1 : Int32))] [(.int (1 : Int32))]))
    refine own_go (fun t k => XS.aloadN X50.here hx rfl (hb hby d3_2_3) rfl rfl k) ?_
    show own_G p.tables e below s _ _ _ (T50.setTop (mkF m 4 #[.val (.ref a1), .val (.int p2), .val (.int (1 : Int32))] [(.ref a1), (.int (1 : Int32))]))
    obtain ⟨T52, X52, e52, st52⟩ := getF X50 hx hZ hown (host := "") (Or.inl (hw _ (List.mem_of_getElem? (i := 21) rfl))) Via.refl e50 F2 (g := (mkF m 4 #[.val (.ref a1), .val (.int p2), .val (.int (1 : Int32))] [(.ref a1), (.int (1 : Int32))])) rfl rfl (hb hby d3_2_4)
    refine own_go st52 ?_
    show own_G p.tables e below s _ _ _ (T52.setTop (mkF m 7 #[.val (.ref a1), .val (.int p2), .val (.int (1 : Int32))] [(.int (2 : Int32)), (.int (1 : Int32))]))
    refine own_go (fun t k => XS.icmpNo X52.here hx rfl (hb hby d3_2_7) rfl (by decide) k) ?_
    show own_G p.tables e below s _ _ _ (T52.setTop (mkF m 10 #[.val (.ref a1), .val (.int p2), .val (.int (1 : Int32))] []))
    refine own_go (fun t k => XS.aloadN X52.here hx rfl (hb hby d3_2_10) rfl rfl k) ?_
    show own_G p.tables e below s _ _ _ (T52.setTop (mkF m 11 #[.val (.ref a1), .val (.int p2), .val (.int (1 : Int32))] [(.ref a1)]))
    obtain ⟨T53, X53, e53, st53⟩ := getF X52 hx hZ hown (host := "") (Or.inl (hw _ (List.mem_of_getElem? (i := 19) rfl))) Via.refl e52 F1 (g := (mkF m 11 #[.val (.ref a1), .val (.int p2), .val (.int (1 : Int32))] [(.ref a1)])) rfl rfl (hb hby d3_2_11)
    refine own_go st53 ?_
    show own_G p.tables e below s _ _ _ (T53.setTop (mkF m 14 #[.val (.ref a1), .val (.int p2), .val (.int (1 : Int32))] [(.ref d1)]))
    refine own_go (fun t k => XS.iloadN X53.here hx rfl (hb hby d3_2_14) rfl k) ?_
    show own_G p.tables e below s _ _ _ (T53.setTop (mkF m 15 #[.val (.ref a1), .val (.int p2), .val (.int (1 : Int32))] [(.int (1 : Int32)), (.ref d1)]))
    obtain ⟨cl54, Ar54, q54, S54, NN54, HH54, GG54⟩ := id V1
    have hin54 : ¬ ((1 : Int32) < 0 ∨ cl54.slots.size ≤ ((1 : Int32)).toNatClampNeg) := inb_of S54 ⟨by decide, by decide⟩
    have hat54 : cl54.slots[((1 : Int32)).toNatClampNeg]? = some (.int x2) := Has.at HH54 hin54 rfl
    refine own_go (fun t k => X53.iaload hx (j := (1 : Int32)) (v := (.int x2)) (by rw [e53]; exact Ar54.1) (State.isArrayOf_alike hZ.alike Ar54.2.1) Ar54.2.2 hin54 hat54 (g := (mkF m 15 #[.val (.ref a1), .val (.int p2), .val (.int (1 : Int32))] [(.int (1 : Int32)), (.ref d1)])) rfl rfl (hb hby d3_2_15) _ k) ?_
    show own_G p.tables e below s _ _ _ (T53.setTop (mkF m 16 #[.val (.ref a1), .val (.int p2), .val (.int (1 : Int32))] [(.int x2)]))
    refine own_go (fun t k => XS.iloadN X53.here hx rfl (hb hby d3_2_16) rfl k) ?_
    show own_G p.tables e below s _ _ _ (T53.setTop (mkF m 17 #[.val (.ref a1), .val (.int p2), .val (.int (1 : Int32))] [(.int p2), (.int x2)]))
    by_cases hn1 : x2 = p2
    · refine own_go (fun t k => XS.icmpNo X53.here hx rfl (hb hby d3_2_17) rfl (Jvm.Free.XT.ii_ne_f hn1) k) ?_
      show own_G p.tables e below s _ _ _ (T53.setTop (mkF m 20 #[.val (.ref a1), .val (.int p2), .val (.int (1 : Int32))] []))
      refine own_go (fun t k => XS.iconst X53.here hx rfl (hb hby d3_2_20) k) ?_
      show own_G p.tables e below s _ _ _ (T53.setTop (mkF m 21 #[.val (.ref a1), .val (.int p2), .val (.int (1 : Int32))] [(.int (1 : Int32))]))
      exact own_retN X53 hx hlk (t := .boolean) (z' := (1 : Int32)) Bd.returns (by simp) (hb hby d3_2_21) (rfl) (by rw [e53]; exact ⟨by rw [← hr, if_pos (Or.inr (hn1))], N0, rfl⟩) (by decide) (by decide)
    · refine own_go (fun t k => XS.icmpYes X53.here hx rfl (pc0 := 17) (pc' := 22) rfl (hb hby d3_2_17) rfl (Jvm.Free.XT.ii_ne_t hn1) (by decide) (by decide) k) ?_
      show own_G p.tables e below s _ _ _ (T53.setTop (mkF m 22 #[.val (.ref a1), .val (.int p2), .val (.int (1 : Int32))] []))
      refine own_go (fun t k => XS.iinc X53.here hx rfl (hb hby d3_2_22) rfl (l' := #[.val (.ref a1), .val (.int p2), .val (.int (2 : Int32))]) rfl k) ?_
      show own_G p.tables e below s _ _ _ (T53.setTop (mkF m 25 #[.val (.ref a1), .val (.int p2), .val (.int (2 : Int32))] []))
      refine own_go (fun t k => XS.goto X53.here hx rfl (pc0 := 25) (pc' := 2) rfl (hb hby d3_2_25) (by decide) (by decide) k) ?_
      show own_G p.tables e below s _ _ _ (T53.setTop (mkF m 2 #[.val (.ref a1), .val (.int p2), .val (.int (2 : Int32))] []))
      refine own_go (fun t k => XS.iloadN X53.here hx rfl (hb hby d3_2_2) rfl k) ?_
      show own_G p.tables e below s _ _ _ (T53.setTop (mkF m 3 #[.val (.ref a1), .val (.int p2), .val (.int (2 : Int32))] [(.int (2 : Int32))]))
      refine own_go (fun t k => XS.aloadN X53.here hx rfl (hb hby d3_2_3) rfl rfl k) ?_
      show own_G p.tables e below s _ _ _ (T53.setTop (mkF m 4 #[.val (.ref a1), .val (.int p2), .val (.int (2 : Int32))] [(.ref a1), (.int (2 : Int32))]))
      obtain ⟨T55, X55, e55, st55⟩ := getF X53 hx hZ hown (host := "") (Or.inl (hw _ (List.mem_of_getElem? (i := 21) rfl))) Via.refl e53 F2 (g := (mkF m 4 #[.val (.ref a1), .val (.int p2), .val (.int (2 : Int32))] [(.ref a1), (.int (2 : Int32))])) rfl rfl (hb hby d3_2_4)
      refine own_go st55 ?_
      show own_G p.tables e below s _ _ _ (T55.setTop (mkF m 7 #[.val (.ref a1), .val (.int p2), .val (.int (2 : Int32))] [(.int (2 : Int32)), (.int (2 : Int32))]))
      refine own_go (fun t k => XS.icmpYes X55.here hx rfl (pc0 := 7) (pc' := 28) rfl (hb hby d3_2_7) rfl (by decide) (by decide) (by decide) k) ?_
      show own_G p.tables e below s _ _ _ (T55.setTop (mkF m 28 #[.val (.ref a1), .val (.int p2), .val (.int (2 : Int32))] []))
      refine own_go (fun t k => XS.iconst X55.here hx rfl (hb hby d3_2_28) k) ?_
      show own_G p.tables e below s _ _ _ (T55.setTop (mkF m 29 #[.val (.ref a1), .val (.int p2), .val (.int (2 : Int32))] [(.int (0 : Int32))]))
      exact own_retN X55 hx hlk (t := .boolean) (z' := (0 : Int32)) Bd.returns (by simp) (hb hby d3_2_29) (rfl) (by rw [e55]; exact ⟨by rw [← hr, if_neg (fun q => q.elim hn0 hn1)], N0, rfl⟩) (by decide) (by decide)
theorem d3_3_0 : decode prog_66_method_8_code 0 = .ok (.iconst 0, 1) := by decide +kernel
theorem d3_3_1 : decode prog_66_method_8_code 1 = .ok (.istore_n 2, 1) := by decide +kernel
theorem d3_3_2 : decode prog_66_method_8_code 2 = .ok (.iload_n 2, 1) := by decide +kernel
theorem d3_3_3 : decode prog_66_method_8_code 3 = .ok (.aload_n 0, 1) := by decide +kernel
theorem d3_3_4 : decode prog_66_method_8_code 4 = .ok (.getfield 21, 3) := by decide +kernel
theorem d3_3_7 : decode prog_66_method_8_code 7 = .ok (.if_icmp .ge 21, 3) := by decide +kernel
theorem d3_3_10 : decode prog_66_method_8_code 10 = .ok (.aload_n 0, 1) := by decide +kernel
theorem d3_3_11 : decode prog_66_method_8_code 11 = .ok (.getfield 18, 3) := by decide +kernel
theorem d3_3_14 : decode prog_66_method_8_code 14 = .ok (.iload_n 2, 1) := by decide +kernel
theorem d3_3_15 : decode prog_66_method_8_code 15 = .ok (.iaload, 1) := by decide +kernel
theorem d3_3_16 : decode prog_66_method_8_code 16 = .ok (.iload_n 1, 1) := by decide +kernel
theorem d3_3_17 : decode prog_66_method_8_code 17 = .ok (.if_icmp .ne 5, 3) := by decide +kernel
theorem d3_3_20 : decode prog_66_method_8_code 20 = .ok (.iconst 1, 1) := by decide +kernel
theorem d3_3_21 : decode prog_66_method_8_code 21 = .ok (.ireturn, 1) := by decide +kernel
theorem d3_3_22 : decode prog_66_method_8_code 22 = .ok (.iinc 2 1, 3) := by decide +kernel
theorem d3_3_25 : decode prog_66_method_8_code 25 = .ok (.goto (-23), 3) := by decide +kernel
theorem d3_3_28 : decode prog_66_method_8_code 28 = .ok (.iconst 0, 1) := by decide +kernel
theorem d3_3_29 : decode prog_66_method_8_code 29 = .ok (.ireturn, 1) := by decide +kernel
theorem ef_3_3 (m : MethodId) (x0 : Addr) (x1 : Int32) : entryFrame m #[(.ref x0), (.int x1)] 3 = mkF m 0 #[.val (.ref x0), .val (.int x1), .unset] [] := by first | (simp [entryFrame, mkF, argsToLocals, Value.category]; done) | rfl
def Q3_3 (Z : State) (a1 d1 : Addr) (k1 : ClassId) (x1 x2 x3 p2 r : Int32) (h0 : Heap) (n0 : Nat) (v : Option Value) (h : Heap) (L : List Loc) : Prop := v = some (.int r) ∧ Fr n0 L ∧ h = h0
set_option maxRecDepth 65536 in
set_option maxHeartbeats 40000000 in
theorem rm3_3 (l : Launch) (Z : State) (a0 : Array Value) (hw : ∀ d ∈ tables_1, d.before a0 Z = true) (ws : List Jvm.Cond) (a1 d1 : Addr) (k1 : ClassId) (x1 x2 x3 p2 r : Int32) (h0 : Heap) (n0 : Nat) (Z0 : n0 ≤ h0.size) (F1 : Fld Z h0 a1 "org/stowage/format/IntList" "values" "[I" (.ref d1)) (F2 : Fld Z h0 a1 "org/stowage/format/IntList" "size" "I" (.int (3 : Int32))) (V1 : Arv Z h0 d1 k1 .int (3 : Int32) [(.int x1), (.int x2), (.int x3)] (.int (0 : Int32))) (hr : (if x1 = p2 ∨ x2 = p2 ∨ x3 = p2 then (1 : Int32) else 0) = r) :
    MetFree l (⟨"org/stowage/format/IntList", "contains", "(I)Z"⟩ : MethodName) (head1 (Jvm.Cond.code (⟨"org/stowage/format/IntList", "contains", "(I)Z"⟩ : MethodName) prog_66_method_8_code 3 (some .boolean) :: ws) ({ frames := 0, cells := 0, slots := 0, locals := 0 } : Room)) (fun a U => a = #[(.ref a1), (.int p2)] ∧ Z.Warmed39 U.vm ∧ U.heap = h0) (fun _ _ _ _ _ => True) (fun _ U o U' => ∃ v L, o = .returned v ∧ Q3_3 Z a1 d1 k1 x1 x2 x3 p2 r h0 n0 v U'.heap L ∧ FrameEnd U o U' L ({ frames := 0, cells := 0, slots := 0, locals := 0 } : Room).cells ({ frames := 0, cells := 0, slots := 0, locals := 0 } : Room).slots) := by
  refine MetFree.of_bodySF (plainFor_of_name pn_org_stowage_format_IntList) hisR ?_
  intro p e s m args below meth c s₁ Bd hml0 hP hK
  obtain ⟨rfl, hZ, hh⟩ := hP
  have hx := Bd.exec
  have hby := Bd.bytes
  have hlk : meth.locks = false := BodyLoose.notSynchronized Bd
  have hml : c.maxLocals = 3 := hml0
  have hown : s.vm.findClass "org/stowage/format/IntList" = some m.cls := findClass_of_methodNamed Bd.named
  have hnm := (name_of_methodNamed Bd.named Bd.method).1
  have X0 : Stand p l e ({ frames := 0, cells := 0, slots := 0, locals := 0 } : Room) s m #[(.ref a1), (.int p2)] below meth c s₁ [] 0 0 := Stand.of_body Bd
  have e0 : s₁.heap = h0 := by rw [← hh, Bd.state]; rfl
  have N0 := Fr.nil n0
  show own_G p.tables e below s (Q3_3 Z a1 d1 k1 x1 x2 x3 p2 r h0 n0) ({ frames := 0, cells := 0, slots := 0, locals := 0 } : Room).cells ({ frames := 0, cells := 0, slots := 0, locals := 0 } : Room).slots (s₁.setTop (entryFrame m #[(.ref a1), (.int p2)] 3))
  refine own_go (fun t k => castTop (ef_3_3 m a1 p2) k) ?_
  show own_G p.tables e below s _ _ _ (s₁.setTop (mkF m 0 #[.val (.ref a1), .val (.int p2), .unset] []))
  refine own_go (fun t k => XS.iconst X0.here hx rfl (hb hby d3_3_0) k) ?_
  show own_G p.tables e below s _ _ _ (s₁.setTop (mkF m 1 #[.val (.ref a1), .val (.int p2), .unset] [(.int (0 : Int32))]))
  refine own_go (fun t k => XS.istoreN X0.here hx rfl (hb hby d3_3_1) rfl (l' := #[.val (.ref a1), .val (.int p2), .val (.int (0 : Int32))]) rfl k) ?_
  show own_G p.tables e below s _ _ _ (s₁.setTop (mkF m 2 #[.val (.ref a1), .val (.int p2), .val (.int (0 : Int32))] []))
  refine own_go (fun t k => XS.iloadN X0.here hx rfl (hb hby d3_3_2) rfl k) ?_
  show own_G p.tables e below s _ _ _ (s₁.setTop (mkF m 3 #[.val (.ref a1), .val (.int p2), .val (.int (0 : Int32))] [(.int (0 : Int32))]))
  refine own_go (fun t k => XS.aloadN X0.here hx rfl (hb hby d3_3_3) rfl rfl k) ?_
  show own_G p.tables e below s _ _ _ (s₁.setTop (mkF m 4 #[.val (.ref a1), .val (.int p2), .val (.int (0 : Int32))] [(.ref a1), (.int (0 : Int32))]))
  obtain ⟨T56, X56, e56, st56⟩ := getF X0 hx hZ hown (host := "") (Or.inl (hw _ (List.mem_of_getElem? (i := 21) rfl))) Via.refl e0 F2 (g := (mkF m 4 #[.val (.ref a1), .val (.int p2), .val (.int (0 : Int32))] [(.ref a1), (.int (0 : Int32))])) rfl rfl (hb hby d3_3_4)
  refine own_go st56 ?_
  show own_G p.tables e below s _ _ _ (T56.setTop (mkF m 7 #[.val (.ref a1), .val (.int p2), .val (.int (0 : Int32))] [(.int (3 : Int32)), (.int (0 : Int32))]))
  refine own_go (fun t k => XS.icmpNo X56.here hx rfl (hb hby d3_3_7) rfl (by decide) k) ?_
  show own_G p.tables e below s _ _ _ (T56.setTop (mkF m 10 #[.val (.ref a1), .val (.int p2), .val (.int (0 : Int32))] []))
  refine own_go (fun t k => XS.aloadN X56.here hx rfl (hb hby d3_3_10) rfl rfl k) ?_
  show own_G p.tables e below s _ _ _ (T56.setTop (mkF m 11 #[.val (.ref a1), .val (.int p2), .val (.int (0 : Int32))] [(.ref a1)]))
  obtain ⟨T57, X57, e57, st57⟩ := getF X56 hx hZ hown (host := "") (Or.inl (hw _ (List.mem_of_getElem? (i := 19) rfl))) Via.refl e56 F1 (g := (mkF m 11 #[.val (.ref a1), .val (.int p2), .val (.int (0 : Int32))] [(.ref a1)])) rfl rfl (hb hby d3_3_11)
  refine own_go st57 ?_
  show own_G p.tables e below s _ _ _ (T57.setTop (mkF m 14 #[.val (.ref a1), .val (.int p2), .val (.int (0 : Int32))] [(.ref d1)]))
  refine own_go (fun t k => XS.iloadN X57.here hx rfl (hb hby d3_3_14) rfl k) ?_
  show own_G p.tables e below s _ _ _ (T57.setTop (mkF m 15 #[.val (.ref a1), .val (.int p2), .val (.int (0 : Int32))] [(.int (0 : Int32)), (.ref d1)]))
  obtain ⟨cl58, Ar58, q58, S58, NN58, HH58, GG58⟩ := id V1
  have hin58 : ¬ ((0 : Int32) < 0 ∨ cl58.slots.size ≤ ((0 : Int32)).toNatClampNeg) := inb_of S58 ⟨by decide, by decide⟩
  have hat58 : cl58.slots[((0 : Int32)).toNatClampNeg]? = some (.int x1) := Has.at HH58 hin58 rfl
  refine own_go (fun t k => X57.iaload hx (j := (0 : Int32)) (v := (.int x1)) (by rw [e57]; exact Ar58.1) (State.isArrayOf_alike hZ.alike Ar58.2.1) Ar58.2.2 hin58 hat58 (g := (mkF m 15 #[.val (.ref a1), .val (.int p2), .val (.int (0 : Int32))] [(.int (0 : Int32)), (.ref d1)])) rfl rfl (hb hby d3_3_15) _ k) ?_
  show own_G p.tables e below s _ _ _ (T57.setTop (mkF m 16 #[.val (.ref a1), .val (.int p2), .val (.int (0 : Int32))] [(.int x1)]))
  refine own_go (fun t k => XS.iloadN X57.here hx rfl (hb hby d3_3_16) rfl k) ?_
  show own_G p.tables e below s _ _ _ (T57.setTop (mkF m 17 #[.val (.ref a1), .val (.int p2), .val (.int (0 : Int32))] [(.int p2), (.int x1)]))
  by_cases hn0 : x1 = p2
  · refine own_go (fun t k => XS.icmpNo X57.here hx rfl (hb hby d3_3_17) rfl (Jvm.Free.XT.ii_ne_f hn0) k) ?_
    show own_G p.tables e below s _ _ _ (T57.setTop (mkF m 20 #[.val (.ref a1), .val (.int p2), .val (.int (0 : Int32))] []))
    refine own_go (fun t k => XS.iconst X57.here hx rfl (hb hby d3_3_20) k) ?_
    show own_G p.tables e below s _ _ _ (T57.setTop (mkF m 21 #[.val (.ref a1), .val (.int p2), .val (.int (0 : Int32))] [(.int (1 : Int32))]))
    exact own_retN X57 hx hlk (t := .boolean) (z' := (1 : Int32)) Bd.returns (by simp) (hb hby d3_3_21) (rfl) (by rw [e57]; exact ⟨by rw [← hr, if_pos (Or.inl hn0)], N0, rfl⟩) (by decide) (by decide)
  · refine own_go (fun t k => XS.icmpYes X57.here hx rfl (pc0 := 17) (pc' := 22) rfl (hb hby d3_3_17) rfl (Jvm.Free.XT.ii_ne_t hn0) (by decide) (by decide) k) ?_
    show own_G p.tables e below s _ _ _ (T57.setTop (mkF m 22 #[.val (.ref a1), .val (.int p2), .val (.int (0 : Int32))] []))
    refine own_go (fun t k => XS.iinc X57.here hx rfl (hb hby d3_3_22) rfl (l' := #[.val (.ref a1), .val (.int p2), .val (.int (1 : Int32))]) rfl k) ?_
    show own_G p.tables e below s _ _ _ (T57.setTop (mkF m 25 #[.val (.ref a1), .val (.int p2), .val (.int (1 : Int32))] []))
    refine own_go (fun t k => XS.goto X57.here hx rfl (pc0 := 25) (pc' := 2) rfl (hb hby d3_3_25) (by decide) (by decide) k) ?_
    show own_G p.tables e below s _ _ _ (T57.setTop (mkF m 2 #[.val (.ref a1), .val (.int p2), .val (.int (1 : Int32))] []))
    refine own_go (fun t k => XS.iloadN X57.here hx rfl (hb hby d3_3_2) rfl k) ?_
    show own_G p.tables e below s _ _ _ (T57.setTop (mkF m 3 #[.val (.ref a1), .val (.int p2), .val (.int (1 : Int32))] [(.int (1 : Int32))]))
    refine own_go (fun t k => XS.aloadN X57.here hx rfl (hb hby d3_3_3) rfl rfl k) ?_
    show own_G p.tables e below s _ _ _ (T57.setTop (mkF m 4 #[.val (.ref a1), .val (.int p2), .val (.int (1 : Int32))] [(.ref a1), (.int (1 : Int32))]))
    obtain ⟨T59, X59, e59, st59⟩ := getF X57 hx hZ hown (host := "") (Or.inl (hw _ (List.mem_of_getElem? (i := 21) rfl))) Via.refl e57 F2 (g := (mkF m 4 #[.val (.ref a1), .val (.int p2), .val (.int (1 : Int32))] [(.ref a1), (.int (1 : Int32))])) rfl rfl (hb hby d3_3_4)
    refine own_go st59 ?_
    show own_G p.tables e below s _ _ _ (T59.setTop (mkF m 7 #[.val (.ref a1), .val (.int p2), .val (.int (1 : Int32))] [(.int (3 : Int32)), (.int (1 : Int32))]))
    refine own_go (fun t k => XS.icmpNo X59.here hx rfl (hb hby d3_3_7) rfl (by decide) k) ?_
    show own_G p.tables e below s _ _ _ (T59.setTop (mkF m 10 #[.val (.ref a1), .val (.int p2), .val (.int (1 : Int32))] []))
    refine own_go (fun t k => XS.aloadN X59.here hx rfl (hb hby d3_3_10) rfl rfl k) ?_
    show own_G p.tables e below s _ _ _ (T59.setTop (mkF m 11 #[.val (.ref a1), .val (.int p2), .val (.int (1 : Int32))] [(.ref a1)]))
    obtain ⟨T60, X60, e60, st60⟩ := getF X59 hx hZ hown (host := "") (Or.inl (hw _ (List.mem_of_getElem? (i := 19) rfl))) Via.refl e59 F1 (g := (mkF m 11 #[.val (.ref a1), .val (.int p2), .val (.int (1 : Int32))] [(.ref a1)])) rfl rfl (hb hby d3_3_11)
    refine own_go st60 ?_
    show own_G p.tables e below s _ _ _ (T60.setTop (mkF m 14 #[.val (.ref a1), .val (.int p2), .val (.int (1 : Int32))] [(.ref d1)]))
    refine own_go (fun t k => XS.iloadN X60.here hx rfl (hb hby d3_3_14) rfl k) ?_
    show own_G p.tables e below s _ _ _ (T60.setTop (mkF m 15 #[.val (.ref a1), .val (.int p2), .val (.int (1 : Int32))] [(.int (1 : Int32)), (.ref d1)]))
    obtain ⟨cl61, Ar61, q61, S61, NN61, HH61, GG61⟩ := id V1
    have hin61 : ¬ ((1 : Int32) < 0 ∨ cl61.slots.size ≤ ((1 : Int32)).toNatClampNeg) := inb_of S61 ⟨by decide, by decide⟩
    have hat61 : cl61.slots[((1 : Int32)).toNatClampNeg]? = some (.int x2) := Has.at HH61 hin61 rfl
    refine own_go (fun t k => X60.iaload hx (j := (1 : Int32)) (v := (.int x2)) (by rw [e60]; exact Ar61.1) (State.isArrayOf_alike hZ.alike Ar61.2.1) Ar61.2.2 hin61 hat61 (g := (mkF m 15 #[.val (.ref a1), .val (.int p2), .val (.int (1 : Int32))] [(.int (1 : Int32)), (.ref d1)])) rfl rfl (hb hby d3_3_15) _ k) ?_
    show own_G p.tables e below s _ _ _ (T60.setTop (mkF m 16 #[.val (.ref a1), .val (.int p2), .val (.int (1 : Int32))] [(.int x2)]))
    refine own_go (fun t k => XS.iloadN X60.here hx rfl (hb hby d3_3_16) rfl k) ?_
    show own_G p.tables e below s _ _ _ (T60.setTop (mkF m 17 #[.val (.ref a1), .val (.int p2), .val (.int (1 : Int32))] [(.int p2), (.int x2)]))
    by_cases hn1 : x2 = p2
    · refine own_go (fun t k => XS.icmpNo X60.here hx rfl (hb hby d3_3_17) rfl (Jvm.Free.XT.ii_ne_f hn1) k) ?_
      show own_G p.tables e below s _ _ _ (T60.setTop (mkF m 20 #[.val (.ref a1), .val (.int p2), .val (.int (1 : Int32))] []))
      refine own_go (fun t k => XS.iconst X60.here hx rfl (hb hby d3_3_20) k) ?_
      show own_G p.tables e below s _ _ _ (T60.setTop (mkF m 21 #[.val (.ref a1), .val (.int p2), .val (.int (1 : Int32))] [(.int (1 : Int32))]))
      exact own_retN X60 hx hlk (t := .boolean) (z' := (1 : Int32)) Bd.returns (by simp) (hb hby d3_3_21) (rfl) (by rw [e60]; exact ⟨by rw [← hr, if_pos (Or.inr (Or.inl hn1))], N0, rfl⟩) (by decide) (by decide)
    · refine own_go (fun t k => XS.icmpYes X60.here hx rfl (pc0 := 17) (pc' := 22) rfl (hb hby d3_3_17) rfl (Jvm.Free.XT.ii_ne_t hn1) (by decide) (by decide) k) ?_
      show own_G p.tables e below s _ _ _ (T60.setTop (mkF m 22 #[.val (.ref a1), .val (.int p2), .val (.int (1 : Int32))] []))
      refine own_go (fun t k => XS.iinc X60.here hx rfl (hb hby d3_3_22) rfl (l' := #[.val (.ref a1), .val (.int p2), .val (.int (2 : Int32))]) rfl k) ?_
      show own_G p.tables e below s _ _ _ (T60.setTop (mkF m 25 #[.val (.ref a1), .val (.int p2), .val (.int (2 : Int32))] []))
      refine own_go (fun t k => XS.goto X60.here hx rfl (pc0 := 25) (pc' := 2) rfl (hb hby d3_3_25) (by decide) (by decide) k) ?_
      show own_G p.tables e below s _ _ _ (T60.setTop (mkF m 2 #[.val (.ref a1), .val (.int p2), .val (.int (2 : Int32))] []))
      refine own_go (fun t k => XS.iloadN X60.here hx rfl (hb hby d3_3_2) rfl k) ?_
      show own_G p.tables e below s _ _ _ (T60.setTop (mkF m 3 #[.val (.ref a1), .val (.int p2), .val (.int (2 : Int32))] [(.int (2 : Int32))]))
      refine own_go (fun t k => XS.aloadN X60.here hx rfl (hb hby d3_3_3) rfl rfl k) ?_
      show own_G p.tables e below s _ _ _ (T60.setTop (mkF m 4 #[.val (.ref a1), .val (.int p2), .val (.int (2 : Int32))] [(.ref a1), (.int (2 : Int32))]))
      obtain ⟨T62, X62, e62, st62⟩ := getF X60 hx hZ hown (host := "") (Or.inl (hw _ (List.mem_of_getElem? (i := 21) rfl))) Via.refl e60 F2 (g := (mkF m 4 #[.val (.ref a1), .val (.int p2), .val (.int (2 : Int32))] [(.ref a1), (.int (2 : Int32))])) rfl rfl (hb hby d3_3_4)
      refine own_go st62 ?_
      show own_G p.tables e below s _ _ _ (T62.setTop (mkF m 7 #[.val (.ref a1), .val (.int p2), .val (.int (2 : Int32))] [(.int (3 : Int32)), (.int (2 : Int32))]))
      refine own_go (fun t k => XS.icmpNo X62.here hx rfl (hb hby d3_3_7) rfl (by decide) k) ?_
      show own_G p.tables e below s _ _ _ (T62.setTop (mkF m 10 #[.val (.ref a1), .val (.int p2), .val (.int (2 : Int32))] []))
      refine own_go (fun t k => XS.aloadN X62.here hx rfl (hb hby d3_3_10) rfl rfl k) ?_
      show own_G p.tables e below s _ _ _ (T62.setTop (mkF m 11 #[.val (.ref a1), .val (.int p2), .val (.int (2 : Int32))] [(.ref a1)]))
      obtain ⟨T63, X63, e63, st63⟩ := getF X62 hx hZ hown (host := "") (Or.inl (hw _ (List.mem_of_getElem? (i := 19) rfl))) Via.refl e62 F1 (g := (mkF m 11 #[.val (.ref a1), .val (.int p2), .val (.int (2 : Int32))] [(.ref a1)])) rfl rfl (hb hby d3_3_11)
      refine own_go st63 ?_
      show own_G p.tables e below s _ _ _ (T63.setTop (mkF m 14 #[.val (.ref a1), .val (.int p2), .val (.int (2 : Int32))] [(.ref d1)]))
      refine own_go (fun t k => XS.iloadN X63.here hx rfl (hb hby d3_3_14) rfl k) ?_
      show own_G p.tables e below s _ _ _ (T63.setTop (mkF m 15 #[.val (.ref a1), .val (.int p2), .val (.int (2 : Int32))] [(.int (2 : Int32)), (.ref d1)]))
      obtain ⟨cl64, Ar64, q64, S64, NN64, HH64, GG64⟩ := id V1
      have hin64 : ¬ ((2 : Int32) < 0 ∨ cl64.slots.size ≤ ((2 : Int32)).toNatClampNeg) := inb_of S64 ⟨by decide, by decide⟩
      have hat64 : cl64.slots[((2 : Int32)).toNatClampNeg]? = some (.int x3) := Has.at HH64 hin64 rfl
      refine own_go (fun t k => X63.iaload hx (j := (2 : Int32)) (v := (.int x3)) (by rw [e63]; exact Ar64.1) (State.isArrayOf_alike hZ.alike Ar64.2.1) Ar64.2.2 hin64 hat64 (g := (mkF m 15 #[.val (.ref a1), .val (.int p2), .val (.int (2 : Int32))] [(.int (2 : Int32)), (.ref d1)])) rfl rfl (hb hby d3_3_15) _ k) ?_
      show own_G p.tables e below s _ _ _ (T63.setTop (mkF m 16 #[.val (.ref a1), .val (.int p2), .val (.int (2 : Int32))] [(.int x3)]))
      refine own_go (fun t k => XS.iloadN X63.here hx rfl (hb hby d3_3_16) rfl k) ?_
      show own_G p.tables e below s _ _ _ (T63.setTop (mkF m 17 #[.val (.ref a1), .val (.int p2), .val (.int (2 : Int32))] [(.int p2), (.int x3)]))
      by_cases hn2 : x3 = p2
      · refine own_go (fun t k => XS.icmpNo X63.here hx rfl (hb hby d3_3_17) rfl (Jvm.Free.XT.ii_ne_f hn2) k) ?_
        show own_G p.tables e below s _ _ _ (T63.setTop (mkF m 20 #[.val (.ref a1), .val (.int p2), .val (.int (2 : Int32))] []))
        refine own_go (fun t k => XS.iconst X63.here hx rfl (hb hby d3_3_20) k) ?_
        show own_G p.tables e below s _ _ _ (T63.setTop (mkF m 21 #[.val (.ref a1), .val (.int p2), .val (.int (2 : Int32))] [(.int (1 : Int32))]))
        exact own_retN X63 hx hlk (t := .boolean) (z' := (1 : Int32)) Bd.returns (by simp) (hb hby d3_3_21) (rfl) (by rw [e63]; exact ⟨by rw [← hr, if_pos (Or.inr (Or.inr (hn2)))], N0, rfl⟩) (by decide) (by decide)
      · refine own_go (fun t k => XS.icmpYes X63.here hx rfl (pc0 := 17) (pc' := 22) rfl (hb hby d3_3_17) rfl (Jvm.Free.XT.ii_ne_t hn2) (by decide) (by decide) k) ?_
        show own_G p.tables e below s _ _ _ (T63.setTop (mkF m 22 #[.val (.ref a1), .val (.int p2), .val (.int (2 : Int32))] []))
        refine own_go (fun t k => XS.iinc X63.here hx rfl (hb hby d3_3_22) rfl (l' := #[.val (.ref a1), .val (.int p2), .val (.int (3 : Int32))]) rfl k) ?_
        show own_G p.tables e below s _ _ _ (T63.setTop (mkF m 25 #[.val (.ref a1), .val (.int p2), .val (.int (3 : Int32))] []))
        refine own_go (fun t k => XS.goto X63.here hx rfl (pc0 := 25) (pc' := 2) rfl (hb hby d3_3_25) (by decide) (by decide) k) ?_
        show own_G p.tables e below s _ _ _ (T63.setTop (mkF m 2 #[.val (.ref a1), .val (.int p2), .val (.int (3 : Int32))] []))
        refine own_go (fun t k => XS.iloadN X63.here hx rfl (hb hby d3_3_2) rfl k) ?_
        show own_G p.tables e below s _ _ _ (T63.setTop (mkF m 3 #[.val (.ref a1), .val (.int p2), .val (.int (3 : Int32))] [(.int (3 : Int32))]))
        refine own_go (fun t k => XS.aloadN X63.here hx rfl (hb hby d3_3_3) rfl rfl k) ?_
        show own_G p.tables e below s _ _ _ (T63.setTop (mkF m 4 #[.val (.ref a1), .val (.int p2), .val (.int (3 : Int32))] [(.ref a1), (.int (3 : Int32))]))
        obtain ⟨T65, X65, e65, st65⟩ := getF X63 hx hZ hown (host := "") (Or.inl (hw _ (List.mem_of_getElem? (i := 21) rfl))) Via.refl e63 F2 (g := (mkF m 4 #[.val (.ref a1), .val (.int p2), .val (.int (3 : Int32))] [(.ref a1), (.int (3 : Int32))])) rfl rfl (hb hby d3_3_4)
        refine own_go st65 ?_
        show own_G p.tables e below s _ _ _ (T65.setTop (mkF m 7 #[.val (.ref a1), .val (.int p2), .val (.int (3 : Int32))] [(.int (3 : Int32)), (.int (3 : Int32))]))
        refine own_go (fun t k => XS.icmpYes X65.here hx rfl (pc0 := 7) (pc' := 28) rfl (hb hby d3_3_7) rfl (by decide) (by decide) (by decide) k) ?_
        show own_G p.tables e below s _ _ _ (T65.setTop (mkF m 28 #[.val (.ref a1), .val (.int p2), .val (.int (3 : Int32))] []))
        refine own_go (fun t k => XS.iconst X65.here hx rfl (hb hby d3_3_28) k) ?_
        show own_G p.tables e below s _ _ _ (T65.setTop (mkF m 29 #[.val (.ref a1), .val (.int p2), .val (.int (3 : Int32))] [(.int (0 : Int32))]))
        exact own_retN X65 hx hlk (t := .boolean) (z' := (0 : Int32)) Bd.returns (by simp) (hb hby d3_3_29) (rfl) (by rw [e65]; exact ⟨by rw [← hr, if_neg (fun q => q.elim hn0 (fun q => q.elim hn1 hn2))], N0, rfl⟩) (by decide) (by decide)
theorem pd___I_V : parseMethodDescriptor "([I)V" = some ⟨[(.array .int)], none⟩ := by decide +kernel
theorem pd__I_V : parseMethodDescriptor "(I)V" = some ⟨[.int], none⟩ := by decide +kernel
theorem pd__I_Z : parseMethodDescriptor "(I)Z" = some ⟨[.int], some .boolean⟩ := by decide +kernel
theorem pn_org_stowage_format_IntListContainsPinLaw : plainName "org/stowage/format/IntListContainsPinLaw" = true := by first | (simp [plainName, overriddenIn]; done) | decide +kernel
theorem ef_0 (m : MethodId) (x0 : Int32) (x1 : Int32) (x2 : Int32) (x3 : Int32) (x4 : Int32) : entryFrame m #[(.int x0), (.int x1), (.int x2), (.int x3), (.int x4)] maxLocals = mkF m 0 #[.val (.int x0), .val (.int x1), .val (.int x2), .val (.int x3), .val (.int x4), .unset, .unset, .unset, .unset, .unset] [] := by first | (simp [entryFrame, mkF, argsToLocals, Value.category, maxLocals]; done) | rfl
def Q0 (Z : State) (x1 x2 x3 p4 p5 : Int32) (h0 : Heap) (n0 : Nat) (v : Option Value) (h : Heap) (L : List Loc) : Prop := v = some (.int 1) ∧ Fr n0 L
set_option maxRecDepth 65536 in
set_option maxHeartbeats 40000000 in
theorem rm0 (l : Launch) (Z : State) (a0 : Array Value) (hw : ∀ d ∈ tables_1, d.before a0 Z = true) (ws : List Jvm.Cond) (x1 x2 x3 p4 p5 : Int32) (h0 : Heap) (n0 : Nat) (Z0 : n0 ≤ h0.size)  :
    MetFree l x (head1 (Jvm.Cond.code x code maxLocals ret :: ws) room_1) (fun a U => a = #[(.int x1), (.int x2), (.int x3), (.int p4), (.int p5)] ∧ Z.Warmed39 U.vm ∧ U.heap = h0) (fun _ _ _ _ _ => True) (fun _ U o U' => ∃ v L, o = .returned v ∧ Q0 Z x1 x2 x3 p4 p5 h0 n0 v U'.heap L ∧ FrameEnd U o U' L room_1.cells room_1.slots) := by
  refine MetFree.of_bodySF (plainFor_of_name pn_org_stowage_format_IntListContainsPinLaw) hisR ?_
  intro p e s m args below meth c s₁ Bd hml0 hP hK
  obtain ⟨rfl, hZ, hh⟩ := hP
  have hx := Bd.exec
  have hby := Bd.bytes
  have hlk : meth.locks = false := BodyLoose.notSynchronized Bd
  have hml : c.maxLocals = 10 := hml0
  have hown : s.vm.findClass "org/stowage/format/IntListContainsPinLaw" = some m.cls := findClass_of_methodNamed Bd.named
  have hnm := (name_of_methodNamed Bd.named Bd.method).1
  have X0 : Stand p l e room_1 s m #[(.int x1), (.int x2), (.int x3), (.int p4), (.int p5)] below meth c s₁ [] 0 0 := Stand.of_body Bd
  have e0 : s₁.heap = h0 := by rw [← hh, Bd.state]; rfl
  have N0 := Fr.nil n0
  show own_G p.tables e below s (Q0 Z x1 x2 x3 p4 p5 h0 n0) room_1.cells room_1.slots (s₁.setTop (entryFrame m #[(.int x1), (.int x2), (.int x3), (.int p4), (.int p5)] maxLocals))
  refine own_go (fun t k => castTop (ef_0 m x1 x2 x3 p4 p5) k) ?_
  show own_G p.tables e below s _ _ _ (s₁.setTop (mkF m 0 #[.val (.int x1), .val (.int x2), .val (.int x3), .val (.int p4), .val (.int p5), .unset, .unset, .unset, .unset, .unset] []))
  refine own_go (fun t k => XS.iload X0.here hx rfl (hb hby at_0) rfl k) ?_
  show own_G p.tables e below s _ _ _ (s₁.setTop (mkF m 2 #[.val (.int x1), .val (.int x2), .val (.int x3), .val (.int p4), .val (.int p5), .unset, .unset, .unset, .unset, .unset] [(.int p5)]))
  refine own_go (fun t k => XS.iconst X0.here hx rfl (hb hby at_2) k) ?_
  show own_G p.tables e below s _ _ _ (s₁.setTop (mkF m 3 #[.val (.int x1), .val (.int x2), .val (.int x3), .val (.int p4), .val (.int p5), .unset, .unset, .unset, .unset, .unset] [(.int (3 : Int32)), (.int p5)]))
  refine own_go (fun t k => XS.iand X0.here hx rfl (hb hby at_3) rfl k) ?_
  show own_G p.tables e below s _ _ _ (s₁.setTop (mkF m 4 #[.val (.int x1), .val (.int x2), .val (.int x3), .val (.int p4), .val (.int p5), .unset, .unset, .unset, .unset, .unset] [(.int (p5 &&& (3 : Int32)))]))
  obtain ⟨tt, ht⟩ : ∃ z, (p5 &&& (3 : Int32)) = z := ⟨_, rfl⟩
  rw [ht]
  show own_G p.tables e below s _ _ _ (s₁.setTop (mkF m 4 #[.val (.int x1), .val (.int x2), .val (.int x3), .val (.int p4), .val (.int p5), .unset, .unset, .unset, .unset, .unset] [(.int tt)]))
  have h4 := own_four p5
  rw [ht] at h4
  clear ht
  refine own_go (fun t k => XS.istore X0.here hx rfl (hb hby at_4) rfl (l' := #[.val (.int x1), .val (.int x2), .val (.int x3), .val (.int p4), .val (.int p5), .val (.int tt), .unset, .unset, .unset, .unset]) rfl k) ?_
  show own_G p.tables e below s _ _ _ (s₁.setTop (mkF m 6 #[.val (.int x1), .val (.int x2), .val (.int x3), .val (.int p4), .val (.int p5), .val (.int tt), .unset, .unset, .unset, .unset] []))
  refine own_go (fun t k => XS.iload X0.here hx rfl (hb hby at_6) rfl k) ?_
  show own_G p.tables e below s _ _ _ (s₁.setTop (mkF m 8 #[.val (.int x1), .val (.int x2), .val (.int x3), .val (.int p4), .val (.int p5), .val (.int tt), .unset, .unset, .unset, .unset] [(.int p5)]))
  refine own_go (fun t k => XS.iconst X0.here hx rfl (hb hby at_8) k) ?_
  show own_G p.tables e below s _ _ _ (s₁.setTop (mkF m 9 #[.val (.int x1), .val (.int x2), .val (.int x3), .val (.int p4), .val (.int p5), .val (.int tt), .unset, .unset, .unset, .unset] [(.int (2 : Int32)), (.int p5)]))
  refine own_go (fun t k => XS.iushr X0.here hx rfl (hb hby at_9) rfl k) ?_
  show own_G p.tables e below s _ _ _ (s₁.setTop (mkF m 10 #[.val (.int x1), .val (.int x2), .val (.int x3), .val (.int p4), .val (.int p5), .val (.int tt), .unset, .unset, .unset, .unset] [(.int ((p5.toUInt32 >>> ((2 : Int32) &&& 31).toUInt32).toInt32))]))
  refine own_go (fun t k => XS.iconst X0.here hx rfl (hb hby at_10) k) ?_
  show own_G p.tables e below s _ _ _ (s₁.setTop (mkF m 11 #[.val (.int x1), .val (.int x2), .val (.int x3), .val (.int p4), .val (.int p5), .val (.int tt), .unset, .unset, .unset, .unset] [(.int (3 : Int32)), (.int ((p5.toUInt32 >>> ((2 : Int32) &&& 31).toUInt32).toInt32))]))
  refine own_go (fun t k => XS.iand X0.here hx rfl (hb hby at_11) rfl k) ?_
  show own_G p.tables e below s _ _ _ (s₁.setTop (mkF m 12 #[.val (.int x1), .val (.int x2), .val (.int x3), .val (.int p4), .val (.int p5), .val (.int tt), .unset, .unset, .unset, .unset] [(.int (((p5.toUInt32 >>> ((2 : Int32) &&& 31).toUInt32).toInt32) &&& (3 : Int32)))]))
  obtain ⟨mm, hm⟩ : ∃ z, (((p5.toUInt32 >>> ((2 : Int32) &&& 31).toUInt32).toInt32) &&& (3 : Int32)) = z := ⟨_, rfl⟩
  rw [hm]
  show own_G p.tables e below s _ _ _ (s₁.setTop (mkF m 12 #[.val (.int x1), .val (.int x2), .val (.int x3), .val (.int p4), .val (.int p5), .val (.int tt), .unset, .unset, .unset, .unset] [(.int mm)]))
  refine own_go (fun t k => XS.istore X0.here hx rfl (hb hby at_12) rfl (l' := #[.val (.int x1), .val (.int x2), .val (.int x3), .val (.int p4), .val (.int p5), .val (.int tt), .val (.int mm), .unset, .unset, .unset]) rfl k) ?_
  show own_G p.tables e below s _ _ _ (s₁.setTop (mkF m 14 #[.val (.int x1), .val (.int x2), .val (.int x3), .val (.int p4), .val (.int p5), .val (.int tt), .val (.int mm), .unset, .unset, .unset] []))
  refine own_go (fun t k => XS.iload X0.here hx rfl (hb hby at_14) rfl k) ?_
  show own_G p.tables e below s _ _ _ (s₁.setTop (mkF m 16 #[.val (.int x1), .val (.int x2), .val (.int x3), .val (.int p4), .val (.int p5), .val (.int tt), .val (.int mm), .unset, .unset, .unset] [(.int mm)]))
  obtain ⟨pr, hpr⟩ : ∃ z : Int32, (if mm = (0 : Int32) then p4 else if mm = (1 : Int32) then x1 else if mm = (2 : Int32) then x2 else x3) = z := ⟨_, rfl⟩
  refine own_go (A := (s₁.setTop (mkF m 52 #[.val (.int x1), .val (.int x2), .val (.int x3), .val (.int p4), .val (.int p5), .val (.int tt), .val (.int mm), .val (.int pr), .unset, .unset] []))) (fun t k => ?_) ?_
  · show Steps p.tables e below (s₁.setTop (mkF m 16 #[.val (.int x1), .val (.int x2), .val (.int x3), .val (.int p4), .val (.int p5), .val (.int tt), .val (.int mm), .unset, .unset, .unset] [(.int mm)])) _
    by_cases q0 : mm = (0 : Int32)
    · refine XS.ifNo X0.here hx rfl (hb hby at_16) rfl (Jvm.Free.XT.i0_ne_f q0) ?_
      show Steps p.tables e below (s₁.setTop (mkF m 19 #[.val (.int x1), .val (.int x2), .val (.int x3), .val (.int p4), .val (.int p5), .val (.int tt), .val (.int mm), .unset, .unset, .unset] [])) _
      refine XS.iloadN X0.here hx rfl (hb hby at_19) rfl ?_
      show Steps p.tables e below (s₁.setTop (mkF m 20 #[.val (.int x1), .val (.int x2), .val (.int x3), .val (.int p4), .val (.int p5), .val (.int tt), .val (.int mm), .unset, .unset, .unset] [(.int p4)])) _
      refine XS.istore X0.here hx rfl (hb hby at_20) rfl (l' := #[.val (.int x1), .val (.int x2), .val (.int x3), .val (.int p4), .val (.int p5), .val (.int tt), .val (.int mm), .val (.int p4), .unset, .unset]) rfl ?_
      show Steps p.tables e below (s₁.setTop (mkF m 22 #[.val (.int x1), .val (.int x2), .val (.int x3), .val (.int p4), .val (.int p5), .val (.int tt), .val (.int mm), .val (.int p4), .unset, .unset] [])) _
      refine XS.goto X0.here hx rfl (pc0 := 22) (pc' := 52) rfl (hb hby at_22) (by decide) (by decide) ?_
      show Steps p.tables e below (s₁.setTop (mkF m 52 #[.val (.int x1), .val (.int x2), .val (.int x3), .val (.int p4), .val (.int p5), .val (.int tt), .val (.int mm), .val (.int p4), .unset, .unset] [])) _
      rw [← hpr, if_pos q0] at k
      exact k
    · refine XS.ifYes X0.here hx rfl (pc0 := 16) (pc' := 25) rfl (hb hby at_16) rfl (Jvm.Free.XT.i0_ne_t q0) (by decide) (by decide) ?_
      show Steps p.tables e below (s₁.setTop (mkF m 25 #[.val (.int x1), .val (.int x2), .val (.int x3), .val (.int p4), .val (.int p5), .val (.int tt), .val (.int mm), .unset, .unset, .unset] [])) _
      refine XS.iload X0.here hx rfl (hb hby at_25) rfl ?_
      show Steps p.tables e below (s₁.setTop (mkF m 27 #[.val (.int x1), .val (.int x2), .val (.int x3), .val (.int p4), .val (.int p5), .val (.int tt), .val (.int mm), .unset, .unset, .unset] [(.int mm)])) _
      refine XS.iconst X0.here hx rfl (hb hby at_27) ?_
      show Steps p.tables e below (s₁.setTop (mkF m 28 #[.val (.int x1), .val (.int x2), .val (.int x3), .val (.int p4), .val (.int p5), .val (.int tt), .val (.int mm), .unset, .unset, .unset] [(.int (1 : Int32)), (.int mm)])) _
      by_cases q1 : mm = (1 : Int32)
      · refine XS.icmpNo X0.here hx rfl (hb hby at_28) rfl (Jvm.Free.XT.ii_ne_f q1) ?_
        show Steps p.tables e below (s₁.setTop (mkF m 31 #[.val (.int x1), .val (.int x2), .val (.int x3), .val (.int p4), .val (.int p5), .val (.int tt), .val (.int mm), .unset, .unset, .unset] [])) _
        refine XS.iloadN X0.here hx rfl (hb hby at_31) rfl ?_
        show Steps p.tables e below (s₁.setTop (mkF m 32 #[.val (.int x1), .val (.int x2), .val (.int x3), .val (.int p4), .val (.int p5), .val (.int tt), .val (.int mm), .unset, .unset, .unset] [(.int x1)])) _
        refine XS.istore X0.here hx rfl (hb hby at_32) rfl (l' := #[.val (.int x1), .val (.int x2), .val (.int x3), .val (.int p4), .val (.int p5), .val (.int tt), .val (.int mm), .val (.int x1), .unset, .unset]) rfl ?_
        show Steps p.tables e below (s₁.setTop (mkF m 34 #[.val (.int x1), .val (.int x2), .val (.int x3), .val (.int p4), .val (.int p5), .val (.int tt), .val (.int mm), .val (.int x1), .unset, .unset] [])) _
        refine XS.goto X0.here hx rfl (pc0 := 34) (pc' := 52) rfl (hb hby at_34) (by decide) (by decide) ?_
        show Steps p.tables e below (s₁.setTop (mkF m 52 #[.val (.int x1), .val (.int x2), .val (.int x3), .val (.int p4), .val (.int p5), .val (.int tt), .val (.int mm), .val (.int x1), .unset, .unset] [])) _
        rw [← hpr, if_neg q0, if_pos q1] at k
        exact k
      · refine XS.icmpYes X0.here hx rfl (pc0 := 28) (pc' := 37) rfl (hb hby at_28) rfl (Jvm.Free.XT.ii_ne_t q1) (by decide) (by decide) ?_
        show Steps p.tables e below (s₁.setTop (mkF m 37 #[.val (.int x1), .val (.int x2), .val (.int x3), .val (.int p4), .val (.int p5), .val (.int tt), .val (.int mm), .unset, .unset, .unset] [])) _
        refine XS.iload X0.here hx rfl (hb hby at_37) rfl ?_
        show Steps p.tables e below (s₁.setTop (mkF m 39 #[.val (.int x1), .val (.int x2), .val (.int x3), .val (.int p4), .val (.int p5), .val (.int tt), .val (.int mm), .unset, .unset, .unset] [(.int mm)])) _
        refine XS.iconst X0.here hx rfl (hb hby at_39) ?_
        show Steps p.tables e below (s₁.setTop (mkF m 40 #[.val (.int x1), .val (.int x2), .val (.int x3), .val (.int p4), .val (.int p5), .val (.int tt), .val (.int mm), .unset, .unset, .unset] [(.int (2 : Int32)), (.int mm)])) _
        by_cases q2 : mm = (2 : Int32)
        · refine XS.icmpNo X0.here hx rfl (hb hby at_40) rfl (Jvm.Free.XT.ii_ne_f q2) ?_
          show Steps p.tables e below (s₁.setTop (mkF m 43 #[.val (.int x1), .val (.int x2), .val (.int x3), .val (.int p4), .val (.int p5), .val (.int tt), .val (.int mm), .unset, .unset, .unset] [])) _
          refine XS.iloadN X0.here hx rfl (hb hby at_43) rfl ?_
          show Steps p.tables e below (s₁.setTop (mkF m 44 #[.val (.int x1), .val (.int x2), .val (.int x3), .val (.int p4), .val (.int p5), .val (.int tt), .val (.int mm), .unset, .unset, .unset] [(.int x2)])) _
          refine XS.istore X0.here hx rfl (hb hby at_44) rfl (l' := #[.val (.int x1), .val (.int x2), .val (.int x3), .val (.int p4), .val (.int p5), .val (.int tt), .val (.int mm), .val (.int x2), .unset, .unset]) rfl ?_
          show Steps p.tables e below (s₁.setTop (mkF m 46 #[.val (.int x1), .val (.int x2), .val (.int x3), .val (.int p4), .val (.int p5), .val (.int tt), .val (.int mm), .val (.int x2), .unset, .unset] [])) _
          refine XS.goto X0.here hx rfl (pc0 := 46) (pc' := 52) rfl (hb hby at_46) (by decide) (by decide) ?_
          show Steps p.tables e below (s₁.setTop (mkF m 52 #[.val (.int x1), .val (.int x2), .val (.int x3), .val (.int p4), .val (.int p5), .val (.int tt), .val (.int mm), .val (.int x2), .unset, .unset] [])) _
          rw [← hpr, if_neg q0, if_neg q1, if_pos q2] at k
          exact k
        · refine XS.icmpYes X0.here hx rfl (pc0 := 40) (pc' := 49) rfl (hb hby at_40) rfl (Jvm.Free.XT.ii_ne_t q2) (by decide) (by decide) ?_
          show Steps p.tables e below (s₁.setTop (mkF m 49 #[.val (.int x1), .val (.int x2), .val (.int x3), .val (.int p4), .val (.int p5), .val (.int tt), .val (.int mm), .unset, .unset, .unset] [])) _
          refine XS.iloadN X0.here hx rfl (hb hby at_49) rfl ?_
          show Steps p.tables e below (s₁.setTop (mkF m 50 #[.val (.int x1), .val (.int x2), .val (.int x3), .val (.int p4), .val (.int p5), .val (.int tt), .val (.int mm), .unset, .unset, .unset] [(.int x3)])) _
          refine XS.istore X0.here hx rfl (hb hby at_50) rfl (l' := #[.val (.int x1), .val (.int x2), .val (.int x3), .val (.int p4), .val (.int p5), .val (.int tt), .val (.int mm), .val (.int x3), .unset, .unset]) rfl ?_
          show Steps p.tables e below (s₁.setTop (mkF m 52 #[.val (.int x1), .val (.int x2), .val (.int x3), .val (.int p4), .val (.int p5), .val (.int tt), .val (.int mm), .val (.int x3), .unset, .unset] [])) _
          rw [← hpr, if_neg q0, if_neg q1, if_neg q2] at k
          exact k
  show own_G p.tables e below s _ _ _ (s₁.setTop (mkF m 52 #[.val (.int x1), .val (.int x2), .val (.int x3), .val (.int p4), .val (.int p5), .val (.int tt), .val (.int mm), .val (.int pr), .unset, .unset] []))
  obtain ⟨T66, h66, X66, e66, E66, A66, D66, -, st66⟩ := newO X0 hx hZ hown (hw _ (List.mem_of_getElem? (i := 0) rfl)) (hw _ (List.mem_of_getElem? (i := 1) rfl)) (hw _ (List.mem_of_getElem? (i := 2) rfl)) e0 (g := (mkF m 52 #[.val (.int x1), .val (.int x2), .val (.int x3), .val (.int p4), .val (.int p5), .val (.int tt), .val (.int mm), .val (.int pr), .unset, .unset] [])) rfl (hb hby at_52) (by decide) (by decide)
  obtain ⟨b66, g66⟩ : ∃ z, z = h0.size := ⟨_, rfl⟩
  rw [← g66] at A66 D66 st66
  refine own_go st66 ?_
  have g67 := Nat.le_trans Z0 (Nat.le_of_eq g66.symm)
  have z68 := Nat.le_trans Z0 E66.1
  have f69 : Fld Z h66 b66 "org/stowage/format/IntList" "values" "[I" .null := D66 (Or.inl (hw _ (List.mem_of_getElem? (i := 20) rfl))) (ty := (.array .int)) (by decide)
  have f70 : Fld Z h66 b66 "org/stowage/format/IntList" "size" "I" (.int (0 : Int32)) := D66 (Or.inl (hw _ (List.mem_of_getElem? (i := 22) rfl))) (ty := .int) (by decide)
  show own_G p.tables e below s _ _ _ (T66.setTop (mkF m 55 #[.val (.int x1), .val (.int x2), .val (.int x3), .val (.int p4), .val (.int p5), .val (.int tt), .val (.int mm), .val (.int pr), .unset, .unset] [(.ref b66)]))
  refine own_go (fun t k => XS.dup X66.here hx rfl (hb hby at_55) rfl rfl k) ?_
  show own_G p.tables e below s _ _ _ (T66.setTop (mkF m 56 #[.val (.int x1), .val (.int x2), .val (.int x3), .val (.int p4), .val (.int p5), .val (.int tt), .val (.int mm), .val (.int pr), .unset, .unset] [(.ref b66), (.ref b66)]))
  refine own_go (fun t k => XS.iconst X66.here hx rfl (hb hby at_56) k) ?_
  show own_G p.tables e below s _ _ _ (T66.setTop (mkF m 57 #[.val (.int x1), .val (.int x2), .val (.int x3), .val (.int p4), .val (.int p5), .val (.int tt), .val (.int mm), .val (.int pr), .unset, .unset] [(.int (3 : Int32)), (.ref b66), (.ref b66)]))
  obtain ⟨T71, h71, k71, X71, e71, E71, A71, Y71, st71⟩ := newPE X66 hx hZ (hw _ (List.mem_of_getElem? (i := 3) rfl)) e66 (g := (mkF m 57 #[.val (.int x1), .val (.int x2), .val (.int x3), .val (.int p4), .val (.int p5), .val (.int tt), .val (.int mm), .val (.int pr), .unset, .unset] [(.int (3 : Int32)), (.ref b66), (.ref b66)])) rfl (hb hby at_57) rfl (by decide) (cap := 3) (by decide) (by decide) (by decide) (by decide) (ad := "[I") rfl
  obtain ⟨b71, g71⟩ : ∃ z, z = h66.size := ⟨_, rfl⟩
  rw [← g71] at A71 Y71 st71
  refine own_go st71 ?_
  have g72 := Nat.le_trans z68 (Nat.le_of_eq g71.symm)
  have n73 := Nat.ne_of_lt (Nat.lt_of_lt_of_le A66.lt (Nat.le_of_eq g71.symm))
  have f74 := Exa.ext E71 A66
  have f75 := Fld.ext E71 f69
  have f76 := Fld.ext E71 f70
  have z77 := Nat.le_trans z68 E71.1
  have v78 : Arv Z h71 b71 k71 .int (3 : Int32) [(.int (0 : Int32)), (.int (0 : Int32)), (.int (0 : Int32))] (.int (0 : Int32)) := (Arv.new A71 (by decide)).pad (pad_rep [] (.int (0 : Int32)) 3)
  show own_G p.tables e below s _ _ _ (T71.setTop (mkF m 59 #[.val (.int x1), .val (.int x2), .val (.int x3), .val (.int p4), .val (.int p5), .val (.int tt), .val (.int mm), .val (.int pr), .unset, .unset] [(.ref b71), (.ref b66), (.ref b66)]))
  refine own_go (fun t k => XS.dup X71.here hx rfl (hb hby at_59) rfl rfl k) ?_
  show own_G p.tables e below s _ _ _ (T71.setTop (mkF m 60 #[.val (.int x1), .val (.int x2), .val (.int x3), .val (.int p4), .val (.int p5), .val (.int tt), .val (.int mm), .val (.int pr), .unset, .unset] [(.ref b71), (.ref b71), (.ref b66), (.ref b66)]))
  refine own_go (fun t k => XS.iconst X71.here hx rfl (hb hby at_60) k) ?_
  show own_G p.tables e below s _ _ _ (T71.setTop (mkF m 61 #[.val (.int x1), .val (.int x2), .val (.int x3), .val (.int p4), .val (.int p5), .val (.int tt), .val (.int mm), .val (.int pr), .unset, .unset] [(.int (0 : Int32)), (.ref b71), (.ref b71), (.ref b66), (.ref b66)]))
  refine own_go (fun t k => XS.iloadN X71.here hx rfl (hb hby at_61) rfl k) ?_
  show own_G p.tables e below s _ _ _ (T71.setTop (mkF m 62 #[.val (.int x1), .val (.int x2), .val (.int x3), .val (.int p4), .val (.int p5), .val (.int tt), .val (.int mm), .val (.int pr), .unset, .unset] [(.int x1), (.int (0 : Int32)), (.ref b71), (.ref b71), (.ref b66), (.ref b66)]))
  obtain ⟨cl79, Ar79, q79, S79, NN79, HH79, GG79⟩ := v78
  have hin79 : ¬ ((0 : Int32) < 0 ∨ cl79.slots.size ≤ ((0 : Int32)).toNatClampNeg) := inb_of S79 ⟨by decide, by decide⟩
  obtain ⟨T79, h79, X79, e79, W79, st79⟩ := stI X71 hx hZ e71 Ar79 (j := (0 : Int32)) hin79 (g := (mkF m 62 #[.val (.int x1), .val (.int x2), .val (.int x3), .val (.int p4), .val (.int p5), .val (.int tt), .val (.int mm), .val (.int pr), .unset, .unset] [(.int x1), (.int (0 : Int32)), (.ref b71), (.ref b71), (.ref b66), (.ref b66)])) rfl rfl (hb hby at_62)
  refine own_go st79 ?_
  have v80 : Arv Z h79 b71 k71 .int (3 : Int32) [(.int x1), (.int (0 : Int32)), (.int (0 : Int32))] (.int (0 : Int32)) := Arv.set Ar79 q79 S79 NN79 HH79 GG79 rfl W79 0 rfl (Nat.le_of_ble_eq_true rfl)
  have f81 := Exa.wr W79 f74
  have f82 := Fld.other W79 f75 (Or.inl n73)
  have f83 := Fld.other W79 f76 (Or.inl n73)
  have f84 := Exa.wr W79 Y71
  have z85 := Nat.le_trans z77 (Keep.of_wr W79).1
  have N79 := Fr.snoc X79 N0 g72
  show own_G p.tables e below s _ _ _ (T79.setTop (mkF m 63 #[.val (.int x1), .val (.int x2), .val (.int x3), .val (.int p4), .val (.int p5), .val (.int tt), .val (.int mm), .val (.int pr), .unset, .unset] [(.ref b71), (.ref b66), (.ref b66)]))
  refine own_go (fun t k => XS.dup X79.here hx rfl (hb hby at_63) rfl rfl k) ?_
  show own_G p.tables e below s _ _ _ (T79.setTop (mkF m 64 #[.val (.int x1), .val (.int x2), .val (.int x3), .val (.int p4), .val (.int p5), .val (.int tt), .val (.int mm), .val (.int pr), .unset, .unset] [(.ref b71), (.ref b71), (.ref b66), (.ref b66)]))
  refine own_go (fun t k => XS.iconst X79.here hx rfl (hb hby at_64) k) ?_
  show own_G p.tables e below s _ _ _ (T79.setTop (mkF m 65 #[.val (.int x1), .val (.int x2), .val (.int x3), .val (.int p4), .val (.int p5), .val (.int tt), .val (.int mm), .val (.int pr), .unset, .unset] [(.int (1 : Int32)), (.ref b71), (.ref b71), (.ref b66), (.ref b66)]))
  refine own_go (fun t k => XS.iloadN X79.here hx rfl (hb hby at_65) rfl k) ?_
  show own_G p.tables e below s _ _ _ (T79.setTop (mkF m 66 #[.val (.int x1), .val (.int x2), .val (.int x3), .val (.int p4), .val (.int p5), .val (.int tt), .val (.int mm), .val (.int pr), .unset, .unset] [(.int x2), (.int (1 : Int32)), (.ref b71), (.ref b71), (.ref b66), (.ref b66)]))
  obtain ⟨cl86, Ar86, q86, S86, NN86, HH86, GG86⟩ := v80
  have hin86 : ¬ ((1 : Int32) < 0 ∨ cl86.slots.size ≤ ((1 : Int32)).toNatClampNeg) := inb_of S86 ⟨by decide, by decide⟩
  obtain ⟨T86, h86, X86, e86, W86, st86⟩ := stI X79 hx hZ e79 Ar86 (j := (1 : Int32)) hin86 (g := (mkF m 66 #[.val (.int x1), .val (.int x2), .val (.int x3), .val (.int p4), .val (.int p5), .val (.int tt), .val (.int mm), .val (.int pr), .unset, .unset] [(.int x2), (.int (1 : Int32)), (.ref b71), (.ref b71), (.ref b66), (.ref b66)])) rfl rfl (hb hby at_66)
  refine own_go st86 ?_
  have v87 : Arv Z h86 b71 k71 .int (3 : Int32) [(.int x1), (.int x2), (.int (0 : Int32))] (.int (0 : Int32)) := Arv.set Ar86 q86 S86 NN86 HH86 GG86 rfl W86 1 rfl (Nat.le_of_ble_eq_true rfl)
  have f88 := Exa.wr W86 f81
  have f89 := Fld.other W86 f82 (Or.inl n73)
  have f90 := Fld.other W86 f83 (Or.inl n73)
  have f91 := Exa.wr W86 f84
  have z92 := Nat.le_trans z85 (Keep.of_wr W86).1
  have N86 := Fr.snoc X86 N79 g72
  show own_G p.tables e below s _ _ _ (T86.setTop (mkF m 67 #[.val (.int x1), .val (.int x2), .val (.int x3), .val (.int p4), .val (.int p5), .val (.int tt), .val (.int mm), .val (.int pr), .unset, .unset] [(.ref b71), (.ref b66), (.ref b66)]))
  refine own_go (fun t k => XS.dup X86.here hx rfl (hb hby at_67) rfl rfl k) ?_
  show own_G p.tables e below s _ _ _ (T86.setTop (mkF m 68 #[.val (.int x1), .val (.int x2), .val (.int x3), .val (.int p4), .val (.int p5), .val (.int tt), .val (.int mm), .val (.int pr), .unset, .unset] [(.ref b71), (.ref b71), (.ref b66), (.ref b66)]))
  refine own_go (fun t k => XS.iconst X86.here hx rfl (hb hby at_68) k) ?_
  show own_G p.tables e below s _ _ _ (T86.setTop (mkF m 69 #[.val (.int x1), .val (.int x2), .val (.int x3), .val (.int p4), .val (.int p5), .val (.int tt), .val (.int mm), .val (.int pr), .unset, .unset] [(.int (2 : Int32)), (.ref b71), (.ref b71), (.ref b66), (.ref b66)]))
  refine own_go (fun t k => XS.iloadN X86.here hx rfl (hb hby at_69) rfl k) ?_
  show own_G p.tables e below s _ _ _ (T86.setTop (mkF m 70 #[.val (.int x1), .val (.int x2), .val (.int x3), .val (.int p4), .val (.int p5), .val (.int tt), .val (.int mm), .val (.int pr), .unset, .unset] [(.int x3), (.int (2 : Int32)), (.ref b71), (.ref b71), (.ref b66), (.ref b66)]))
  obtain ⟨cl93, Ar93, q93, S93, NN93, HH93, GG93⟩ := v87
  have hin93 : ¬ ((2 : Int32) < 0 ∨ cl93.slots.size ≤ ((2 : Int32)).toNatClampNeg) := inb_of S93 ⟨by decide, by decide⟩
  obtain ⟨T93, h93, X93, e93, W93, st93⟩ := stI X86 hx hZ e86 Ar93 (j := (2 : Int32)) hin93 (g := (mkF m 70 #[.val (.int x1), .val (.int x2), .val (.int x3), .val (.int p4), .val (.int p5), .val (.int tt), .val (.int mm), .val (.int pr), .unset, .unset] [(.int x3), (.int (2 : Int32)), (.ref b71), (.ref b71), (.ref b66), (.ref b66)])) rfl rfl (hb hby at_70)
  refine own_go st93 ?_
  have v94 : Arv Z h93 b71 k71 .int (3 : Int32) [(.int x1), (.int x2), (.int x3)] (.int (0 : Int32)) := Arv.set Ar93 q93 S93 NN93 HH93 GG93 rfl W93 2 rfl (Nat.le_of_ble_eq_true rfl)
  have f95 := Exa.wr W93 f88
  have f96 := Fld.other W93 f89 (Or.inl n73)
  have f97 := Fld.other W93 f90 (Or.inl n73)
  have f98 := Exa.wr W93 f91
  have z99 := Nat.le_trans z92 (Keep.of_wr W93).1
  have N93 := Fr.snoc X93 N86 g72
  show own_G p.tables e below s _ _ _ (T93.setTop (mkF m 71 #[.val (.int x1), .val (.int x2), .val (.int x3), .val (.int p4), .val (.int p5), .val (.int tt), .val (.int mm), .val (.int pr), .unset, .unset] [(.ref b71), (.ref b66), (.ref b66)]))
  obtain ⟨_, _, ⟨T100, L100, k100, n100⟩, -, X100, ⟨Lc100, hQ100, l100, y100, z100⟩, st100⟩ := X93.specialBack hx (y := (⟨"org/stowage/format/IntList", "<init>", "([I)V"⟩ : MethodName)) rfl hown (mvT hZ (hw _ (List.mem_of_getElem? (i := 4) rfl))) (mvT hZ (hw _ (List.mem_of_getElem? (i := 5) rfl))) (mvT hZ (hw _ (List.mem_of_getElem? (i := 6) rfl))) (by decide) (backOf (W := 1) (rm1 l Z a0 hw [] b66 b71 k71 x1 x2 x3 h93 n0 z99 f95 f96 f97 g67 v94 f98 (Ne.symm n73)) hZ (hw _ (List.mem_of_getElem? (i := 6) rfl)) (hw _ (List.mem_of_getElem? (i := 2) rfl)) (by decide) (by decide)) (g := (mkF m 71 #[.val (.int x1), .val (.int x2), .val (.int x3), .val (.int p4), .val (.int p5), .val (.int tt), .val (.int mm), .val (.int pr), .unset, .unset] [(.ref b71), (.ref b66), (.ref b66)])) rfl (by rw [hml]; rfl) (Steps.refl _) (a := b66) (argsL := [(.ref b71)]) (rest := [(.ref b66)]) (lenOf pd___I_V rfl) rfl (by show 2 * 0 + _ ≤ _; exact Nat.le_of_eq rfl) (hb hby at_71) (fun _ _ => ⟨rfl, e93, (by decide : 2 + 1 ≤ _), (by decide : 5 + 3 ≤ _)⟩)
  dsimp only [Pt.U, Pt.locs, Pt.cells, Pt.slots] at X100 l100 y100 z100 st100 hQ100
  subst l100 y100 z100
  obtain ⟨rfl, N100q, K100, d100, gd100, ne100, Fv100, Fs100, V100⟩ := hQ100
  have N100 := Fr.app N93 N100q
  refine own_go (fun t k => st100.trans k) ?_
  have f101 := f95.keep K100
  have f102 := f98.keep K100
  have f103 := v94.keep K100 (fun q => (List.mem_cons.mp q).elim (Ne.symm n73) (fun q => nomatch q))
  have z104 := Nat.le_trans z99 K100.1
  show own_G p.tables e below s _ _ _ (T100.setTop (mkF m 74 #[.val (.int x1), .val (.int x2), .val (.int x3), .val (.int p4), .val (.int p5), .val (.int tt), .val (.int mm), .val (.int pr), .unset, .unset] [(.ref b66)]))
  refine own_go (fun t k => XS.astore X100.here hx rfl (hb hby at_74) rfl rfl (l' := #[.val (.int x1), .val (.int x2), .val (.int x3), .val (.int p4), .val (.int p5), .val (.int tt), .val (.int mm), .val (.int pr), .val (.ref b66), .unset]) rfl k) ?_
  show own_G p.tables e below s _ _ _ (T100.setTop (mkF m 76 #[.val (.int x1), .val (.int x2), .val (.int x3), .val (.int p4), .val (.int p5), .val (.int tt), .val (.int mm), .val (.int pr), .val (.ref b66), .unset] []))
  refine own_go (fun t k => XS.aload X100.here hx rfl (hb hby at_76) rfl rfl k) ?_
  show own_G p.tables e below s _ _ _ (T100.setTop (mkF m 78 #[.val (.int x1), .val (.int x2), .val (.int x3), .val (.int p4), .val (.int p5), .val (.int tt), .val (.int mm), .val (.int pr), .val (.ref b66), .unset] [(.ref b66)]))
  refine own_go (fun t k => XS.iload X100.here hx rfl (hb hby at_78) rfl k) ?_
  show own_G p.tables e below s _ _ _ (T100.setTop (mkF m 80 #[.val (.int x1), .val (.int x2), .val (.int x3), .val (.int p4), .val (.int p5), .val (.int tt), .val (.int mm), .val (.int pr), .val (.ref b66), .unset] [(.int tt), (.ref b66)]))
  obtain ⟨cq105, kq105, q105a, q105b, q105c⟩ := isOf hZ rfl f101
  obtain ⟨_, _, ⟨T105, L105, k105, n105⟩, -, X105, ⟨Lc105, hQ105, l105, y105, z105⟩, st105⟩ := X100.virtualBack hx (y := (⟨"org/stowage/format/IntList", "truncate", "(I)V"⟩ : MethodName)) (z := (⟨"org/stowage/format/IntList", "truncate", "(I)V"⟩ : MethodName)) hown (mvT hZ (hw _ (List.mem_of_getElem? (i := 23) rfl))) (mvT hZ (hw _ (List.mem_of_getElem? (i := 24) rfl))) (notFace_of_selects (args := #[]) (mvT hZ (hw _ (List.mem_of_getElem? (i := 26) rfl)))) (mvT hZ (hw _ (List.mem_of_getElem? (i := 26) rfl))) (mvT hZ (hw _ (List.mem_of_getElem? (i := 25) rfl))) (by decide) (backOf (W := 0) (rm2 l Z a0 hw [] b66 d100 tt T100.heap n0 z104 f101 Fv100 Fs100 g67 (own_le3 h4)) hZ (hw _ (List.mem_of_getElem? (i := 27) rfl)) (hw _ (List.mem_of_getElem? (i := 2) rfl)) (by decide) (by decide)) q105a q105c (g := (mkF m 80 #[.val (.int x1), .val (.int x2), .val (.int x3), .val (.int p4), .val (.int p5), .val (.int tt), .val (.int mm), .val (.int pr), .val (.ref b66), .unset] [(.int tt), (.ref b66)])) rfl (by rw [hml]; rfl) (Steps.refl _) (argsL := [(.int tt)]) (rest := []) (lenOf pd__I_V rfl) rfl (by show 2 * 0 + _ ≤ _; exact Nat.le_of_eq rfl) (hb hby at_80) (fun _ _ => ⟨rfl, rfl, (by decide : 3 + 0 ≤ _), (by decide : 8 + 0 ≤ _)⟩)
  dsimp only [Pt.U, Pt.locs, Pt.cells, Pt.slots] at X105 l105 y105 z105 st105 hQ105
  subst l105 y105 z105
  obtain ⟨rfl, N105q, K105, Fv105, Fs105⟩ := hQ105
  have N105 := Fr.app N100 N105q
  refine own_go (fun t k => st105.trans k) ?_
  have f106 := f101.keep K105
  have f107 := V100.keep K105 (fun q => (List.mem_cons.mp q).elim (Ne.symm ne100) (fun q => nomatch q))
  have z108 := Nat.le_trans z104 K105.1
  show own_G p.tables e below s _ _ _ (T105.setTop (mkF m 83 #[.val (.int x1), .val (.int x2), .val (.int x3), .val (.int p4), .val (.int p5), .val (.int tt), .val (.int mm), .val (.int pr), .val (.ref b66), .unset] []))
  rcases h4 with rfl | rfl | rfl | rfl
  · show own_G p.tables e below s _ _ _ (T105.setTop (mkF m 83 #[.val (.int x1), .val (.int x2), .val (.int x3), .val (.int p4), .val (.int p5), .val (.int (0 : Int32)), .val (.int mm), .val (.int pr), .val (.ref b66), .unset] []))
    obtain ⟨ex, hex⟩ : ∃ z : Int32, (if False then (1 : Int32) else 0) = z := ⟨_, rfl⟩
    refine own_go (fun t k => XS.iload X105.here hx rfl (hb hby at_83) rfl k) ?_
    show own_G p.tables e below s _ _ _ (T105.setTop (mkF m 85 #[.val (.int x1), .val (.int x2), .val (.int x3), .val (.int p4), .val (.int p5), .val (.int (0 : Int32)), .val (.int mm), .val (.int pr), .val (.ref b66), .unset] [(.int (0 : Int32))]))
    refine own_go (fun t k => XS.ifYes X105.here hx rfl (pc0 := 85) (pc' := 94) rfl (hb hby at_85) rfl (by decide) (by decide) (by decide) k) ?_
    show own_G p.tables e below s _ _ _ (T105.setTop (mkF m 94 #[.val (.int x1), .val (.int x2), .val (.int x3), .val (.int p4), .val (.int p5), .val (.int (0 : Int32)), .val (.int mm), .val (.int pr), .val (.ref b66), .unset] []))
    refine own_go (fun t k => XS.iload X105.here hx rfl (hb hby at_94) rfl k) ?_
    show own_G p.tables e below s _ _ _ (T105.setTop (mkF m 96 #[.val (.int x1), .val (.int x2), .val (.int x3), .val (.int p4), .val (.int p5), .val (.int (0 : Int32)), .val (.int mm), .val (.int pr), .val (.ref b66), .unset] [(.int (0 : Int32))]))
    refine own_go (fun t k => XS.iconst X105.here hx rfl (hb hby at_96) k) ?_
    show own_G p.tables e below s _ _ _ (T105.setTop (mkF m 97 #[.val (.int x1), .val (.int x2), .val (.int x3), .val (.int p4), .val (.int p5), .val (.int (0 : Int32)), .val (.int mm), .val (.int pr), .val (.ref b66), .unset] [(.int (1 : Int32)), (.int (0 : Int32))]))
    refine own_go (fun t k => XS.icmpYes X105.here hx rfl (pc0 := 97) (pc' := 106) rfl (hb hby at_97) rfl (by decide) (by decide) (by decide) k) ?_
    show own_G p.tables e below s _ _ _ (T105.setTop (mkF m 106 #[.val (.int x1), .val (.int x2), .val (.int x3), .val (.int p4), .val (.int p5), .val (.int (0 : Int32)), .val (.int mm), .val (.int pr), .val (.ref b66), .unset] []))
    refine own_go (fun t k => XS.iload X105.here hx rfl (hb hby at_106) rfl k) ?_
    show own_G p.tables e below s _ _ _ (T105.setTop (mkF m 108 #[.val (.int x1), .val (.int x2), .val (.int x3), .val (.int p4), .val (.int p5), .val (.int (0 : Int32)), .val (.int mm), .val (.int pr), .val (.ref b66), .unset] [(.int (0 : Int32))]))
    refine own_go (fun t k => XS.iconst X105.here hx rfl (hb hby at_108) k) ?_
    show own_G p.tables e below s _ _ _ (T105.setTop (mkF m 109 #[.val (.int x1), .val (.int x2), .val (.int x3), .val (.int p4), .val (.int p5), .val (.int (0 : Int32)), .val (.int mm), .val (.int pr), .val (.ref b66), .unset] [(.int (2 : Int32)), (.int (0 : Int32))]))
    refine own_go (fun t k => XS.icmpYes X105.here hx rfl (pc0 := 109) (pc' := 122) rfl (hb hby at_109) rfl (by decide) (by decide) (by decide) k) ?_
    show own_G p.tables e below s _ _ _ (T105.setTop (mkF m 122 #[.val (.int x1), .val (.int x2), .val (.int x3), .val (.int p4), .val (.int p5), .val (.int (0 : Int32)), .val (.int mm), .val (.int pr), .val (.ref b66), .unset] []))
    refine own_go (fun t k => XS.iconst X105.here hx rfl (hb hby at_122) k) ?_
    show own_G p.tables e below s _ _ _ (T105.setTop (mkF m 123 #[.val (.int x1), .val (.int x2), .val (.int x3), .val (.int p4), .val (.int p5), .val (.int (0 : Int32)), .val (.int mm), .val (.int pr), .val (.ref b66), .unset] [(.int (0 : Int32))]))
    refine own_go (fun t k => XS.istore X105.here hx rfl (hb hby at_123) rfl (l' := #[.val (.int x1), .val (.int x2), .val (.int x3), .val (.int p4), .val (.int p5), .val (.int (0 : Int32)), .val (.int mm), .val (.int pr), .val (.ref b66), .val (.int (0 : Int32))]) rfl k) ?_
    show own_G p.tables e below s _ _ _ (T105.setTop (mkF m 125 #[.val (.int x1), .val (.int x2), .val (.int x3), .val (.int p4), .val (.int p5), .val (.int (0 : Int32)), .val (.int mm), .val (.int pr), .val (.ref b66), .val (.int (0 : Int32))] []))
    refine own_go (fun t k => XS.aload X105.here hx rfl (hb hby at_125) rfl rfl k) ?_
    show own_G p.tables e below s _ _ _ (T105.setTop (mkF m 127 #[.val (.int x1), .val (.int x2), .val (.int x3), .val (.int p4), .val (.int p5), .val (.int (0 : Int32)), .val (.int mm), .val (.int pr), .val (.ref b66), .val (.int (0 : Int32))] [(.ref b66)]))
    refine own_go (fun t k => XS.iload X105.here hx rfl (hb hby at_127) rfl k) ?_
    show own_G p.tables e below s _ _ _ (T105.setTop (mkF m 129 #[.val (.int x1), .val (.int x2), .val (.int x3), .val (.int p4), .val (.int p5), .val (.int (0 : Int32)), .val (.int mm), .val (.int pr), .val (.ref b66), .val (.int (0 : Int32))] [(.int pr), (.ref b66)]))
    obtain ⟨cq109, kq109, q109a, q109b, q109c⟩ := isOf hZ rfl f106
    obtain ⟨_, _, ⟨T109, L109, k109, n109⟩, -, X109, ⟨Lc109, hQ109, l109, y109, z109⟩, st109⟩ := X105.virtualBack hx (y := (⟨"org/stowage/format/IntList", "contains", "(I)Z"⟩ : MethodName)) (z := (⟨"org/stowage/format/IntList", "contains", "(I)Z"⟩ : MethodName)) hown (mvT hZ (hw _ (List.mem_of_getElem? (i := 28) rfl))) (mvT hZ (hw _ (List.mem_of_getElem? (i := 29) rfl))) (notFace_of_selects (args := #[]) (mvT hZ (hw _ (List.mem_of_getElem? (i := 31) rfl)))) (mvT hZ (hw _ (List.mem_of_getElem? (i := 31) rfl))) (mvT hZ (hw _ (List.mem_of_getElem? (i := 30) rfl))) (by decide) (backOf (W := 0) (rm3_0 l Z a0 hw [] b66 d100 k71 x1 x2 x3 pr (0 : Int32) T105.heap n0 z108 Fv105 Fs105 f107 (if_neg id)) hZ (hw _ (List.mem_of_getElem? (i := 32) rfl)) (hw _ (List.mem_of_getElem? (i := 2) rfl)) (by decide) (by decide)) q109a q109c (g := (mkF m 129 #[.val (.int x1), .val (.int x2), .val (.int x3), .val (.int p4), .val (.int p5), .val (.int (0 : Int32)), .val (.int mm), .val (.int pr), .val (.ref b66), .val (.int (0 : Int32))] [(.int pr), (.ref b66)])) rfl (by rw [hml]; rfl) (Steps.refl _) (argsL := [(.int pr)]) (rest := []) (lenOf pd__I_Z rfl) rfl (by show 2 * 0 + _ ≤ _; exact Nat.le_of_eq rfl) (hb hby at_129) (fun _ _ => ⟨rfl, rfl, (by decide : 3 + 0 ≤ _), (by decide : 8 + 0 ≤ _)⟩)
    dsimp only [Pt.U, Pt.locs, Pt.cells, Pt.slots] at X109 l109 y109 z109 st109 hQ109
    subst l109 y109 z109
    obtain ⟨rfl, N109q, hh109⟩ := hQ109
    have N109 := Fr.app N105 N109q
    refine own_go (fun t k => st109.trans k) ?_
    show own_G p.tables e below s _ _ _ (T109.setTop (mkF m 132 #[.val (.int x1), .val (.int x2), .val (.int x3), .val (.int p4), .val (.int p5), .val (.int (0 : Int32)), .val (.int mm), .val (.int pr), .val (.ref b66), .val (.int (0 : Int32))] [(.int (0 : Int32))]))
    refine own_go (fun t k => XS.iload X109.here hx rfl (hb hby at_132) rfl k) ?_
    show own_G p.tables e below s _ _ _ (T109.setTop (mkF m 134 #[.val (.int x1), .val (.int x2), .val (.int x3), .val (.int p4), .val (.int p5), .val (.int (0 : Int32)), .val (.int mm), .val (.int pr), .val (.ref b66), .val (.int (0 : Int32))] [(.int (0 : Int32)), (.int (0 : Int32))]))
    refine own_go (fun t k => XS.icmpNo X109.here hx rfl (hb hby at_134) rfl (by decide) k) ?_
    show own_G p.tables e below s _ _ _ (T109.setTop (mkF m 137 #[.val (.int x1), .val (.int x2), .val (.int x3), .val (.int p4), .val (.int p5), .val (.int (0 : Int32)), .val (.int mm), .val (.int pr), .val (.ref b66), .val (.int (0 : Int32))] []))
    refine own_go (fun t k => XS.iconst X109.here hx rfl (hb hby at_137) k) ?_
    show own_G p.tables e below s _ _ _ (T109.setTop (mkF m 138 #[.val (.int x1), .val (.int x2), .val (.int x3), .val (.int p4), .val (.int p5), .val (.int (0 : Int32)), .val (.int mm), .val (.int pr), .val (.ref b66), .val (.int (0 : Int32))] [(.int (1 : Int32))]))
    refine own_go (fun t k => XS.goto X109.here hx rfl (pc0 := 138) (pc' := 142) rfl (hb hby at_138) (by decide) (by decide) k) ?_
    show own_G p.tables e below s _ _ _ (T109.setTop (mkF m 142 #[.val (.int x1), .val (.int x2), .val (.int x3), .val (.int p4), .val (.int p5), .val (.int (0 : Int32)), .val (.int mm), .val (.int pr), .val (.ref b66), .val (.int (0 : Int32))] [(.int (1 : Int32))]))
    exact own_retN X109 hx hlk (t := .boolean) (z' := (1 : Int32)) Bd.returns (by simp) (hb hby at_142) (rfl) (by rw [hh109]; exact ⟨rfl, N109⟩) (by decide) (by decide)
  · show own_G p.tables e below s _ _ _ (T105.setTop (mkF m 83 #[.val (.int x1), .val (.int x2), .val (.int x3), .val (.int p4), .val (.int p5), .val (.int (1 : Int32)), .val (.int mm), .val (.int pr), .val (.ref b66), .unset] []))
    obtain ⟨ex, hex⟩ : ∃ z : Int32, (if x1 = pr then (1 : Int32) else 0) = z := ⟨_, rfl⟩
    refine own_go (A := (T105.setTop (mkF m 123 #[.val (.int x1), .val (.int x2), .val (.int x3), .val (.int p4), .val (.int p5), .val (.int (1 : Int32)), .val (.int mm), .val (.int pr), .val (.ref b66), .unset] [(.int ex)]))) (fun t k => ?_) ?_
    · show Steps p.tables e below (T105.setTop (mkF m 83 #[.val (.int x1), .val (.int x2), .val (.int x3), .val (.int p4), .val (.int p5), .val (.int (1 : Int32)), .val (.int mm), .val (.int pr), .val (.ref b66), .unset] [])) _
      refine XS.iload X105.here hx rfl (hb hby at_83) rfl ?_
      show Steps p.tables e below (T105.setTop (mkF m 85 #[.val (.int x1), .val (.int x2), .val (.int x3), .val (.int p4), .val (.int p5), .val (.int (1 : Int32)), .val (.int mm), .val (.int pr), .val (.ref b66), .unset] [(.int (1 : Int32))])) _
      refine XS.ifNo X105.here hx rfl (hb hby at_85) rfl (by decide) ?_
      show Steps p.tables e below (T105.setTop (mkF m 88 #[.val (.int x1), .val (.int x2), .val (.int x3), .val (.int p4), .val (.int p5), .val (.int (1 : Int32)), .val (.int mm), .val (.int pr), .val (.ref b66), .unset] [])) _
      refine XS.iloadN X105.here hx rfl (hb hby at_88) rfl ?_
      show Steps p.tables e below (T105.setTop (mkF m 89 #[.val (.int x1), .val (.int x2), .val (.int x3), .val (.int p4), .val (.int p5), .val (.int (1 : Int32)), .val (.int mm), .val (.int pr), .val (.ref b66), .unset] [(.int x1)])) _
      refine XS.iload X105.here hx rfl (hb hby at_89) rfl ?_
      show Steps p.tables e below (T105.setTop (mkF m 91 #[.val (.int x1), .val (.int x2), .val (.int x3), .val (.int p4), .val (.int p5), .val (.int (1 : Int32)), .val (.int mm), .val (.int pr), .val (.ref b66), .unset] [(.int pr), (.int x1)])) _
      by_cases hn0 : x1 = pr
      · refine XS.icmpYes X105.here hx rfl (pc0 := 91) (pc' := 118) rfl (hb hby at_91) rfl (Jvm.Free.XT.ii_eq_t hn0) (by decide) (by decide) ?_
        show Steps p.tables e below (T105.setTop (mkF m 118 #[.val (.int x1), .val (.int x2), .val (.int x3), .val (.int p4), .val (.int p5), .val (.int (1 : Int32)), .val (.int mm), .val (.int pr), .val (.ref b66), .unset] [])) _
        refine XS.iconst X105.here hx rfl (hb hby at_118) ?_
        show Steps p.tables e below (T105.setTop (mkF m 119 #[.val (.int x1), .val (.int x2), .val (.int x3), .val (.int p4), .val (.int p5), .val (.int (1 : Int32)), .val (.int mm), .val (.int pr), .val (.ref b66), .unset] [(.int (1 : Int32))])) _
        refine XS.goto X105.here hx rfl (pc0 := 119) (pc' := 123) rfl (hb hby at_119) (by decide) (by decide) ?_
        show Steps p.tables e below (T105.setTop (mkF m 123 #[.val (.int x1), .val (.int x2), .val (.int x3), .val (.int p4), .val (.int p5), .val (.int (1 : Int32)), .val (.int mm), .val (.int pr), .val (.ref b66), .unset] [(.int (1 : Int32))])) _
        rw [← hex, if_pos (hn0)] at k
        exact k
      · refine XS.icmpNo X105.here hx rfl (hb hby at_91) rfl (Jvm.Free.XT.ii_eq_f hn0) ?_
        show Steps p.tables e below (T105.setTop (mkF m 94 #[.val (.int x1), .val (.int x2), .val (.int x3), .val (.int p4), .val (.int p5), .val (.int (1 : Int32)), .val (.int mm), .val (.int pr), .val (.ref b66), .unset] [])) _
        refine XS.iload X105.here hx rfl (hb hby at_94) rfl ?_
        show Steps p.tables e below (T105.setTop (mkF m 96 #[.val (.int x1), .val (.int x2), .val (.int x3), .val (.int p4), .val (.int p5), .val (.int (1 : Int32)), .val (.int mm), .val (.int pr), .val (.ref b66), .unset] [(.int (1 : Int32))])) _
        refine XS.iconst X105.here hx rfl (hb hby at_96) ?_
        show Steps p.tables e below (T105.setTop (mkF m 97 #[.val (.int x1), .val (.int x2), .val (.int x3), .val (.int p4), .val (.int p5), .val (.int (1 : Int32)), .val (.int mm), .val (.int pr), .val (.ref b66), .unset] [(.int (1 : Int32)), (.int (1 : Int32))])) _
        refine XS.icmpYes X105.here hx rfl (pc0 := 97) (pc' := 106) rfl (hb hby at_97) rfl (by decide) (by decide) (by decide) ?_
        show Steps p.tables e below (T105.setTop (mkF m 106 #[.val (.int x1), .val (.int x2), .val (.int x3), .val (.int p4), .val (.int p5), .val (.int (1 : Int32)), .val (.int mm), .val (.int pr), .val (.ref b66), .unset] [])) _
        refine XS.iload X105.here hx rfl (hb hby at_106) rfl ?_
        show Steps p.tables e below (T105.setTop (mkF m 108 #[.val (.int x1), .val (.int x2), .val (.int x3), .val (.int p4), .val (.int p5), .val (.int (1 : Int32)), .val (.int mm), .val (.int pr), .val (.ref b66), .unset] [(.int (1 : Int32))])) _
        refine XS.iconst X105.here hx rfl (hb hby at_108) ?_
        show Steps p.tables e below (T105.setTop (mkF m 109 #[.val (.int x1), .val (.int x2), .val (.int x3), .val (.int p4), .val (.int p5), .val (.int (1 : Int32)), .val (.int mm), .val (.int pr), .val (.ref b66), .unset] [(.int (2 : Int32)), (.int (1 : Int32))])) _
        refine XS.icmpYes X105.here hx rfl (pc0 := 109) (pc' := 122) rfl (hb hby at_109) rfl (by decide) (by decide) (by decide) ?_
        show Steps p.tables e below (T105.setTop (mkF m 122 #[.val (.int x1), .val (.int x2), .val (.int x3), .val (.int p4), .val (.int p5), .val (.int (1 : Int32)), .val (.int mm), .val (.int pr), .val (.ref b66), .unset] [])) _
        refine XS.iconst X105.here hx rfl (hb hby at_122) ?_
        show Steps p.tables e below (T105.setTop (mkF m 123 #[.val (.int x1), .val (.int x2), .val (.int x3), .val (.int p4), .val (.int p5), .val (.int (1 : Int32)), .val (.int mm), .val (.int pr), .val (.ref b66), .unset] [(.int (0 : Int32))])) _
        rw [← hex, if_neg hn0] at k
        exact k
    show own_G p.tables e below s _ _ _ (T105.setTop (mkF m 123 #[.val (.int x1), .val (.int x2), .val (.int x3), .val (.int p4), .val (.int p5), .val (.int (1 : Int32)), .val (.int mm), .val (.int pr), .val (.ref b66), .unset] [(.int ex)]))
    refine own_go (fun t k => XS.istore X105.here hx rfl (hb hby at_123) rfl (l' := #[.val (.int x1), .val (.int x2), .val (.int x3), .val (.int p4), .val (.int p5), .val (.int (1 : Int32)), .val (.int mm), .val (.int pr), .val (.ref b66), .val (.int ex)]) rfl k) ?_
    show own_G p.tables e below s _ _ _ (T105.setTop (mkF m 125 #[.val (.int x1), .val (.int x2), .val (.int x3), .val (.int p4), .val (.int p5), .val (.int (1 : Int32)), .val (.int mm), .val (.int pr), .val (.ref b66), .val (.int ex)] []))
    refine own_go (fun t k => XS.aload X105.here hx rfl (hb hby at_125) rfl rfl k) ?_
    show own_G p.tables e below s _ _ _ (T105.setTop (mkF m 127 #[.val (.int x1), .val (.int x2), .val (.int x3), .val (.int p4), .val (.int p5), .val (.int (1 : Int32)), .val (.int mm), .val (.int pr), .val (.ref b66), .val (.int ex)] [(.ref b66)]))
    refine own_go (fun t k => XS.iload X105.here hx rfl (hb hby at_127) rfl k) ?_
    show own_G p.tables e below s _ _ _ (T105.setTop (mkF m 129 #[.val (.int x1), .val (.int x2), .val (.int x3), .val (.int p4), .val (.int p5), .val (.int (1 : Int32)), .val (.int mm), .val (.int pr), .val (.ref b66), .val (.int ex)] [(.int pr), (.ref b66)]))
    obtain ⟨cq110, kq110, q110a, q110b, q110c⟩ := isOf hZ rfl f106
    obtain ⟨_, _, ⟨T110, L110, k110, n110⟩, -, X110, ⟨Lc110, hQ110, l110, y110, z110⟩, st110⟩ := X105.virtualBack hx (y := (⟨"org/stowage/format/IntList", "contains", "(I)Z"⟩ : MethodName)) (z := (⟨"org/stowage/format/IntList", "contains", "(I)Z"⟩ : MethodName)) hown (mvT hZ (hw _ (List.mem_of_getElem? (i := 28) rfl))) (mvT hZ (hw _ (List.mem_of_getElem? (i := 29) rfl))) (notFace_of_selects (args := #[]) (mvT hZ (hw _ (List.mem_of_getElem? (i := 31) rfl)))) (mvT hZ (hw _ (List.mem_of_getElem? (i := 31) rfl))) (mvT hZ (hw _ (List.mem_of_getElem? (i := 30) rfl))) (by decide) (backOf (W := 0) (rm3_1 l Z a0 hw [] b66 d100 k71 x1 x2 x3 pr ex T105.heap n0 z108 Fv105 Fs105 f107 hex) hZ (hw _ (List.mem_of_getElem? (i := 32) rfl)) (hw _ (List.mem_of_getElem? (i := 2) rfl)) (by decide) (by decide)) q110a q110c (g := (mkF m 129 #[.val (.int x1), .val (.int x2), .val (.int x3), .val (.int p4), .val (.int p5), .val (.int (1 : Int32)), .val (.int mm), .val (.int pr), .val (.ref b66), .val (.int ex)] [(.int pr), (.ref b66)])) rfl (by rw [hml]; rfl) (Steps.refl _) (argsL := [(.int pr)]) (rest := []) (lenOf pd__I_Z rfl) rfl (by show 2 * 0 + _ ≤ _; exact Nat.le_of_eq rfl) (hb hby at_129) (fun _ _ => ⟨rfl, rfl, (by decide : 3 + 0 ≤ _), (by decide : 8 + 0 ≤ _)⟩)
    dsimp only [Pt.U, Pt.locs, Pt.cells, Pt.slots] at X110 l110 y110 z110 st110 hQ110
    subst l110 y110 z110
    obtain ⟨rfl, N110q, hh110⟩ := hQ110
    have N110 := Fr.app N105 N110q
    refine own_go (fun t k => st110.trans k) ?_
    show own_G p.tables e below s _ _ _ (T110.setTop (mkF m 132 #[.val (.int x1), .val (.int x2), .val (.int x3), .val (.int p4), .val (.int p5), .val (.int (1 : Int32)), .val (.int mm), .val (.int pr), .val (.ref b66), .val (.int ex)] [(.int ex)]))
    refine own_go (fun t k => XS.iload X110.here hx rfl (hb hby at_132) rfl k) ?_
    show own_G p.tables e below s _ _ _ (T110.setTop (mkF m 134 #[.val (.int x1), .val (.int x2), .val (.int x3), .val (.int p4), .val (.int p5), .val (.int (1 : Int32)), .val (.int mm), .val (.int pr), .val (.ref b66), .val (.int ex)] [(.int ex), (.int ex)]))
    refine own_go (fun t k => XS.icmpNo X110.here hx rfl (hb hby at_134) rfl (Jvm.Free.XT.ii_ne_f rfl) k) ?_
    show own_G p.tables e below s _ _ _ (T110.setTop (mkF m 137 #[.val (.int x1), .val (.int x2), .val (.int x3), .val (.int p4), .val (.int p5), .val (.int (1 : Int32)), .val (.int mm), .val (.int pr), .val (.ref b66), .val (.int ex)] []))
    refine own_go (fun t k => XS.iconst X110.here hx rfl (hb hby at_137) k) ?_
    show own_G p.tables e below s _ _ _ (T110.setTop (mkF m 138 #[.val (.int x1), .val (.int x2), .val (.int x3), .val (.int p4), .val (.int p5), .val (.int (1 : Int32)), .val (.int mm), .val (.int pr), .val (.ref b66), .val (.int ex)] [(.int (1 : Int32))]))
    refine own_go (fun t k => XS.goto X110.here hx rfl (pc0 := 138) (pc' := 142) rfl (hb hby at_138) (by decide) (by decide) k) ?_
    show own_G p.tables e below s _ _ _ (T110.setTop (mkF m 142 #[.val (.int x1), .val (.int x2), .val (.int x3), .val (.int p4), .val (.int p5), .val (.int (1 : Int32)), .val (.int mm), .val (.int pr), .val (.ref b66), .val (.int ex)] [(.int (1 : Int32))]))
    exact own_retN X110 hx hlk (t := .boolean) (z' := (1 : Int32)) Bd.returns (by simp) (hb hby at_142) (rfl) (by rw [hh110]; exact ⟨rfl, N110⟩) (by decide) (by decide)
  · show own_G p.tables e below s _ _ _ (T105.setTop (mkF m 83 #[.val (.int x1), .val (.int x2), .val (.int x3), .val (.int p4), .val (.int p5), .val (.int (2 : Int32)), .val (.int mm), .val (.int pr), .val (.ref b66), .unset] []))
    obtain ⟨ex, hex⟩ : ∃ z : Int32, (if x1 = pr ∨ x2 = pr then (1 : Int32) else 0) = z := ⟨_, rfl⟩
    refine own_go (A := (T105.setTop (mkF m 123 #[.val (.int x1), .val (.int x2), .val (.int x3), .val (.int p4), .val (.int p5), .val (.int (2 : Int32)), .val (.int mm), .val (.int pr), .val (.ref b66), .unset] [(.int ex)]))) (fun t k => ?_) ?_
    · show Steps p.tables e below (T105.setTop (mkF m 83 #[.val (.int x1), .val (.int x2), .val (.int x3), .val (.int p4), .val (.int p5), .val (.int (2 : Int32)), .val (.int mm), .val (.int pr), .val (.ref b66), .unset] [])) _
      refine XS.iload X105.here hx rfl (hb hby at_83) rfl ?_
      show Steps p.tables e below (T105.setTop (mkF m 85 #[.val (.int x1), .val (.int x2), .val (.int x3), .val (.int p4), .val (.int p5), .val (.int (2 : Int32)), .val (.int mm), .val (.int pr), .val (.ref b66), .unset] [(.int (2 : Int32))])) _
      refine XS.ifNo X105.here hx rfl (hb hby at_85) rfl (by decide) ?_
      show Steps p.tables e below (T105.setTop (mkF m 88 #[.val (.int x1), .val (.int x2), .val (.int x3), .val (.int p4), .val (.int p5), .val (.int (2 : Int32)), .val (.int mm), .val (.int pr), .val (.ref b66), .unset] [])) _
      refine XS.iloadN X105.here hx rfl (hb hby at_88) rfl ?_
      show Steps p.tables e below (T105.setTop (mkF m 89 #[.val (.int x1), .val (.int x2), .val (.int x3), .val (.int p4), .val (.int p5), .val (.int (2 : Int32)), .val (.int mm), .val (.int pr), .val (.ref b66), .unset] [(.int x1)])) _
      refine XS.iload X105.here hx rfl (hb hby at_89) rfl ?_
      show Steps p.tables e below (T105.setTop (mkF m 91 #[.val (.int x1), .val (.int x2), .val (.int x3), .val (.int p4), .val (.int p5), .val (.int (2 : Int32)), .val (.int mm), .val (.int pr), .val (.ref b66), .unset] [(.int pr), (.int x1)])) _
      by_cases hn0 : x1 = pr
      · refine XS.icmpYes X105.here hx rfl (pc0 := 91) (pc' := 118) rfl (hb hby at_91) rfl (Jvm.Free.XT.ii_eq_t hn0) (by decide) (by decide) ?_
        show Steps p.tables e below (T105.setTop (mkF m 118 #[.val (.int x1), .val (.int x2), .val (.int x3), .val (.int p4), .val (.int p5), .val (.int (2 : Int32)), .val (.int mm), .val (.int pr), .val (.ref b66), .unset] [])) _
        refine XS.iconst X105.here hx rfl (hb hby at_118) ?_
        show Steps p.tables e below (T105.setTop (mkF m 119 #[.val (.int x1), .val (.int x2), .val (.int x3), .val (.int p4), .val (.int p5), .val (.int (2 : Int32)), .val (.int mm), .val (.int pr), .val (.ref b66), .unset] [(.int (1 : Int32))])) _
        refine XS.goto X105.here hx rfl (pc0 := 119) (pc' := 123) rfl (hb hby at_119) (by decide) (by decide) ?_
        show Steps p.tables e below (T105.setTop (mkF m 123 #[.val (.int x1), .val (.int x2), .val (.int x3), .val (.int p4), .val (.int p5), .val (.int (2 : Int32)), .val (.int mm), .val (.int pr), .val (.ref b66), .unset] [(.int (1 : Int32))])) _
        rw [← hex, if_pos (Or.inl hn0)] at k
        exact k
      · refine XS.icmpNo X105.here hx rfl (hb hby at_91) rfl (Jvm.Free.XT.ii_eq_f hn0) ?_
        show Steps p.tables e below (T105.setTop (mkF m 94 #[.val (.int x1), .val (.int x2), .val (.int x3), .val (.int p4), .val (.int p5), .val (.int (2 : Int32)), .val (.int mm), .val (.int pr), .val (.ref b66), .unset] [])) _
        refine XS.iload X105.here hx rfl (hb hby at_94) rfl ?_
        show Steps p.tables e below (T105.setTop (mkF m 96 #[.val (.int x1), .val (.int x2), .val (.int x3), .val (.int p4), .val (.int p5), .val (.int (2 : Int32)), .val (.int mm), .val (.int pr), .val (.ref b66), .unset] [(.int (2 : Int32))])) _
        refine XS.iconst X105.here hx rfl (hb hby at_96) ?_
        show Steps p.tables e below (T105.setTop (mkF m 97 #[.val (.int x1), .val (.int x2), .val (.int x3), .val (.int p4), .val (.int p5), .val (.int (2 : Int32)), .val (.int mm), .val (.int pr), .val (.ref b66), .unset] [(.int (1 : Int32)), (.int (2 : Int32))])) _
        refine XS.icmpNo X105.here hx rfl (hb hby at_97) rfl (by decide) ?_
        show Steps p.tables e below (T105.setTop (mkF m 100 #[.val (.int x1), .val (.int x2), .val (.int x3), .val (.int p4), .val (.int p5), .val (.int (2 : Int32)), .val (.int mm), .val (.int pr), .val (.ref b66), .unset] [])) _
        refine XS.iloadN X105.here hx rfl (hb hby at_100) rfl ?_
        show Steps p.tables e below (T105.setTop (mkF m 101 #[.val (.int x1), .val (.int x2), .val (.int x3), .val (.int p4), .val (.int p5), .val (.int (2 : Int32)), .val (.int mm), .val (.int pr), .val (.ref b66), .unset] [(.int x2)])) _
        refine XS.iload X105.here hx rfl (hb hby at_101) rfl ?_
        show Steps p.tables e below (T105.setTop (mkF m 103 #[.val (.int x1), .val (.int x2), .val (.int x3), .val (.int p4), .val (.int p5), .val (.int (2 : Int32)), .val (.int mm), .val (.int pr), .val (.ref b66), .unset] [(.int pr), (.int x2)])) _
        by_cases hn1 : x2 = pr
        · refine XS.icmpYes X105.here hx rfl (pc0 := 103) (pc' := 118) rfl (hb hby at_103) rfl (Jvm.Free.XT.ii_eq_t hn1) (by decide) (by decide) ?_
          show Steps p.tables e below (T105.setTop (mkF m 118 #[.val (.int x1), .val (.int x2), .val (.int x3), .val (.int p4), .val (.int p5), .val (.int (2 : Int32)), .val (.int mm), .val (.int pr), .val (.ref b66), .unset] [])) _
          refine XS.iconst X105.here hx rfl (hb hby at_118) ?_
          show Steps p.tables e below (T105.setTop (mkF m 119 #[.val (.int x1), .val (.int x2), .val (.int x3), .val (.int p4), .val (.int p5), .val (.int (2 : Int32)), .val (.int mm), .val (.int pr), .val (.ref b66), .unset] [(.int (1 : Int32))])) _
          refine XS.goto X105.here hx rfl (pc0 := 119) (pc' := 123) rfl (hb hby at_119) (by decide) (by decide) ?_
          show Steps p.tables e below (T105.setTop (mkF m 123 #[.val (.int x1), .val (.int x2), .val (.int x3), .val (.int p4), .val (.int p5), .val (.int (2 : Int32)), .val (.int mm), .val (.int pr), .val (.ref b66), .unset] [(.int (1 : Int32))])) _
          rw [← hex, if_pos (Or.inr (hn1))] at k
          exact k
        · refine XS.icmpNo X105.here hx rfl (hb hby at_103) rfl (Jvm.Free.XT.ii_eq_f hn1) ?_
          show Steps p.tables e below (T105.setTop (mkF m 106 #[.val (.int x1), .val (.int x2), .val (.int x3), .val (.int p4), .val (.int p5), .val (.int (2 : Int32)), .val (.int mm), .val (.int pr), .val (.ref b66), .unset] [])) _
          refine XS.iload X105.here hx rfl (hb hby at_106) rfl ?_
          show Steps p.tables e below (T105.setTop (mkF m 108 #[.val (.int x1), .val (.int x2), .val (.int x3), .val (.int p4), .val (.int p5), .val (.int (2 : Int32)), .val (.int mm), .val (.int pr), .val (.ref b66), .unset] [(.int (2 : Int32))])) _
          refine XS.iconst X105.here hx rfl (hb hby at_108) ?_
          show Steps p.tables e below (T105.setTop (mkF m 109 #[.val (.int x1), .val (.int x2), .val (.int x3), .val (.int p4), .val (.int p5), .val (.int (2 : Int32)), .val (.int mm), .val (.int pr), .val (.ref b66), .unset] [(.int (2 : Int32)), (.int (2 : Int32))])) _
          refine XS.icmpYes X105.here hx rfl (pc0 := 109) (pc' := 122) rfl (hb hby at_109) rfl (by decide) (by decide) (by decide) ?_
          show Steps p.tables e below (T105.setTop (mkF m 122 #[.val (.int x1), .val (.int x2), .val (.int x3), .val (.int p4), .val (.int p5), .val (.int (2 : Int32)), .val (.int mm), .val (.int pr), .val (.ref b66), .unset] [])) _
          refine XS.iconst X105.here hx rfl (hb hby at_122) ?_
          show Steps p.tables e below (T105.setTop (mkF m 123 #[.val (.int x1), .val (.int x2), .val (.int x3), .val (.int p4), .val (.int p5), .val (.int (2 : Int32)), .val (.int mm), .val (.int pr), .val (.ref b66), .unset] [(.int (0 : Int32))])) _
          rw [← hex, if_neg (fun q => q.elim hn0 hn1)] at k
          exact k
    show own_G p.tables e below s _ _ _ (T105.setTop (mkF m 123 #[.val (.int x1), .val (.int x2), .val (.int x3), .val (.int p4), .val (.int p5), .val (.int (2 : Int32)), .val (.int mm), .val (.int pr), .val (.ref b66), .unset] [(.int ex)]))
    refine own_go (fun t k => XS.istore X105.here hx rfl (hb hby at_123) rfl (l' := #[.val (.int x1), .val (.int x2), .val (.int x3), .val (.int p4), .val (.int p5), .val (.int (2 : Int32)), .val (.int mm), .val (.int pr), .val (.ref b66), .val (.int ex)]) rfl k) ?_
    show own_G p.tables e below s _ _ _ (T105.setTop (mkF m 125 #[.val (.int x1), .val (.int x2), .val (.int x3), .val (.int p4), .val (.int p5), .val (.int (2 : Int32)), .val (.int mm), .val (.int pr), .val (.ref b66), .val (.int ex)] []))
    refine own_go (fun t k => XS.aload X105.here hx rfl (hb hby at_125) rfl rfl k) ?_
    show own_G p.tables e below s _ _ _ (T105.setTop (mkF m 127 #[.val (.int x1), .val (.int x2), .val (.int x3), .val (.int p4), .val (.int p5), .val (.int (2 : Int32)), .val (.int mm), .val (.int pr), .val (.ref b66), .val (.int ex)] [(.ref b66)]))
    refine own_go (fun t k => XS.iload X105.here hx rfl (hb hby at_127) rfl k) ?_
    show own_G p.tables e below s _ _ _ (T105.setTop (mkF m 129 #[.val (.int x1), .val (.int x2), .val (.int x3), .val (.int p4), .val (.int p5), .val (.int (2 : Int32)), .val (.int mm), .val (.int pr), .val (.ref b66), .val (.int ex)] [(.int pr), (.ref b66)]))
    obtain ⟨cq111, kq111, q111a, q111b, q111c⟩ := isOf hZ rfl f106
    obtain ⟨_, _, ⟨T111, L111, k111, n111⟩, -, X111, ⟨Lc111, hQ111, l111, y111, z111⟩, st111⟩ := X105.virtualBack hx (y := (⟨"org/stowage/format/IntList", "contains", "(I)Z"⟩ : MethodName)) (z := (⟨"org/stowage/format/IntList", "contains", "(I)Z"⟩ : MethodName)) hown (mvT hZ (hw _ (List.mem_of_getElem? (i := 28) rfl))) (mvT hZ (hw _ (List.mem_of_getElem? (i := 29) rfl))) (notFace_of_selects (args := #[]) (mvT hZ (hw _ (List.mem_of_getElem? (i := 31) rfl)))) (mvT hZ (hw _ (List.mem_of_getElem? (i := 31) rfl))) (mvT hZ (hw _ (List.mem_of_getElem? (i := 30) rfl))) (by decide) (backOf (W := 0) (rm3_2 l Z a0 hw [] b66 d100 k71 x1 x2 x3 pr ex T105.heap n0 z108 Fv105 Fs105 f107 hex) hZ (hw _ (List.mem_of_getElem? (i := 32) rfl)) (hw _ (List.mem_of_getElem? (i := 2) rfl)) (by decide) (by decide)) q111a q111c (g := (mkF m 129 #[.val (.int x1), .val (.int x2), .val (.int x3), .val (.int p4), .val (.int p5), .val (.int (2 : Int32)), .val (.int mm), .val (.int pr), .val (.ref b66), .val (.int ex)] [(.int pr), (.ref b66)])) rfl (by rw [hml]; rfl) (Steps.refl _) (argsL := [(.int pr)]) (rest := []) (lenOf pd__I_Z rfl) rfl (by show 2 * 0 + _ ≤ _; exact Nat.le_of_eq rfl) (hb hby at_129) (fun _ _ => ⟨rfl, rfl, (by decide : 3 + 0 ≤ _), (by decide : 8 + 0 ≤ _)⟩)
    dsimp only [Pt.U, Pt.locs, Pt.cells, Pt.slots] at X111 l111 y111 z111 st111 hQ111
    subst l111 y111 z111
    obtain ⟨rfl, N111q, hh111⟩ := hQ111
    have N111 := Fr.app N105 N111q
    refine own_go (fun t k => st111.trans k) ?_
    show own_G p.tables e below s _ _ _ (T111.setTop (mkF m 132 #[.val (.int x1), .val (.int x2), .val (.int x3), .val (.int p4), .val (.int p5), .val (.int (2 : Int32)), .val (.int mm), .val (.int pr), .val (.ref b66), .val (.int ex)] [(.int ex)]))
    refine own_go (fun t k => XS.iload X111.here hx rfl (hb hby at_132) rfl k) ?_
    show own_G p.tables e below s _ _ _ (T111.setTop (mkF m 134 #[.val (.int x1), .val (.int x2), .val (.int x3), .val (.int p4), .val (.int p5), .val (.int (2 : Int32)), .val (.int mm), .val (.int pr), .val (.ref b66), .val (.int ex)] [(.int ex), (.int ex)]))
    refine own_go (fun t k => XS.icmpNo X111.here hx rfl (hb hby at_134) rfl (Jvm.Free.XT.ii_ne_f rfl) k) ?_
    show own_G p.tables e below s _ _ _ (T111.setTop (mkF m 137 #[.val (.int x1), .val (.int x2), .val (.int x3), .val (.int p4), .val (.int p5), .val (.int (2 : Int32)), .val (.int mm), .val (.int pr), .val (.ref b66), .val (.int ex)] []))
    refine own_go (fun t k => XS.iconst X111.here hx rfl (hb hby at_137) k) ?_
    show own_G p.tables e below s _ _ _ (T111.setTop (mkF m 138 #[.val (.int x1), .val (.int x2), .val (.int x3), .val (.int p4), .val (.int p5), .val (.int (2 : Int32)), .val (.int mm), .val (.int pr), .val (.ref b66), .val (.int ex)] [(.int (1 : Int32))]))
    refine own_go (fun t k => XS.goto X111.here hx rfl (pc0 := 138) (pc' := 142) rfl (hb hby at_138) (by decide) (by decide) k) ?_
    show own_G p.tables e below s _ _ _ (T111.setTop (mkF m 142 #[.val (.int x1), .val (.int x2), .val (.int x3), .val (.int p4), .val (.int p5), .val (.int (2 : Int32)), .val (.int mm), .val (.int pr), .val (.ref b66), .val (.int ex)] [(.int (1 : Int32))]))
    exact own_retN X111 hx hlk (t := .boolean) (z' := (1 : Int32)) Bd.returns (by simp) (hb hby at_142) (rfl) (by rw [hh111]; exact ⟨rfl, N111⟩) (by decide) (by decide)
  · show own_G p.tables e below s _ _ _ (T105.setTop (mkF m 83 #[.val (.int x1), .val (.int x2), .val (.int x3), .val (.int p4), .val (.int p5), .val (.int (3 : Int32)), .val (.int mm), .val (.int pr), .val (.ref b66), .unset] []))
    obtain ⟨ex, hex⟩ : ∃ z : Int32, (if x1 = pr ∨ x2 = pr ∨ x3 = pr then (1 : Int32) else 0) = z := ⟨_, rfl⟩
    refine own_go (A := (T105.setTop (mkF m 123 #[.val (.int x1), .val (.int x2), .val (.int x3), .val (.int p4), .val (.int p5), .val (.int (3 : Int32)), .val (.int mm), .val (.int pr), .val (.ref b66), .unset] [(.int ex)]))) (fun t k => ?_) ?_
    · show Steps p.tables e below (T105.setTop (mkF m 83 #[.val (.int x1), .val (.int x2), .val (.int x3), .val (.int p4), .val (.int p5), .val (.int (3 : Int32)), .val (.int mm), .val (.int pr), .val (.ref b66), .unset] [])) _
      refine XS.iload X105.here hx rfl (hb hby at_83) rfl ?_
      show Steps p.tables e below (T105.setTop (mkF m 85 #[.val (.int x1), .val (.int x2), .val (.int x3), .val (.int p4), .val (.int p5), .val (.int (3 : Int32)), .val (.int mm), .val (.int pr), .val (.ref b66), .unset] [(.int (3 : Int32))])) _
      refine XS.ifNo X105.here hx rfl (hb hby at_85) rfl (by decide) ?_
      show Steps p.tables e below (T105.setTop (mkF m 88 #[.val (.int x1), .val (.int x2), .val (.int x3), .val (.int p4), .val (.int p5), .val (.int (3 : Int32)), .val (.int mm), .val (.int pr), .val (.ref b66), .unset] [])) _
      refine XS.iloadN X105.here hx rfl (hb hby at_88) rfl ?_
      show Steps p.tables e below (T105.setTop (mkF m 89 #[.val (.int x1), .val (.int x2), .val (.int x3), .val (.int p4), .val (.int p5), .val (.int (3 : Int32)), .val (.int mm), .val (.int pr), .val (.ref b66), .unset] [(.int x1)])) _
      refine XS.iload X105.here hx rfl (hb hby at_89) rfl ?_
      show Steps p.tables e below (T105.setTop (mkF m 91 #[.val (.int x1), .val (.int x2), .val (.int x3), .val (.int p4), .val (.int p5), .val (.int (3 : Int32)), .val (.int mm), .val (.int pr), .val (.ref b66), .unset] [(.int pr), (.int x1)])) _
      by_cases hn0 : x1 = pr
      · refine XS.icmpYes X105.here hx rfl (pc0 := 91) (pc' := 118) rfl (hb hby at_91) rfl (Jvm.Free.XT.ii_eq_t hn0) (by decide) (by decide) ?_
        show Steps p.tables e below (T105.setTop (mkF m 118 #[.val (.int x1), .val (.int x2), .val (.int x3), .val (.int p4), .val (.int p5), .val (.int (3 : Int32)), .val (.int mm), .val (.int pr), .val (.ref b66), .unset] [])) _
        refine XS.iconst X105.here hx rfl (hb hby at_118) ?_
        show Steps p.tables e below (T105.setTop (mkF m 119 #[.val (.int x1), .val (.int x2), .val (.int x3), .val (.int p4), .val (.int p5), .val (.int (3 : Int32)), .val (.int mm), .val (.int pr), .val (.ref b66), .unset] [(.int (1 : Int32))])) _
        refine XS.goto X105.here hx rfl (pc0 := 119) (pc' := 123) rfl (hb hby at_119) (by decide) (by decide) ?_
        show Steps p.tables e below (T105.setTop (mkF m 123 #[.val (.int x1), .val (.int x2), .val (.int x3), .val (.int p4), .val (.int p5), .val (.int (3 : Int32)), .val (.int mm), .val (.int pr), .val (.ref b66), .unset] [(.int (1 : Int32))])) _
        rw [← hex, if_pos (Or.inl hn0)] at k
        exact k
      · refine XS.icmpNo X105.here hx rfl (hb hby at_91) rfl (Jvm.Free.XT.ii_eq_f hn0) ?_
        show Steps p.tables e below (T105.setTop (mkF m 94 #[.val (.int x1), .val (.int x2), .val (.int x3), .val (.int p4), .val (.int p5), .val (.int (3 : Int32)), .val (.int mm), .val (.int pr), .val (.ref b66), .unset] [])) _
        refine XS.iload X105.here hx rfl (hb hby at_94) rfl ?_
        show Steps p.tables e below (T105.setTop (mkF m 96 #[.val (.int x1), .val (.int x2), .val (.int x3), .val (.int p4), .val (.int p5), .val (.int (3 : Int32)), .val (.int mm), .val (.int pr), .val (.ref b66), .unset] [(.int (3 : Int32))])) _
        refine XS.iconst X105.here hx rfl (hb hby at_96) ?_
        show Steps p.tables e below (T105.setTop (mkF m 97 #[.val (.int x1), .val (.int x2), .val (.int x3), .val (.int p4), .val (.int p5), .val (.int (3 : Int32)), .val (.int mm), .val (.int pr), .val (.ref b66), .unset] [(.int (1 : Int32)), (.int (3 : Int32))])) _
        refine XS.icmpNo X105.here hx rfl (hb hby at_97) rfl (by decide) ?_
        show Steps p.tables e below (T105.setTop (mkF m 100 #[.val (.int x1), .val (.int x2), .val (.int x3), .val (.int p4), .val (.int p5), .val (.int (3 : Int32)), .val (.int mm), .val (.int pr), .val (.ref b66), .unset] [])) _
        refine XS.iloadN X105.here hx rfl (hb hby at_100) rfl ?_
        show Steps p.tables e below (T105.setTop (mkF m 101 #[.val (.int x1), .val (.int x2), .val (.int x3), .val (.int p4), .val (.int p5), .val (.int (3 : Int32)), .val (.int mm), .val (.int pr), .val (.ref b66), .unset] [(.int x2)])) _
        refine XS.iload X105.here hx rfl (hb hby at_101) rfl ?_
        show Steps p.tables e below (T105.setTop (mkF m 103 #[.val (.int x1), .val (.int x2), .val (.int x3), .val (.int p4), .val (.int p5), .val (.int (3 : Int32)), .val (.int mm), .val (.int pr), .val (.ref b66), .unset] [(.int pr), (.int x2)])) _
        by_cases hn1 : x2 = pr
        · refine XS.icmpYes X105.here hx rfl (pc0 := 103) (pc' := 118) rfl (hb hby at_103) rfl (Jvm.Free.XT.ii_eq_t hn1) (by decide) (by decide) ?_
          show Steps p.tables e below (T105.setTop (mkF m 118 #[.val (.int x1), .val (.int x2), .val (.int x3), .val (.int p4), .val (.int p5), .val (.int (3 : Int32)), .val (.int mm), .val (.int pr), .val (.ref b66), .unset] [])) _
          refine XS.iconst X105.here hx rfl (hb hby at_118) ?_
          show Steps p.tables e below (T105.setTop (mkF m 119 #[.val (.int x1), .val (.int x2), .val (.int x3), .val (.int p4), .val (.int p5), .val (.int (3 : Int32)), .val (.int mm), .val (.int pr), .val (.ref b66), .unset] [(.int (1 : Int32))])) _
          refine XS.goto X105.here hx rfl (pc0 := 119) (pc' := 123) rfl (hb hby at_119) (by decide) (by decide) ?_
          show Steps p.tables e below (T105.setTop (mkF m 123 #[.val (.int x1), .val (.int x2), .val (.int x3), .val (.int p4), .val (.int p5), .val (.int (3 : Int32)), .val (.int mm), .val (.int pr), .val (.ref b66), .unset] [(.int (1 : Int32))])) _
          rw [← hex, if_pos (Or.inr (Or.inl hn1))] at k
          exact k
        · refine XS.icmpNo X105.here hx rfl (hb hby at_103) rfl (Jvm.Free.XT.ii_eq_f hn1) ?_
          show Steps p.tables e below (T105.setTop (mkF m 106 #[.val (.int x1), .val (.int x2), .val (.int x3), .val (.int p4), .val (.int p5), .val (.int (3 : Int32)), .val (.int mm), .val (.int pr), .val (.ref b66), .unset] [])) _
          refine XS.iload X105.here hx rfl (hb hby at_106) rfl ?_
          show Steps p.tables e below (T105.setTop (mkF m 108 #[.val (.int x1), .val (.int x2), .val (.int x3), .val (.int p4), .val (.int p5), .val (.int (3 : Int32)), .val (.int mm), .val (.int pr), .val (.ref b66), .unset] [(.int (3 : Int32))])) _
          refine XS.iconst X105.here hx rfl (hb hby at_108) ?_
          show Steps p.tables e below (T105.setTop (mkF m 109 #[.val (.int x1), .val (.int x2), .val (.int x3), .val (.int p4), .val (.int p5), .val (.int (3 : Int32)), .val (.int mm), .val (.int pr), .val (.ref b66), .unset] [(.int (2 : Int32)), (.int (3 : Int32))])) _
          refine XS.icmpNo X105.here hx rfl (hb hby at_109) rfl (by decide) ?_
          show Steps p.tables e below (T105.setTop (mkF m 112 #[.val (.int x1), .val (.int x2), .val (.int x3), .val (.int p4), .val (.int p5), .val (.int (3 : Int32)), .val (.int mm), .val (.int pr), .val (.ref b66), .unset] [])) _
          refine XS.iloadN X105.here hx rfl (hb hby at_112) rfl ?_
          show Steps p.tables e below (T105.setTop (mkF m 113 #[.val (.int x1), .val (.int x2), .val (.int x3), .val (.int p4), .val (.int p5), .val (.int (3 : Int32)), .val (.int mm), .val (.int pr), .val (.ref b66), .unset] [(.int x3)])) _
          refine XS.iload X105.here hx rfl (hb hby at_113) rfl ?_
          show Steps p.tables e below (T105.setTop (mkF m 115 #[.val (.int x1), .val (.int x2), .val (.int x3), .val (.int p4), .val (.int p5), .val (.int (3 : Int32)), .val (.int mm), .val (.int pr), .val (.ref b66), .unset] [(.int pr), (.int x3)])) _
          by_cases hn2 : x3 = pr
          · refine XS.icmpNo X105.here hx rfl (hb hby at_115) rfl (Jvm.Free.XT.ii_ne_f hn2) ?_
            show Steps p.tables e below (T105.setTop (mkF m 118 #[.val (.int x1), .val (.int x2), .val (.int x3), .val (.int p4), .val (.int p5), .val (.int (3 : Int32)), .val (.int mm), .val (.int pr), .val (.ref b66), .unset] [])) _
            refine XS.iconst X105.here hx rfl (hb hby at_118) ?_
            show Steps p.tables e below (T105.setTop (mkF m 119 #[.val (.int x1), .val (.int x2), .val (.int x3), .val (.int p4), .val (.int p5), .val (.int (3 : Int32)), .val (.int mm), .val (.int pr), .val (.ref b66), .unset] [(.int (1 : Int32))])) _
            refine XS.goto X105.here hx rfl (pc0 := 119) (pc' := 123) rfl (hb hby at_119) (by decide) (by decide) ?_
            show Steps p.tables e below (T105.setTop (mkF m 123 #[.val (.int x1), .val (.int x2), .val (.int x3), .val (.int p4), .val (.int p5), .val (.int (3 : Int32)), .val (.int mm), .val (.int pr), .val (.ref b66), .unset] [(.int (1 : Int32))])) _
            rw [← hex, if_pos (Or.inr (Or.inr (hn2)))] at k
            exact k
          · refine XS.icmpYes X105.here hx rfl (pc0 := 115) (pc' := 122) rfl (hb hby at_115) rfl (Jvm.Free.XT.ii_ne_t hn2) (by decide) (by decide) ?_
            show Steps p.tables e below (T105.setTop (mkF m 122 #[.val (.int x1), .val (.int x2), .val (.int x3), .val (.int p4), .val (.int p5), .val (.int (3 : Int32)), .val (.int mm), .val (.int pr), .val (.ref b66), .unset] [])) _
            refine XS.iconst X105.here hx rfl (hb hby at_122) ?_
            show Steps p.tables e below (T105.setTop (mkF m 123 #[.val (.int x1), .val (.int x2), .val (.int x3), .val (.int p4), .val (.int p5), .val (.int (3 : Int32)), .val (.int mm), .val (.int pr), .val (.ref b66), .unset] [(.int (0 : Int32))])) _
            rw [← hex, if_neg (fun q => q.elim hn0 (fun q => q.elim hn1 hn2))] at k
            exact k
    show own_G p.tables e below s _ _ _ (T105.setTop (mkF m 123 #[.val (.int x1), .val (.int x2), .val (.int x3), .val (.int p4), .val (.int p5), .val (.int (3 : Int32)), .val (.int mm), .val (.int pr), .val (.ref b66), .unset] [(.int ex)]))
    refine own_go (fun t k => XS.istore X105.here hx rfl (hb hby at_123) rfl (l' := #[.val (.int x1), .val (.int x2), .val (.int x3), .val (.int p4), .val (.int p5), .val (.int (3 : Int32)), .val (.int mm), .val (.int pr), .val (.ref b66), .val (.int ex)]) rfl k) ?_
    show own_G p.tables e below s _ _ _ (T105.setTop (mkF m 125 #[.val (.int x1), .val (.int x2), .val (.int x3), .val (.int p4), .val (.int p5), .val (.int (3 : Int32)), .val (.int mm), .val (.int pr), .val (.ref b66), .val (.int ex)] []))
    refine own_go (fun t k => XS.aload X105.here hx rfl (hb hby at_125) rfl rfl k) ?_
    show own_G p.tables e below s _ _ _ (T105.setTop (mkF m 127 #[.val (.int x1), .val (.int x2), .val (.int x3), .val (.int p4), .val (.int p5), .val (.int (3 : Int32)), .val (.int mm), .val (.int pr), .val (.ref b66), .val (.int ex)] [(.ref b66)]))
    refine own_go (fun t k => XS.iload X105.here hx rfl (hb hby at_127) rfl k) ?_
    show own_G p.tables e below s _ _ _ (T105.setTop (mkF m 129 #[.val (.int x1), .val (.int x2), .val (.int x3), .val (.int p4), .val (.int p5), .val (.int (3 : Int32)), .val (.int mm), .val (.int pr), .val (.ref b66), .val (.int ex)] [(.int pr), (.ref b66)]))
    obtain ⟨cq112, kq112, q112a, q112b, q112c⟩ := isOf hZ rfl f106
    obtain ⟨_, _, ⟨T112, L112, k112, n112⟩, -, X112, ⟨Lc112, hQ112, l112, y112, z112⟩, st112⟩ := X105.virtualBack hx (y := (⟨"org/stowage/format/IntList", "contains", "(I)Z"⟩ : MethodName)) (z := (⟨"org/stowage/format/IntList", "contains", "(I)Z"⟩ : MethodName)) hown (mvT hZ (hw _ (List.mem_of_getElem? (i := 28) rfl))) (mvT hZ (hw _ (List.mem_of_getElem? (i := 29) rfl))) (notFace_of_selects (args := #[]) (mvT hZ (hw _ (List.mem_of_getElem? (i := 31) rfl)))) (mvT hZ (hw _ (List.mem_of_getElem? (i := 31) rfl))) (mvT hZ (hw _ (List.mem_of_getElem? (i := 30) rfl))) (by decide) (backOf (W := 0) (rm3_3 l Z a0 hw [] b66 d100 k71 x1 x2 x3 pr ex T105.heap n0 z108 Fv105 Fs105 f107 hex) hZ (hw _ (List.mem_of_getElem? (i := 32) rfl)) (hw _ (List.mem_of_getElem? (i := 2) rfl)) (by decide) (by decide)) q112a q112c (g := (mkF m 129 #[.val (.int x1), .val (.int x2), .val (.int x3), .val (.int p4), .val (.int p5), .val (.int (3 : Int32)), .val (.int mm), .val (.int pr), .val (.ref b66), .val (.int ex)] [(.int pr), (.ref b66)])) rfl (by rw [hml]; rfl) (Steps.refl _) (argsL := [(.int pr)]) (rest := []) (lenOf pd__I_Z rfl) rfl (by show 2 * 0 + _ ≤ _; exact Nat.le_of_eq rfl) (hb hby at_129) (fun _ _ => ⟨rfl, rfl, (by decide : 3 + 0 ≤ _), (by decide : 8 + 0 ≤ _)⟩)
    dsimp only [Pt.U, Pt.locs, Pt.cells, Pt.slots] at X112 l112 y112 z112 st112 hQ112
    subst l112 y112 z112
    obtain ⟨rfl, N112q, hh112⟩ := hQ112
    have N112 := Fr.app N105 N112q
    refine own_go (fun t k => st112.trans k) ?_
    show own_G p.tables e below s _ _ _ (T112.setTop (mkF m 132 #[.val (.int x1), .val (.int x2), .val (.int x3), .val (.int p4), .val (.int p5), .val (.int (3 : Int32)), .val (.int mm), .val (.int pr), .val (.ref b66), .val (.int ex)] [(.int ex)]))
    refine own_go (fun t k => XS.iload X112.here hx rfl (hb hby at_132) rfl k) ?_
    show own_G p.tables e below s _ _ _ (T112.setTop (mkF m 134 #[.val (.int x1), .val (.int x2), .val (.int x3), .val (.int p4), .val (.int p5), .val (.int (3 : Int32)), .val (.int mm), .val (.int pr), .val (.ref b66), .val (.int ex)] [(.int ex), (.int ex)]))
    refine own_go (fun t k => XS.icmpNo X112.here hx rfl (hb hby at_134) rfl (Jvm.Free.XT.ii_ne_f rfl) k) ?_
    show own_G p.tables e below s _ _ _ (T112.setTop (mkF m 137 #[.val (.int x1), .val (.int x2), .val (.int x3), .val (.int p4), .val (.int p5), .val (.int (3 : Int32)), .val (.int mm), .val (.int pr), .val (.ref b66), .val (.int ex)] []))
    refine own_go (fun t k => XS.iconst X112.here hx rfl (hb hby at_137) k) ?_
    show own_G p.tables e below s _ _ _ (T112.setTop (mkF m 138 #[.val (.int x1), .val (.int x2), .val (.int x3), .val (.int p4), .val (.int p5), .val (.int (3 : Int32)), .val (.int mm), .val (.int pr), .val (.ref b66), .val (.int ex)] [(.int (1 : Int32))]))
    refine own_go (fun t k => XS.goto X112.here hx rfl (pc0 := 138) (pc' := 142) rfl (hb hby at_138) (by decide) (by decide) k) ?_
    show own_G p.tables e below s _ _ _ (T112.setTop (mkF m 142 #[.val (.int x1), .val (.int x2), .val (.int x3), .val (.int p4), .val (.int p5), .val (.int (3 : Int32)), .val (.int mm), .val (.int pr), .val (.ref b66), .val (.int ex)] [(.int (1 : Int32))]))
    exact own_retN X112 hx hlk (t := .boolean) (z' := (1 : Int32)) Bd.returns (by simp) (hb hby at_142) (rfl) (by rw [hh112]; exact ⟨rfl, N112⟩) (by decide) (by decide)
set_option maxRecDepth 65536 in
set_option maxHeartbeats 40000000 in
theorem comes_1 {Post : Tables → Env → Array Value → State → Outcome → State → Prop} (hpost : ∀ tb e args s v u, (limb_1_1.after args s (.returned v) u = true ∧ limb_1_2.after args s (.returned v) u = true ∧ True) → FrameEnd s (.returned v) u (Jvm.fieldLocs frame_1_writes args s ++ Jvm.arrayLocs frame_1_arrays args s ++ Jvm.staticLocs frame_1_statics s) 16 128 → Post tb e args s (.returned v) u) :
    ArmFor flags0 classFile x code maxLocals ret World_1 tables_1 room_1 Calls_1 rest_1 Pre_1 Post := by
  intro l hfl _ _ p e ha hc hk s m args below hf hA hF happ hP
  obtain ⟨hcalls, hrest, hpre⟩ := hP
  obtain ⟨-, -, -, hnamed, -, -, -, hat⟩ := (Spec.applies_iff hf).mp happ
  obtain ⟨hg, hn⟩ := and_e (Cond.before_iff.mp (show (Jvm.Cond.and given_1 narrow_1).before args s = true from hpre))
  obtain ⟨gc, g0'⟩ := and_e hg
  obtain ⟨ga0, g1'⟩ := and_e g0'
  obtain ⟨ga1, g2'⟩ := and_e g1'
  obtain ⟨ga2, g3'⟩ := and_e g2'
  obtain ⟨ga3, g4'⟩ := and_e g3'
  have ga4 := g4'
  obtain ⟨w0, w1, w2, w3, w4, rfl⟩ : ∃ w0 w1 w2 w3 w4 : Value, args = #[w0, w1, w2, w3, w4] := by
    have hs : args.size = 5 := by simpa [Cond.value, given_1] using gc
    obtain ⟨L⟩ := args
    match L, hs with
    | [w0, w1, w2, w3, w4], _ => exact ⟨w0, w1, w2, w3, w4, rfl⟩
  have hw := fun d (hd : d ∈ tables_1) => atoms_spec (ws := Jvm.Cond.code x code maxLocals ret :: tables_1) hat d (List.mem_cons_of_mem _ hd)
  have hfit : Fit s := fun {y c} hc i hi => by
    obtain ⟨ha, rfl⟩ := Array.getElem?_eq_some_iff.mp hc
    have q := List.all_eq_true.mp ((Array.all_eq_true_iff_forall_mem.mp hF) _ (Array.getElem_mem ha)) i (List.mem_range.mpr hi)
    simpa [Array.getElem?_eq_getElem hi] using q
  obtain ⟨i0, ei0⟩ := is_v ga0
  obtain rfl : w0 = (.int i0) := Option.some.inj ei0
  obtain ⟨i1, ei1⟩ := is_v ga1
  obtain rfl : w1 = (.int i1) := Option.some.inj ei1
  obtain ⟨i2, ei2⟩ := is_v ga2
  obtain rfl : w2 = (.int i2) := Option.some.inj ei2
  obtain ⟨i3, ei3⟩ := is_v ga3
  obtain rfl : w3 = (.int i3) := Option.some.inj ei3
  obtain ⟨i4, ei4⟩ := is_v ga4
  obtain rfl : w4 = (.int i4) := Option.some.inj ei4
  obtain ⟨n, o, h1, h2, h3, _, L, rfl, ⟨rfl, N⟩, hq⟩ := rm0 l s _ hw tables_1 i0 i1 i2 i3 i4 s.heap s.heap.size (Nat.le_refl _) p e ha hc hk s m _ below hf ((Spec.applies_iff_loose hf).mp happ).1 ⟨rfl, State.Warmed39.refl s, rfl⟩ trivial
  refine ⟨n, _, h1, h2, h3, hpost _ _ _ _ _ _ ⟨Cond.after_iff.mpr rfl, Cond.after_iff.mpr (eq_i res_at (Term.int_eval (1)) rfl), trivial⟩ ⟨hq.1, hq.2.1, (hq.2.2.sift fun y hy => Or.inr (N y hy)).mono (by decide) (by decide)⟩⟩
theorem main_1_1 : Claimed_1_1 := comes_1 fun _ _ _ _ _ _ h hF => ⟨h.1, hF⟩
theorem main_1_2 : Claimed_1_2 := comes_1 fun _ _ _ _ _ _ h hF => ⟨h.2.1, hF⟩
end Jvm.Pilot.@@N@@
namespace Jvm.Pilot.@@N@@
open Jvm Jvm.ClassFile Sem Op Lib Jvm.Free Jvm.Stand Jvm.Pilot.@@N@@.Jvm.D
/-! MADE BY PROGRAM (witnessworld.py) out of the Statement's table words and the real class files: 9 classes; the members and pool entries that the words name. The judged class is class 1, her method 1. -/
namespace start1
open Jvm.ClassFile
def u (s : String) : CpInfo := .utf8 (stringToUtf16 s)
/-- a pool by its gaps: so many unusable entries, then the entry; so many at the end -/
def gap : Nat → List CpInfo → List CpInfo
  | 0, r => r
  | n + 1, r => .unusable :: gap n r
def poolList (es : List (Nat × CpInfo)) (last : Nat) : List CpInfo := es.foldr (fun e r => gap e.1 (e.2 :: r)) (gap last [])
def pool (es : List (Nat × CpInfo)) (last : Nat) : Array CpInfo := ⟨poolList es last⟩
def fileOf (pool : Array CpInfo) (this : Nat) (attrs : Array Attribute := #[]) (ms : Array MethodInfo := #[]) (fl : Nat := 33) (sup : Nat := 0) (ifs : Array Nat := #[]) (fds : Array FieldInfo := #[]) : ClassFile where
  minorVersion := 0
  majorVersion := 65
  constantPool := pool
  accessFlags := fl
  thisClass := this
  superClass := sup
  interfaces := ifs
  fields := fds
  methods := ms
  attributes := attrs
def plain (name : String) (sup : Option ClassId) : Class where
  name := name
  kind := .ordinary
  loader := none
  accessFlags := 33
  super := sup
  interfaces := #[]
  cf := none
  fields := #[]
  methods := #[]
  instanceTypes := #[]
  staticTypes := #[]
  resolved := #[]
  callSites := []
  init := .initialized
  statics := none
  mirror := none

def pool0 : Array CpInfo := pool [(5, u "<init>"), (0, u "()V"), (1, .class_ 10), (1, u "java/lang/Object"), (85, u "clone"), (0, u "()Ljava/lang/Object;")] 26

def k0c0 : Code := { maxStack := 0, maxLocals := 1, code := object_method_1_code, exceptionTable := #[], attributes := #[] }
def k0m0 : Method := { name := "<init>", desc := "()V", sig := { parameters := [], returnType := none }, accessFlags := 1, code := some k0c0 }
def k0m1 : Method := { name := "clone", desc := "()Ljava/lang/Object;", sig := { parameters := [], returnType := some (.object "java/lang/Object") }, accessFlags := 260, code := none }
/-- java/lang/Object -/
def k0 : Class := { plain "java/lang/Object" none with
  accessFlags := 33
  interfaces := #[]
  cf := some (fileOf pool0 8 #[] #[{ accessFlags := 1, nameIndex := 5, descriptorIndex := 6, attributes := #[] }, { accessFlags := 260, nameIndex := 96, descriptorIndex := 97, attributes := #[] }] 33 0 #[] #[])
  fields := #[]
  methods := #[k0m0, k0m1]
  instanceTypes := #[]
  staticTypes := #[]
  resolved := Array.replicate 124 none
  statics := none }

def pool1 : Array CpInfo := pool [(2, .class_ 4), (1, u "java/lang/Object"), (0, u "<init>"), (0, u "()V"), (0, .class_ 8), (0, u "org/stowage/format/IntList"), (0, .methodref 7 10), (0, .nameAndType 5 11), (0, u "([I)V"), (0, .methodref 7 13), (0, .nameAndType 14 15), (0, u "truncate"), (0, u "(I)V"), (0, .methodref 7 17), (0, .nameAndType 18 19), (0, u "contains"), (0, u "(I)Z"), (0, .class_ 21), (0, u "org/stowage/format/IntListContainsPinLaw"), (2, u "law"), (0, u "(IIIII)Z")] 3

def k1m0 : Method := { name := "<init>", desc := "()V", sig := { parameters := [], returnType := none }, accessFlags := 1, code := none }
def k1c1 : Code := { maxStack := 6, maxLocals := 10, code := code, exceptionTable := #[], attributes := #[] }
def k1m1 : Method := { name := "law", desc := "(IIIII)Z", sig := { parameters := [.int, .int, .int, .int, .int], returnType := some .boolean }, accessFlags := 9, code := some k1c1 }
/-- org/stowage/format/IntListContainsPinLaw -/
def k1 : Class := { plain "org/stowage/format/IntListContainsPinLaw" (some 0) with
  accessFlags := 49
  interfaces := #[]
  cf := some (fileOf pool1 20 #[] #[{ accessFlags := 1, nameIndex := 5, descriptorIndex := 6, attributes := #[] }, { accessFlags := 9, nameIndex := 24, descriptorIndex := 25, attributes := #[] }] 49 2 #[] #[])
  fields := #[]
  methods := #[k1m0, k1m1]
  instanceTypes := #[]
  staticTypes := #[]
  resolved := Array.replicate 29 none
  statics := none }

def pool2 : Array CpInfo := pool [(2, .class_ 4), (1, u "org/stowage/format/IntList"), (0, u "<init>"), (0, u "([I)V"), (0, .methodref 8 9), (0, .class_ 10), (0, .nameAndType 5 11), (0, u "java/lang/Object"), (0, u "()V"), (0, .methodref 13 14), (0, .class_ 15), (0, .nameAndType 16 17), (0, u "[I"), (0, u "clone"), (0, u "()Ljava/lang/Object;"), (0, .fieldref 2 19), (0, .nameAndType 20 15), (0, u "values"), (0, .fieldref 2 22), (0, .nameAndType 23 24), (0, u "size"), (0, u "I"), (4, u "(I)V"), (22, u "truncate"), (0, u "contains"), (0, u "(I)Z")] 4

def k2m0 : Method := { name := "<init>", desc := "()V", sig := { parameters := [], returnType := none }, accessFlags := 0, code := none }
def k2c1 : Code := { maxStack := 2, maxLocals := 2, code := prog_66_method_2_code, exceptionTable := #[], attributes := #[] }
def k2m1 : Method := { name := "<init>", desc := "([I)V", sig := { parameters := [(.array .int)], returnType := none }, accessFlags := 0, code := some k2c1 }
def k2c2 : Code := { maxStack := 3, maxLocals := 2, code := prog_66_method_7_code, exceptionTable := #[], attributes := #[] }
def k2m2 : Method := { name := "truncate", desc := "(I)V", sig := { parameters := [.int], returnType := none }, accessFlags := 0, code := some k2c2 }
def k2c3 : Code := { maxStack := 2, maxLocals := 3, code := prog_66_method_8_code, exceptionTable := #[], attributes := #[] }
def k2m3 : Method := { name := "contains", desc := "(I)Z", sig := { parameters := [.int], returnType := some .boolean }, accessFlags := 0, code := some k2c3 }
/-- org/stowage/format/IntList -/
def k2 : Class := { plain "org/stowage/format/IntList" (some 0) with
  accessFlags := 48
  interfaces := #[]
  cf := some (fileOf pool2 2 #[] #[{ accessFlags := 0, nameIndex := 5, descriptorIndex := 11, attributes := #[] }, { accessFlags := 0, nameIndex := 5, descriptorIndex := 6, attributes := #[] }, { accessFlags := 0, nameIndex := 52, descriptorIndex := 29, attributes := #[] }, { accessFlags := 0, nameIndex := 53, descriptorIndex := 54, attributes := #[] }] 48 8 #[] #[{ accessFlags := 2, nameIndex := 20, descriptorIndex := 15, attributes := #[] }, { accessFlags := 2, nameIndex := 23, descriptorIndex := 24, attributes := #[] }])
  fields := #[{ name := "values", type := (.array .int), accessFlags := 2, slot := 0, constantValue := 0 }, { name := "size", type := .int, accessFlags := 2, slot := 1, constantValue := 0 }]
  methods := #[k2m0, k2m1, k2m2, k2m3]
  instanceTypes := #[(.array .int), .int]
  staticTypes := #[]
  resolved := Array.replicate 59 none
  statics := none }

def pool3 : Array CpInfo := pool [(1, .class_ 2), (0, u "java/lang/Cloneable"), (0, .class_ 4), (0, u "java/lang/Object")] 2

/-- java/lang/Cloneable -/
def k3 : Class := { plain "java/lang/Cloneable" (some 0) with
  accessFlags := 1537
  interfaces := #[]
  cf := some (fileOf pool3 1 #[] #[] 1537 3 #[] #[])
  fields := #[]
  methods := #[]
  instanceTypes := #[]
  staticTypes := #[]
  resolved := Array.replicate 7 none
  statics := none }

def pool4 : Array CpInfo := pool [(1, u "java/io/Serializable"), (0, .class_ 1), (0, u "java/lang/Object"), (0, .class_ 3)] 3

/-- java/io/Serializable -/
def k4 : Class := { plain "java/io/Serializable" (some 0) with
  accessFlags := 1537
  interfaces := #[]
  cf := some (fileOf pool4 2 #[] #[] 1537 4 #[] #[])
  fields := #[]
  methods := #[]
  instanceTypes := #[]
  staticTypes := #[]
  resolved := Array.replicate 8 none
  statics := none }

/-- the primitive byte -/
def k5 : Class := { plain "byte" none with kind := .primitive 'B', accessFlags := 0x411 }
/-- [B -/
def k6 : Class := { plain "[B" (some 0) with kind := .array 5 .byte, interfaces := #[3, 4], accessFlags := 1041 }

/-- the primitive int -/
def k7 : Class := { plain "int" none with kind := .primitive 'I', accessFlags := 0x411 }
/-- [I -/
def k8 : Class := { plain "[I" (some 0) with kind := .array 7 .int, interfaces := #[3, 4], accessFlags := 1041 }

def heap : Heap := #[]
def classes : Array Class := #[k0, k1, k2, k3, k4, k5, k6, k7, k8]
def interned : List (Array UInt16 × Addr) := []
def slotsUsed : Nat := 0
def theMethod : MethodId := ⟨1, 1⟩
def args0 : Array Value := #[.int 0, .int 1, .int 2, .int 3, .int 4]
def aboutOver (below : List Frame) : State where
  vm := { classes := classes, interned := interned.toArray }
  heap := heap
  slotsUsed := slotsUsed
  threads := #[{ frames := .invoking theMethod args0 :: below }]
def below0 : List Frame := [.native { method := ⟨0, 0⟩, args := #[] }]
def about1 : State := aboutOver below0
def p0 : Program := .bare "" "" ""
def e0 : Env := launch0.env 0 0 0
theorem w_frames : about1.frames = Frame.invoking theMethod args0 :: below0 := rfl
set_option maxRecDepth 65536 in
theorem w_args : argsFit about1.vm theMethod args0 = true := by decide +kernel
set_option maxRecDepth 65536 in
theorem w_heap : heapFits about1 = true := by decide +kernel
set_option maxRecDepth 65536 in
theorem w_runnable : about1.curStatus? = some .runnable := by decide +kernel
set_option maxRecDepth 65536 in
theorem w_alone : about1.alone = true := by decide +kernel
set_option maxRecDepth 65536 in
theorem w_named : about1.methodNamed? x = some theMethod := by decide +kernel
set_option maxRecDepth 65536 in
theorem w_hears : about1.hears theMethod below0 = true := by decide +kernel
set_option maxRecDepth 65536 in
theorem w_ripe : about1.ripe theMethod args0 below0 = true := by decide +kernel
theorem w_running : about1.status = .running := rfl
set_option maxRecDepth 65536 in
theorem w_room : about1.hasRoom e0.platform room_1 = true :=
  launch0.hasRoom_least _ room_1 (by decide +kernel) (by decide +kernel) (by decide +kernel) (by decide +kernel) (by decide +kernel) (by decide +kernel)
theorem allAtoms_all (ts : List Jvm.Cond) (a : Array Jvm.Value) (st : Jvm.State) : (allAtoms ts).before a st = ts.all (fun c => c.before a st) := by
  induction ts with
  | nil => rfl
  | cons c t ih =>
    show (Jvm.Cond.and c (allAtoms t)).before a st = _
    rw [Jvm.Cond.before_and, ih, List.all_cons]
def words1 : List Jvm.Cond := Jvm.Cond.code x code maxLocals ret :: tables_1
/-- a 'code' word, met by the world's own term for the bytes: nothing is compared byte by byte -/
theorem code_word {y : MethodName} {bytes : ByteArray} {mx : Nat} {rt : Option FieldType} {a : Array Value} {s : State} {m : MethodId} {meth : Method} {c : Code} (h1 : s.methodNamed? y = some m) (h2 : s.vm.method? m = some meth) (h3 : meth.code = some c) (h4 : c.code = bytes)
    (h5 : (c.maxLocals == mx && c.exceptionTable.isEmpty && decide (c.maxStack ≤ mostOperands) && decide (meth.sig.returnType = rt) && !meth.locks && decide (parseMethodDescriptor y.desc = some meth.sig)) = true) : (Jvm.Cond.code y bytes mx rt).before a s = true := by
  simp only [Bool.and_eq_true, beq_iff_eq, Bool.not_eq_true', decide_eq_true_eq] at h5
  obtain ⟨⟨⟨⟨⟨g1, g2⟩, g3⟩, g4⟩, g5⟩, g6⟩ := h5
  simp [Cond.before, Cond.holds, Cond.value, h1, h2, h3, h4, g1, g2, g3, g4, g5, g6]
def isCode : Jvm.Cond → Bool
  | .code _ _ _ _ => true
  | _ => false
theorem all_split {L : List Jvm.Cond} {P : Jvm.Cond → Bool} (h1 : L.all (fun c => isCode c || P c) = true) (h2 : ∀ c ∈ L.filter isCode, P c = true) : L.all P = true := by
  refine List.all_eq_true.mpr fun c hc => ?_
  have h := List.all_eq_true.mp h1 c hc
  rcases Bool.eq_false_or_eq_true (isCode c) with hi | hi
  · exact h2 c (List.mem_filter.mpr ⟨hc, hi⟩)
  · simpa [hi] using h
set_option maxRecDepth 65536 in
theorem w_c0 : (Jvm.Cond.code x code maxLocals ret).before args0 about1 = true := code_word (m := ⟨1, 1⟩) (meth := k1m1) (c := k1c1) (by decide +kernel) rfl rfl rfl (by decide +kernel)
set_option maxRecDepth 65536 in
theorem w_c1 : (Jvm.Cond.code ({ cls := "org/stowage/format/IntList", name := "<init>", desc := "([I)V" } : Jvm.MethodName) prog_66_method_2_code (2 : Nat) (Option.none : Option Jvm.ClassFile.FieldType)).before args0 about1 = true := code_word (m := ⟨2, 1⟩) (meth := k2m1) (c := k2c1) (by decide +kernel) rfl rfl rfl (by decide +kernel)
set_option maxRecDepth 65536 in
theorem w_c2 : (Jvm.Cond.code ({ cls := "java/lang/Object", name := "<init>", desc := "()V" } : Jvm.MethodName) object_method_1_code (1 : Nat) (Option.none : Option Jvm.ClassFile.FieldType)).before args0 about1 = true := code_word (m := ⟨0, 0⟩) (meth := k0m0) (c := k0c0) (by decide +kernel) rfl rfl rfl (by decide +kernel)
set_option maxRecDepth 65536 in
theorem w_c3 : (Jvm.Cond.code ({ cls := "org/stowage/format/IntList", name := "truncate", desc := "(I)V" } : Jvm.MethodName) prog_66_method_7_code (2 : Nat) (Option.none : Option Jvm.ClassFile.FieldType)).before args0 about1 = true := code_word (m := ⟨2, 2⟩) (meth := k2m2) (c := k2c2) (by decide +kernel) rfl rfl rfl (by decide +kernel)
set_option maxRecDepth 65536 in
theorem w_c4 : (Jvm.Cond.code ({ cls := "org/stowage/format/IntList", name := "contains", desc := "(I)Z" } : Jvm.MethodName) prog_66_method_8_code (3 : Nat) (Option.some Jvm.ClassFile.FieldType.boolean)).before args0 about1 = true := code_word (m := ⟨2, 3⟩) (meth := k2m3) (c := k2c3) (by decide +kernel) rfl rfl rfl (by decide +kernel)
def codes1 : List Jvm.Cond := [Jvm.Cond.code x code maxLocals ret, Jvm.Cond.code ({ cls := "org/stowage/format/IntList", name := "<init>", desc := "([I)V" } : Jvm.MethodName) prog_66_method_2_code (2 : Nat) (Option.none : Option Jvm.ClassFile.FieldType), Jvm.Cond.code ({ cls := "java/lang/Object", name := "<init>", desc := "()V" } : Jvm.MethodName) object_method_1_code (1 : Nat) (Option.none : Option Jvm.ClassFile.FieldType), Jvm.Cond.code ({ cls := "org/stowage/format/IntList", name := "truncate", desc := "(I)V" } : Jvm.MethodName) prog_66_method_7_code (2 : Nat) (Option.none : Option Jvm.ClassFile.FieldType), Jvm.Cond.code ({ cls := "org/stowage/format/IntList", name := "contains", desc := "(I)Z" } : Jvm.MethodName) prog_66_method_8_code (3 : Nat) (Option.some Jvm.ClassFile.FieldType.boolean)]
set_option maxRecDepth 65536 in
theorem codes_eq : words1.filter isCode = codes1 := rfl
theorem w_codes : ∀ c ∈ words1.filter isCode, c.before args0 about1 = true := by
  rw [codes_eq]
  intro c hc
  simp only [codes1, List.mem_cons, List.not_mem_nil, or_false] at hc
  rcases hc with rfl | rfl | rfl | rfl | rfl
  · exact w_c0
  · exact w_c1
  · exact w_c2
  · exact w_c3
  · exact w_c4
set_option maxRecDepth 65536 in
theorem w_t1 : (words1.take 24).all (fun c => isCode c || c.before args0 about1) = true := by decide +kernel
set_option maxRecDepth 65536 in
theorem w_t2 : (words1.drop 24).all (fun c => isCode c || c.before args0 about1) = true := by decide +kernel
theorem w_tables : (allAtoms (Jvm.Cond.code x code maxLocals ret :: tables_1)).before args0 about1 = true := by
  rw [allAtoms_all]
  show words1.all (fun c => c.before args0 about1) = true
  refine all_split ?_ w_codes
  rw [← List.take_append_drop 24 words1, List.all_append, w_t1, w_t2]
  rfl
set_option maxRecDepth 65536 in
theorem w_case : (Jvm.Cond.and given_1 narrow_1).before args0 about1 = true := by decide +kernel
theorem w_applies : (headSpec (Jvm.Cond.code x code maxLocals ret :: tables_1) room_1).applies x e0.platform about1 = true :=
  (Spec.applies_iff w_frames).mpr ⟨w_running, w_runnable, w_alone, w_named, w_hears, w_ripe, w_room, w_tables⟩
theorem atStart : AtStart classFile x code maxLocals ret World_1 tables_1 room_1 Calls_1 rest_1 Pre_1 launch0 p0 e0 about1 theMethod args0 below0 :=
  ⟨lists_1, trivial, launch0.admits_env _ _ _, launch0.least_env, fairChoices_fair.cas, fairChoices_fair.clock, w_frames, w_args, w_heap, w_applies, trivial, trivial, w_case⟩
end start1
theorem witness_1 : WitnessClaimed_1 := ⟨start1.p0, start1.e0, start1.about1, start1.theMethod, start1.args0, start1.below0, start1.atStart⟩
end Jvm.Pilot.@@N@@
