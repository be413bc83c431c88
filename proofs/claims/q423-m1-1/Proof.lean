import JvmDerived
import JvmDerived.Pilot.@@N@@Statement
import JvmDerived.Pilot.@@N@@Code
set_option linter.unusedVariables false
set_option linter.unusedSimpArgs false
namespace Jvm.RoadKit
open Sem ClassFile Op Lib Jvm.Stand Jvm.Free Jvm.LawKit
section OwnKit
variable {p : Program} {l : Launch} {e : Env} {R : Room} {s : State} {m : MethodId} {args : Array Value} {below : List Frame} {meth : Method} {c : Code} {T : State} {locs : List Loc} {cells slots : Nat}
/-- a run that stands in S comes to an end of the invocation, of which Q is said -/
def own_G (tb : Tables) (e : Env) (below : List Frame) (s : State) (Q : Option Value → Heap → List Loc → Prop) (k n : Nat) (S : State) : Prop :=
  ∃ s₂ o, Steps tb e below S s₂ ∧ s₂.status = .running ∧ Ended s₂ below o ∧ ∃ v L, o = .returned v ∧ Q v s₂.heap L ∧ FrameEnd s o s₂ L k n
variable {tb : Tables} {Q : Option Value → Heap → List Loc → Prop} {k n : Nat}
theorem own_go {A B : State} (st : ∀ t, Steps tb e below A t → Steps tb e below B t) (h : own_G tb e below s Q k n A) : own_G tb e below s Q k n B := by
  obtain ⟨s₂, o, h1, h2⟩ := h
  exact ⟨s₂, o, st _ h1, h2⟩
theorem own_ret (X : Stand p l e R s m args below meth c T locs cells slots) {v : Option Value} (hv : meth.sig.returnType = none → v = none) (hlk : meth.locks = false) (hQ : Q v T.heap locs) (hk : cells ≤ k) (hn : slots ≤ n) {S : State}
    (st : ∀ fs, (∀ (f : JFrame) (acts : List Action), f.method = m → f.locked = none → f.entered = [] → (doReturn e (T.setTop f) acts v).1 = T.setFrames fs) → Steps p.tables e below S (T.setFrames fs)) : own_G p.tables e below s Q k n S := by
  obtain ⟨fs, hr, hrun, hended, hW, hsame⟩ := X.leave hv hlk
  exact ⟨_, _, st fs hr, hrun, hended, _, _, rfl, hQ, ⟨_, rfl⟩, hW, hsame.mono hk hn⟩
variable {pc : Nat} {Ls : Array Slot} {rest : List Value}
theorem own_retN (X : Stand p l e R s m args below meth c T locs cells slots) (hx : p.tables.exec = Jvm.exec) (hlk : meth.locks = false) {t : FieldType} {z z' : Int32} (hret : meth.sig.returnType = some t) (ht : t = .boolean ∨ t = .byte ∨ t = .char ∨ t = .short) (hd : decode c.code pc = .ok (.ireturn, 1)) (hz : nar t z = z') (hQ : Q (some (.int z')) T.heap locs) (hk : cells ≤ k) (hn : slots ≤ n) :
    own_G p.tables e below s Q k n (T.setTop (mkF m pc Ls (.int z :: rest))) := by
  subst hz
  exact own_ret X (fun h => by rw [hret] at h; cases h) hlk hQ hk hn fun fs hr => retN X hx hret ht hd hr
theorem own_retI (X : Stand p l e R s m args below meth c T locs cells slots) (hx : p.tables.exec = Jvm.exec) (hlk : meth.locks = false) {z : Int32} (hret : meth.sig.returnType = some .int) (hd : decode c.code pc = .ok (.ireturn, 1)) (hQ : Q (some (.int z)) T.heap locs) (hk : cells ≤ k) (hn : slots ≤ n) :
    own_G p.tables e below s Q k n (T.setTop (mkF m pc Ls (.int z :: rest))) :=
  own_ret X (fun h => by rw [hret] at h; cases h) hlk hQ hk hn fun fs hr => retOut X hx hret rfl (Or.inl ⟨rfl, Or.inl rfl, _, rfl⟩) hd hr
theorem own_retJ (X : Stand p l e R s m args below meth c T locs cells slots) (hx : p.tables.exec = Jvm.exec) (hlk : meth.locks = false) {z : Int64} (hret : meth.sig.returnType = some .long) (hd : decode c.code pc = .ok (.lreturn, 1)) (hQ : Q (some (.long z)) T.heap locs) (hk : cells ≤ k) (hn : slots ≤ n) :
    own_G p.tables e below s Q k n (T.setTop (mkF m pc Ls (.long z :: rest))) :=
  own_ret X (fun h => by rw [hret] at h; cases h) hlk hQ hk hn fun fs hr => retOut X hx hret rfl (Or.inr (Or.inl ⟨rfl, rfl, _, rfl⟩)) hd hr
theorem own_retA (X : Stand p l e R s m args below meth c T locs cells slots) (hx : p.tables.exec = Jvm.exec) (hlk : meth.locks = false) {t : FieldType} {w : Value} (hret : meth.sig.returnType = some t) (ht : t.isReference = true) (hv : w.isRef = true) (hd : decode c.code pc = .ok (.areturn, 1)) (hQ : Q (some w) T.heap locs) (hk : cells ≤ k) (hn : slots ≤ n) :
    own_G p.tables e below s Q k n (T.setTop (mkF m pc Ls (w :: rest))) :=
  own_ret X (fun h => by rw [hret] at h; cases h) hlk hQ hk hn fun fs hr => retOut X hx hret (by rcases ref_cases hv with rfl | ⟨_, rfl⟩ <;> cases t <;> first | rfl | cases ht) (Or.inr (Or.inr (Or.inr (Or.inr ⟨rfl, ht, hv⟩)))) hd hr
theorem own_retV (X : Stand p l e R s m args below meth c T locs cells slots) (hx : p.tables.exec = Jvm.exec) (hlk : meth.locks = false) (hret : meth.sig.returnType = none) (hd : decode c.code pc = .ok (.return_, 1)) (hQ : Q none T.heap locs) (hk : cells ≤ k) (hn : slots ≤ n) :
    own_G p.tables e below s Q k n (T.setTop (mkF m pc Ls [])) :=
  own_ret X (fun _ => rfl) hlk hQ hk hn fun fs hr => X.returnOut hx hret hd hr
end OwnKit
end Jvm.RoadKit
namespace Jvm.Pilot.@@N@@
open Jvm Jvm.ClassFile Sem Op Lib Jvm.Free Jvm.Stand Jvm.LawKit Jvm.RoadKit Bundle Jvm.Pilot.@@N@@.Jvm.D
theorem own_bits (w a b : BitVec 32) (h : ∀ i (hi : i < 32), (a[i] && b[i]) = false) : (w ||| a) &&& b = w &&& b := by
  apply BitVec.eq_of_getElem_eq
  intro i hi
  rw [BitVec.getElem_and, BitVec.getElem_or, BitVec.getElem_and]
  have q := h i hi
  revert q
  cases w[i] <;> cases a[i] <;> cases b[i] <;> simp
theorem own_bits2 (w a b s : BitVec 32) (h1 : ∀ i (hi : i < 32), i ≠ 31 → (a[i] = false ∧ b[i] = true)) (h2 : b[31] = false) (hm : s[31] = false) : ((w &&& a) ||| s) &&& b = s := by
  apply BitVec.eq_of_getElem_eq
  intro i hi
  rw [BitVec.getElem_and, BitVec.getElem_or, BitVec.getElem_and]
  by_cases e : i = 31
  · subst e
    rw [h2, hm]; simp
  · rw [(h1 i hi e).1, (h1 i hi e).2]; simp
theorem own_set (w r s : Int32) (hr : r = 0 ∨ r = 1) (hs : ¬ s < 0) (hw : w &&& (2147483647 : Int32) = s) : (if (if r = 0 then w &&& (2147483647 : Int32) else w ||| (-2147483648 : Int32)) < 0 then (1 : Int32) else 0) = r ∧ (if r = 0 then w &&& (2147483647 : Int32) else w ||| (-2147483648 : Int32)) &&& (2147483647 : Int32) = s := by
  have hn : ∀ y : Int32, ¬ ((y &&& (2147483647 : Int32)) < 0) := fun y h => absurd ((Jvm.Free.XT.and_neg32 _ _).mp h).2 (by decide)
  rcases hr with rfl | rfl
  · rw [if_pos rfl, if_neg (hn w)]
    refine ⟨rfl, ?_⟩
    rw [Int32.and_assoc]
    exact hw
  · rw [if_neg (show ¬ ((1 : Int32) = 0) by decide)]
    constructor
    · have : (w ||| (-2147483648 : Int32)) < 0 := by
        rw [Jvm.Free.XT.neg32]
        rw [Int32.toBitVec_or, BitVec.msb_or, show (-2147483648 : Int32).toBitVec.msb = true by decide, Bool.or_true]
      rw [if_pos this]
    · rw [← hw]
      exact Int32.toBitVec_inj.mp (own_bits w.toBitVec (-2147483648 : Int32).toBitVec (2147483647 : Int32).toBitVec (by decide))
theorem own_size (w s : Int32) (hs : ¬ s < 0) : ((w &&& (-2147483648 : Int32)) ||| s) &&& (2147483647 : Int32) = s := by
  rw [Jvm.Free.XT.neg32] at hs
  have hm : s.toBitVec.msb = false := by simpa using hs
  refine Int32.toBitVec_inj.mp (own_bits2 w.toBitVec (-2147483648 : Int32).toBitVec (2147483647 : Int32).toBitVec s.toBitVec (by decide) (by decide) ?_)
  rw [BitVec.msb_eq_getLsbD_last] at hm
  simpa [BitVec.getLsbD_eq_getElem] using hm
theorem own_mask (x : Int32) : ¬ ((x &&& (2147483647 : Int32)) < 0) := fun h => absurd ((Jvm.Free.XT.and_neg32 _ _).mp h).2 (by decide)
theorem d1_0 : decode prog_6_method_1_code 0 = .ok (.aload_n 0, 1) := by decide +kernel
theorem d1_1 : decode prog_6_method_1_code 1 = .ok (.invokespecial 3, 3) := by decide +kernel
theorem d1_4 : decode prog_6_method_1_code 4 = .ok (.aload_n 0, 1) := by decide +kernel
theorem d1_5 : decode prog_6_method_1_code 5 = .ok (.aload_n 1, 1) := by decide +kernel
theorem d1_6 : decode prog_6_method_1_code 6 = .ok (.putfield 9, 3) := by decide +kernel
theorem d1_9 : decode prog_6_method_1_code 9 = .ok (.aload_n 0, 1) := by decide +kernel
theorem d1_10 : decode prog_6_method_1_code 10 = .ok (.aload_n 2, 1) := by decide +kernel
theorem d1_11 : decode prog_6_method_1_code 11 = .ok (.putfield 15, 3) := by decide +kernel
theorem d1_14 : decode prog_6_method_1_code 14 = .ok (.aload_n 0, 1) := by decide +kernel
theorem d1_15 : decode prog_6_method_1_code 15 = .ok (.iload_n 3, 1) := by decide +kernel
theorem d1_16 : decode prog_6_method_1_code 16 = .ok (.ifCond .eq 8, 3) := by decide +kernel
theorem d1_24 : decode prog_6_method_1_code 24 = .ok (.iconst 1, 1) := by decide +kernel
theorem d1_25 : decode prog_6_method_1_code 25 = .ok (.putfield 19, 3) := by decide +kernel
theorem d1_28 : decode prog_6_method_1_code 28 = .ok (.return_, 1) := by decide +kernel
theorem d1_19 : decode prog_6_method_1_code 19 = .ok (.ldc 18, 2) := by decide +kernel
theorem d1_21 : decode prog_6_method_1_code 21 = .ok (.goto 4, 3) := by decide +kernel
theorem pn_com_example_sumac_sumac_RedBlackTreeMap_Node : plainName "com/example/sumac/sumac/RedBlackTreeMap$Node" = true := by first | (simp [plainName, overriddenIn]; done) | decide +kernel
theorem ef_1 (m : MethodId) (x0 : Addr) (x3 : Int32) : entryFrame m #[(.ref x0), .null, .null, (.int x3)] 4 = mkF m 0 #[.val (.ref x0), .val .null, .val .null, .val (.int x3)] [] := by first | (simp [entryFrame, mkF, argsToLocals, Value.category]; done) | rfl
def Q1 (Z : State) (a1 : Addr) (p3 : Int32) (h0 : Heap) (n0 : Nat) (v : Option Value) (h : Heap) (L : List Loc) : Prop := v = none ∧ Fr n0 L ∧ Keep h0 h [a1] ∧ Exa Z h a1 "com/example/sumac/sumac/RedBlackTreeMap$Node" ∧ ∃ w : Int32, Fld Z h a1 "com/example/sumac/sumac/RedBlackTreeMap$Node" "sizeAndColour" "I" (.int w)
set_option maxRecDepth 65536 in
set_option maxHeartbeats 40000000 in
theorem rm1 (l : Launch) (Z : State) (a0 : Array Value) (hw : ∀ d ∈ tables_1, d.before a0 Z = true) (ws : List Jvm.Cond) (a1 : Addr) (p3 : Int32) (h0 : Heap) (n0 : Nat) (Z0 : n0 ≤ h0.size) (E1 : Exa Z h0 a1 "com/example/sumac/sumac/RedBlackTreeMap$Node") (Fk : Fld Z h0 a1 "com/example/sumac/sumac/RedBlackTreeMap$Node" "key" "Ljava/lang/Object;" .null) (Fv : Fld Z h0 a1 "com/example/sumac/sumac/RedBlackTreeMap$Node" "value" "Ljava/lang/Object;" .null) (Fs : Fld Z h0 a1 "com/example/sumac/sumac/RedBlackTreeMap$Node" "sizeAndColour" "I" (.int (0 : Int32))) (g1 : n0 ≤ a1) :
    MetFree l (⟨"com/example/sumac/sumac/RedBlackTreeMap$Node", "<init>", "(Ljava/lang/Object;Ljava/lang/Object;Z)V"⟩ : MethodName) (head1 (Jvm.Cond.code (⟨"com/example/sumac/sumac/RedBlackTreeMap$Node", "<init>", "(Ljava/lang/Object;Ljava/lang/Object;Z)V"⟩ : MethodName) prog_6_method_1_code 4 none :: ws) ({ frames := 1, cells := 0, slots := 0, locals := 12 } : Room)) (fun a U => a = #[(.ref a1), .null, .null, (.int p3)] ∧ Z.Warmed39 U.vm ∧ U.heap = h0) (fun _ _ _ _ _ => True) (fun _ U o U' => ∃ v L, o = .returned v ∧ Q1 Z a1 p3 h0 n0 v U'.heap L ∧ FrameEnd U o U' L ({ frames := 1, cells := 0, slots := 0, locals := 12 } : Room).cells ({ frames := 1, cells := 0, slots := 0, locals := 12 } : Room).slots) := by
  refine MetFree.of_bodySF (plainFor_of_name pn_com_example_sumac_sumac_RedBlackTreeMap_Node) hisR ?_
  intro p e s m args below meth c s₁ Bd hml0 hP hK
  obtain ⟨rfl, hZ, hh⟩ := hP
  have hx := Bd.exec
  have hby := Bd.bytes
  have hlk : meth.locks = false := BodyLoose.notSynchronized Bd
  have hml : c.maxLocals = 4 := hml0
  have hown : s.vm.findClass "com/example/sumac/sumac/RedBlackTreeMap$Node" = some m.cls := findClass_of_methodNamed Bd.named
  have hnm := (name_of_methodNamed Bd.named Bd.method).1
  have X0 : Stand p l e ({ frames := 1, cells := 0, slots := 0, locals := 12 } : Room) s m #[(.ref a1), .null, .null, (.int p3)] below meth c s₁ [] 0 0 := Stand.of_body Bd
  have e0 : s₁.heap = h0 := by rw [← hh, Bd.state]; rfl
  have N0 := Fr.nil n0
  show own_G p.tables e below s (Q1 Z a1 p3 h0 n0) ({ frames := 1, cells := 0, slots := 0, locals := 12 } : Room).cells ({ frames := 1, cells := 0, slots := 0, locals := 12 } : Room).slots (s₁.setTop (entryFrame m #[(.ref a1), .null, .null, (.int p3)] 4))
  refine own_go (fun t k => castTop (ef_1 m a1 p3) k) ?_
  show own_G p.tables e below s _ _ _ (s₁.setTop (mkF m 0 #[.val (.ref a1), .val .null, .val .null, .val (.int p3)] []))
  refine own_go (fun t k => XS.aloadN X0.here hx rfl (hb hby d1_0) rfl rfl k) ?_
  show own_G p.tables e below s _ _ _ (s₁.setTop (mkF m 1 #[.val (.ref a1), .val .null, .val .null, .val (.int p3)] [(.ref a1)]))
  obtain ⟨T1, X1, e1, st1⟩ := initO X0 hx hZ hown (hw _ (List.mem_of_getElem? (i := 7) rfl)) (hw _ (List.mem_of_getElem? (i := 8) rfl)) (hw _ (List.mem_of_getElem? (i := 9) rfl)) e0 (g := (mkF m 1 #[.val (.ref a1), .val .null, .val .null, .val (.int p3)] [(.ref a1)])) rfl (by rw [hml]; rfl) rfl (hb hby d1_1) (by decide) (W := 0) (by show 2 * 0 + _ ≤ _; exact Nat.le_of_eq rfl) (by decide)
  refine own_go st1 ?_
  show own_G p.tables e below s _ _ _ (T1.setTop (mkF m 4 #[.val (.ref a1), .val .null, .val .null, .val (.int p3)] []))
  refine own_go (fun t k => XS.aloadN X1.here hx rfl (hb hby d1_4) rfl rfl k) ?_
  show own_G p.tables e below s _ _ _ (T1.setTop (mkF m 5 #[.val (.ref a1), .val .null, .val .null, .val (.int p3)] [(.ref a1)]))
  refine own_go (fun t k => XS.aloadN X1.here hx rfl (hb hby d1_5) rfl rfl k) ?_
  show own_G p.tables e below s _ _ _ (T1.setTop (mkF m 6 #[.val (.ref a1), .val .null, .val .null, .val (.int p3)] [.null, (.ref a1)]))
  obtain ⟨T2, h2, X2, e2, W2, st2⟩ := putF X1 hx hZ hown (host := "") (Or.inl (hw _ (List.mem_of_getElem? (i := 10) rfl))) Via.refl e1 Fk E1 (Or.inl (hw _ (List.mem_of_getElem? (i := 11) rfl))) (hw _ (List.mem_of_getElem? (i := 2) rfl)) (ty := (.object "java/lang/Object")) (by decide) rfl rfl (g := (mkF m 6 #[.val (.ref a1), .val .null, .val .null, .val (.int p3)] [.null, (.ref a1)])) rfl rfl (hb hby d1_6)
  have N2 := Fr.snoc X2 N0 g1
  refine own_go st2 ?_
  have f3 := Fld.same W2 Fk
  have f4 := Exa.wr W2 E1
  have f5 := Fld.other W2 Fv (Or.inr (slot_ne (Or.inl (hw _ (List.mem_of_getElem? (i := 13) rfl))) (Or.inl (hw _ (List.mem_of_getElem? (i := 11) rfl))) (by decide) (t := (.object "java/lang/Object")) (t' := (.object "java/lang/Object")) (by decide) (by decide)))
  have f6 := Fld.other W2 Fs (Or.inr (slot_ne (Or.inl (hw _ (List.mem_of_getElem? (i := 16) rfl))) (Or.inl (hw _ (List.mem_of_getElem? (i := 11) rfl))) (by decide) (t := .int) (t' := (.object "java/lang/Object")) (by decide) (by decide)))
  have z7 := Nat.le_trans Z0 (Keep.of_wr W2).1
  have k8 := (Keep.refl h0 [a1]).wr W2 (Or.inl (List.mem_of_getElem? (i := 0) rfl))
  show own_G p.tables e below s _ _ _ (T2.setTop (mkF m 9 #[.val (.ref a1), .val .null, .val .null, .val (.int p3)] []))
  refine own_go (fun t k => XS.aloadN X2.here hx rfl (hb hby d1_9) rfl rfl k) ?_
  show own_G p.tables e below s _ _ _ (T2.setTop (mkF m 10 #[.val (.ref a1), .val .null, .val .null, .val (.int p3)] [(.ref a1)]))
  refine own_go (fun t k => XS.aloadN X2.here hx rfl (hb hby d1_10) rfl rfl k) ?_
  show own_G p.tables e below s _ _ _ (T2.setTop (mkF m 11 #[.val (.ref a1), .val .null, .val .null, .val (.int p3)] [.null, (.ref a1)]))
  obtain ⟨T9, h9, X9, e9, W9, st9⟩ := putF X2 hx hZ hown (host := "") (Or.inl (hw _ (List.mem_of_getElem? (i := 12) rfl))) Via.refl e2 f5 f4 (Or.inl (hw _ (List.mem_of_getElem? (i := 13) rfl))) (hw _ (List.mem_of_getElem? (i := 2) rfl)) (ty := (.object "java/lang/Object")) (by decide) rfl rfl (g := (mkF m 11 #[.val (.ref a1), .val .null, .val .null, .val (.int p3)] [.null, (.ref a1)])) rfl rfl (hb hby d1_11)
  have N9 := Fr.snoc X9 N2 g1
  refine own_go st9 ?_
  have f10 := Fld.same W9 f5
  have f11 := Exa.wr W9 f4
  have f12 := Fld.other W9 f3 (Or.inr (slot_ne (Or.inl (hw _ (List.mem_of_getElem? (i := 11) rfl))) (Or.inl (hw _ (List.mem_of_getElem? (i := 13) rfl))) (by decide) (t := (.object "java/lang/Object")) (t' := (.object "java/lang/Object")) (by decide) (by decide)))
  have f13 := Fld.other W9 f6 (Or.inr (slot_ne (Or.inl (hw _ (List.mem_of_getElem? (i := 16) rfl))) (Or.inl (hw _ (List.mem_of_getElem? (i := 13) rfl))) (by decide) (t := .int) (t' := (.object "java/lang/Object")) (by decide) (by decide)))
  have z14 := Nat.le_trans z7 (Keep.of_wr W9).1
  have k15 := k8.wr W9 (Or.inl (List.mem_of_getElem? (i := 0) rfl))
  show own_G p.tables e below s _ _ _ (T9.setTop (mkF m 14 #[.val (.ref a1), .val .null, .val .null, .val (.int p3)] []))
  refine own_go (fun t k => XS.aloadN X9.here hx rfl (hb hby d1_14) rfl rfl k) ?_
  show own_G p.tables e below s _ _ _ (T9.setTop (mkF m 15 #[.val (.ref a1), .val .null, .val .null, .val (.int p3)] [(.ref a1)]))
  refine own_go (fun t k => XS.iloadN X9.here hx rfl (hb hby d1_15) rfl k) ?_
  show own_G p.tables e below s _ _ _ (T9.setTop (mkF m 16 #[.val (.ref a1), .val .null, .val .null, .val (.int p3)] [(.int p3), (.ref a1)]))
  by_cases h16 : p3 = (0 : Int32)
  · refine own_go (fun t k => XS.ifYes X9.here hx rfl (pc0 := 16) (pc' := 24) rfl (hb hby d1_16) rfl (Jvm.Free.XT.i0_eq_t h16) (by decide) (by decide) k) ?_
    show own_G p.tables e below s _ _ _ (T9.setTop (mkF m 24 #[.val (.ref a1), .val .null, .val .null, .val (.int p3)] [(.ref a1)]))
    refine own_go (fun t k => XS.iconst X9.here hx rfl (hb hby d1_24) k) ?_
    show own_G p.tables e below s _ _ _ (T9.setTop (mkF m 25 #[.val (.ref a1), .val .null, .val .null, .val (.int p3)] [(.int (1 : Int32)), (.ref a1)]))
    obtain ⟨T16, h16, X16, e16, W16, st16⟩ := putF X9 hx hZ hown (host := "") (Or.inl (hw _ (List.mem_of_getElem? (i := 15) rfl))) Via.refl e9 f13 f11 (Or.inl (hw _ (List.mem_of_getElem? (i := 16) rfl))) (hw _ (List.mem_of_getElem? (i := 2) rfl)) (ty := .int) (by decide) rfl rfl (g := (mkF m 25 #[.val (.ref a1), .val .null, .val .null, .val (.int p3)] [(.int (1 : Int32)), (.ref a1)])) rfl rfl (hb hby d1_25)
    have N16 := Fr.snoc X16 N9 g1
    refine own_go st16 ?_
    have f17 := Fld.same W16 f13
    have f18 := Exa.wr W16 f11
    have f19 := Fld.other W16 f12 (Or.inr (slot_ne (Or.inl (hw _ (List.mem_of_getElem? (i := 11) rfl))) (Or.inl (hw _ (List.mem_of_getElem? (i := 16) rfl))) (by decide) (t := (.object "java/lang/Object")) (t' := .int) (by decide) (by decide)))
    have f20 := Fld.other W16 f10 (Or.inr (slot_ne (Or.inl (hw _ (List.mem_of_getElem? (i := 13) rfl))) (Or.inl (hw _ (List.mem_of_getElem? (i := 16) rfl))) (by decide) (t := (.object "java/lang/Object")) (t' := .int) (by decide) (by decide)))
    have z21 := Nat.le_trans z14 (Keep.of_wr W16).1
    have k22 := k15.wr W16 (Or.inl (List.mem_of_getElem? (i := 0) rfl))
    show own_G p.tables e below s _ _ _ (T16.setTop (mkF m 28 #[.val (.ref a1), .val .null, .val .null, .val (.int p3)] []))
    exact own_retV X16 hx hlk Bd.returns (hb hby d1_28) (by rw [e16]; exact ⟨rfl, N16, k22, f18, _, f17⟩) (by decide) (by decide)
  · refine own_go (fun t k => XS.ifNo X9.here hx rfl (hb hby d1_16) rfl (Jvm.Free.XT.i0_eq_f h16) k) ?_
    show own_G p.tables e below s _ _ _ (T9.setTop (mkF m 19 #[.val (.ref a1), .val .null, .val .null, .val (.int p3)] [(.ref a1)]))
    refine own_go (fun t k => X9.ldcInt hx hown (mvT hZ (hw _ (List.mem_of_getElem? (i := 14) rfl))) (g := (mkF m 19 #[.val (.ref a1), .val .null, .val .null, .val (.int p3)] [(.ref a1)])) rfl (hb hby d1_19) _ k) ?_
    show own_G p.tables e below s _ _ _ (T9.setTop (mkF m 21 #[.val (.ref a1), .val .null, .val .null, .val (.int p3)] [(.int (-2147483647 : Int32)), (.ref a1)]))
    refine own_go (fun t k => XS.goto X9.here hx rfl (pc0 := 21) (pc' := 25) rfl (hb hby d1_21) (by decide) (by decide) k) ?_
    show own_G p.tables e below s _ _ _ (T9.setTop (mkF m 25 #[.val (.ref a1), .val .null, .val .null, .val (.int p3)] [(.int (-2147483647 : Int32)), (.ref a1)]))
    obtain ⟨T23, h23, X23, e23, W23, st23⟩ := putF X9 hx hZ hown (host := "") (Or.inl (hw _ (List.mem_of_getElem? (i := 15) rfl))) Via.refl e9 f13 f11 (Or.inl (hw _ (List.mem_of_getElem? (i := 16) rfl))) (hw _ (List.mem_of_getElem? (i := 2) rfl)) (ty := .int) (by decide) rfl rfl (g := (mkF m 25 #[.val (.ref a1), .val .null, .val .null, .val (.int p3)] [(.int (-2147483647 : Int32)), (.ref a1)])) rfl rfl (hb hby d1_25)
    have N23 := Fr.snoc X23 N9 g1
    refine own_go st23 ?_
    have f24 := Fld.same W23 f13
    have f25 := Exa.wr W23 f11
    have f26 := Fld.other W23 f12 (Or.inr (slot_ne (Or.inl (hw _ (List.mem_of_getElem? (i := 11) rfl))) (Or.inl (hw _ (List.mem_of_getElem? (i := 16) rfl))) (by decide) (t := (.object "java/lang/Object")) (t' := .int) (by decide) (by decide)))
    have f27 := Fld.other W23 f10 (Or.inr (slot_ne (Or.inl (hw _ (List.mem_of_getElem? (i := 13) rfl))) (Or.inl (hw _ (List.mem_of_getElem? (i := 16) rfl))) (by decide) (t := (.object "java/lang/Object")) (t' := .int) (by decide) (by decide)))
    have z28 := Nat.le_trans z14 (Keep.of_wr W23).1
    have k29 := k15.wr W23 (Or.inl (List.mem_of_getElem? (i := 0) rfl))
    show own_G p.tables e below s _ _ _ (T23.setTop (mkF m 28 #[.val (.ref a1), .val .null, .val .null, .val (.int p3)] []))
    exact own_retV X23 hx hlk Bd.returns (hb hby d1_28) (by rw [e23]; exact ⟨rfl, N23, k29, f25, _, f24⟩) (by decide) (by decide)
theorem d3_0 : decode prog_6_method_5_code 0 = .ok (.aload_n 0, 1) := by decide +kernel
theorem d3_1 : decode prog_6_method_5_code 1 = .ok (.aload_n 0, 1) := by decide +kernel
theorem d3_2 : decode prog_6_method_5_code 2 = .ok (.getfield 19, 3) := by decide +kernel
theorem d3_5 : decode prog_6_method_5_code 5 = .ok (.ldc 23, 2) := by decide +kernel
theorem d3_7 : decode prog_6_method_5_code 7 = .ok (.iand, 1) := by decide +kernel
theorem d3_8 : decode prog_6_method_5_code 8 = .ok (.iload_n 1, 1) := by decide +kernel
theorem d3_9 : decode prog_6_method_5_code 9 = .ok (.ior, 1) := by decide +kernel
theorem d3_10 : decode prog_6_method_5_code 10 = .ok (.putfield 19, 3) := by decide +kernel
theorem d3_13 : decode prog_6_method_5_code 13 = .ok (.return_, 1) := by decide +kernel
theorem ef_3 (m : MethodId) (x0 : Addr) (x1 : Int32) : entryFrame m #[(.ref x0), (.int x1)] 2 = mkF m 0 #[.val (.ref x0), .val (.int x1)] [] := by first | (simp [entryFrame, mkF, argsToLocals, Value.category]; done) | rfl
def Q3 (Z : State) (a1 : Addr) (p2 w1 : Int32) (h0 : Heap) (n0 : Nat) (v : Option Value) (h : Heap) (L : List Loc) : Prop := v = none ∧ Fr n0 L ∧ Keep h0 h [a1] ∧ Fld Z h a1 "com/example/sumac/sumac/RedBlackTreeMap$Node" "sizeAndColour" "I" (.int ((w1 &&& (-2147483648 : Int32)) ||| p2))
set_option maxRecDepth 65536 in
set_option maxHeartbeats 40000000 in
theorem rm3 (l : Launch) (Z : State) (a0 : Array Value) (hw : ∀ d ∈ tables_1, d.before a0 Z = true) (ws : List Jvm.Cond) (a1 : Addr) (p2 w1 : Int32) (h0 : Heap) (n0 : Nat) (Z0 : n0 ≤ h0.size) (E1 : Exa Z h0 a1 "com/example/sumac/sumac/RedBlackTreeMap$Node") (Fs : Fld Z h0 a1 "com/example/sumac/sumac/RedBlackTreeMap$Node" "sizeAndColour" "I" (.int w1)) (g1 : n0 ≤ a1) :
    MetFree l (⟨"com/example/sumac/sumac/RedBlackTreeMap$Node", "setSize", "(I)V"⟩ : MethodName) (head1 (Jvm.Cond.code (⟨"com/example/sumac/sumac/RedBlackTreeMap$Node", "setSize", "(I)V"⟩ : MethodName) prog_6_method_5_code 2 none :: ws) ({ frames := 0, cells := 0, slots := 0, locals := 0 } : Room)) (fun a U => a = #[(.ref a1), (.int p2)] ∧ Z.Warmed39 U.vm ∧ U.heap = h0) (fun _ _ _ _ _ => True) (fun _ U o U' => ∃ v L, o = .returned v ∧ Q3 Z a1 p2 w1 h0 n0 v U'.heap L ∧ FrameEnd U o U' L ({ frames := 0, cells := 0, slots := 0, locals := 0 } : Room).cells ({ frames := 0, cells := 0, slots := 0, locals := 0 } : Room).slots) := by
  refine MetFree.of_bodySF (plainFor_of_name pn_com_example_sumac_sumac_RedBlackTreeMap_Node) hisR ?_
  intro p e s m args below meth c s₁ Bd hml0 hP hK
  obtain ⟨rfl, hZ, hh⟩ := hP
  have hx := Bd.exec
  have hby := Bd.bytes
  have hlk : meth.locks = false := BodyLoose.notSynchronized Bd
  have hml : c.maxLocals = 2 := hml0
  have hown : s.vm.findClass "com/example/sumac/sumac/RedBlackTreeMap$Node" = some m.cls := findClass_of_methodNamed Bd.named
  have hnm := (name_of_methodNamed Bd.named Bd.method).1
  have X0 : Stand p l e ({ frames := 0, cells := 0, slots := 0, locals := 0 } : Room) s m #[(.ref a1), (.int p2)] below meth c s₁ [] 0 0 := Stand.of_body Bd
  have e0 : s₁.heap = h0 := by rw [← hh, Bd.state]; rfl
  have N0 := Fr.nil n0
  show own_G p.tables e below s (Q3 Z a1 p2 w1 h0 n0) ({ frames := 0, cells := 0, slots := 0, locals := 0 } : Room).cells ({ frames := 0, cells := 0, slots := 0, locals := 0 } : Room).slots (s₁.setTop (entryFrame m #[(.ref a1), (.int p2)] 2))
  refine own_go (fun t k => castTop (ef_3 m a1 p2) k) ?_
  show own_G p.tables e below s _ _ _ (s₁.setTop (mkF m 0 #[.val (.ref a1), .val (.int p2)] []))
  refine own_go (fun t k => XS.aloadN X0.here hx rfl (hb hby d3_0) rfl rfl k) ?_
  show own_G p.tables e below s _ _ _ (s₁.setTop (mkF m 1 #[.val (.ref a1), .val (.int p2)] [(.ref a1)]))
  refine own_go (fun t k => XS.aloadN X0.here hx rfl (hb hby d3_1) rfl rfl k) ?_
  show own_G p.tables e below s _ _ _ (s₁.setTop (mkF m 2 #[.val (.ref a1), .val (.int p2)] [(.ref a1), (.ref a1)]))
  obtain ⟨T30, X30, e30, st30⟩ := getF X0 hx hZ hown (host := "") (Or.inl (hw _ (List.mem_of_getElem? (i := 15) rfl))) Via.refl e0 Fs (g := (mkF m 2 #[.val (.ref a1), .val (.int p2)] [(.ref a1), (.ref a1)])) rfl rfl (hb hby d3_2)
  refine own_go st30 ?_
  show own_G p.tables e below s _ _ _ (T30.setTop (mkF m 5 #[.val (.ref a1), .val (.int p2)] [(.int w1), (.ref a1)]))
  refine own_go (fun t k => X30.ldcInt hx hown (mvT hZ (hw _ (List.mem_of_getElem? (i := 22) rfl))) (g := (mkF m 5 #[.val (.ref a1), .val (.int p2)] [(.int w1), (.ref a1)])) rfl (hb hby d3_5) _ k) ?_
  show own_G p.tables e below s _ _ _ (T30.setTop (mkF m 7 #[.val (.ref a1), .val (.int p2)] [(.int (-2147483648 : Int32)), (.int w1), (.ref a1)]))
  refine own_go (fun t k => XS.iand X30.here hx rfl (hb hby d3_7) rfl k) ?_
  show own_G p.tables e below s _ _ _ (T30.setTop (mkF m 8 #[.val (.ref a1), .val (.int p2)] [(.int (w1 &&& (-2147483648 : Int32))), (.ref a1)]))
  refine own_go (fun t k => XS.iloadN X30.here hx rfl (hb hby d3_8) rfl k) ?_
  show own_G p.tables e below s _ _ _ (T30.setTop (mkF m 9 #[.val (.ref a1), .val (.int p2)] [(.int p2), (.int (w1 &&& (-2147483648 : Int32))), (.ref a1)]))
  refine own_go (fun t k => XS.ior X30.here hx rfl (hb hby d3_9) rfl k) ?_
  show own_G p.tables e below s _ _ _ (T30.setTop (mkF m 10 #[.val (.ref a1), .val (.int p2)] [(.int ((w1 &&& (-2147483648 : Int32)) ||| p2)), (.ref a1)]))
  obtain ⟨T31, h31, X31, e31, W31, st31⟩ := putF X30 hx hZ hown (host := "") (Or.inl (hw _ (List.mem_of_getElem? (i := 15) rfl))) Via.refl e30 Fs E1 (Or.inl (hw _ (List.mem_of_getElem? (i := 16) rfl))) (hw _ (List.mem_of_getElem? (i := 2) rfl)) (ty := .int) (by decide) rfl rfl (g := (mkF m 10 #[.val (.ref a1), .val (.int p2)] [(.int ((w1 &&& (-2147483648 : Int32)) ||| p2)), (.ref a1)])) rfl rfl (hb hby d3_10)
  have N31 := Fr.snoc X31 N0 g1
  refine own_go st31 ?_
  have f32 := Fld.same W31 Fs
  have f33 := Exa.wr W31 E1
  have z34 := Nat.le_trans Z0 (Keep.of_wr W31).1
  have k35 := (Keep.refl h0 [a1]).wr W31 (Or.inl (List.mem_of_getElem? (i := 0) rfl))
  show own_G p.tables e below s _ _ _ (T31.setTop (mkF m 13 #[.val (.ref a1), .val (.int p2)] []))
  exact own_retV X31 hx hlk Bd.returns (hb hby d3_13) (by rw [e31]; exact ⟨rfl, N31, k35, f32⟩) (by decide) (by decide)
theorem d4_0 : decode prog_6_method_3_code 0 = .ok (.aload_n 0, 1) := by decide +kernel
theorem d4_1 : decode prog_6_method_3_code 1 = .ok (.iload_n 1, 1) := by decide +kernel
theorem d4_2 : decode prog_6_method_3_code 2 = .ok (.ifCond .eq 13, 3) := by decide +kernel
theorem d4_15 : decode prog_6_method_3_code 15 = .ok (.aload_n 0, 1) := by decide +kernel
theorem d4_16 : decode prog_6_method_3_code 16 = .ok (.getfield 19, 3) := by decide +kernel
theorem d4_19 : decode prog_6_method_3_code 19 = .ok (.ldc 24, 2) := by decide +kernel
theorem d4_21 : decode prog_6_method_3_code 21 = .ok (.iand, 1) := by decide +kernel
theorem d4_22 : decode prog_6_method_3_code 22 = .ok (.putfield 19, 3) := by decide +kernel
theorem d4_25 : decode prog_6_method_3_code 25 = .ok (.return_, 1) := by decide +kernel
theorem d4_5 : decode prog_6_method_3_code 5 = .ok (.aload_n 0, 1) := by decide +kernel
theorem d4_6 : decode prog_6_method_3_code 6 = .ok (.getfield 19, 3) := by decide +kernel
theorem d4_9 : decode prog_6_method_3_code 9 = .ok (.ldc 23, 2) := by decide +kernel
theorem d4_11 : decode prog_6_method_3_code 11 = .ok (.ior, 1) := by decide +kernel
theorem d4_12 : decode prog_6_method_3_code 12 = .ok (.goto 10, 3) := by decide +kernel
theorem ef_4 (m : MethodId) (x0 : Addr) (x1 : Int32) : entryFrame m #[(.ref x0), (.int x1)] 2 = mkF m 0 #[.val (.ref x0), .val (.int x1)] [] := by first | (simp [entryFrame, mkF, argsToLocals, Value.category]; done) | rfl
def Q4 (Z : State) (a1 : Addr) (p2 w1 : Int32) (h0 : Heap) (n0 : Nat) (v : Option Value) (h : Heap) (L : List Loc) : Prop := v = none ∧ Fr n0 L ∧ Keep h0 h [a1] ∧ Fld Z h a1 "com/example/sumac/sumac/RedBlackTreeMap$Node" "sizeAndColour" "I" (.int (if p2 = 0 then w1 &&& (2147483647 : Int32) else w1 ||| (-2147483648 : Int32)))
set_option maxRecDepth 65536 in
set_option maxHeartbeats 40000000 in
theorem rm4 (l : Launch) (Z : State) (a0 : Array Value) (hw : ∀ d ∈ tables_1, d.before a0 Z = true) (ws : List Jvm.Cond) (a1 : Addr) (p2 w1 : Int32) (h0 : Heap) (n0 : Nat) (Z0 : n0 ≤ h0.size) (E1 : Exa Z h0 a1 "com/example/sumac/sumac/RedBlackTreeMap$Node") (Fs : Fld Z h0 a1 "com/example/sumac/sumac/RedBlackTreeMap$Node" "sizeAndColour" "I" (.int w1)) (g1 : n0 ≤ a1) :
    MetFree l (⟨"com/example/sumac/sumac/RedBlackTreeMap$Node", "setRed", "(Z)V"⟩ : MethodName) (head1 (Jvm.Cond.code (⟨"com/example/sumac/sumac/RedBlackTreeMap$Node", "setRed", "(Z)V"⟩ : MethodName) prog_6_method_3_code 2 none :: ws) ({ frames := 0, cells := 0, slots := 0, locals := 0 } : Room)) (fun a U => a = #[(.ref a1), (.int p2)] ∧ Z.Warmed39 U.vm ∧ U.heap = h0) (fun _ _ _ _ _ => True) (fun _ U o U' => ∃ v L, o = .returned v ∧ Q4 Z a1 p2 w1 h0 n0 v U'.heap L ∧ FrameEnd U o U' L ({ frames := 0, cells := 0, slots := 0, locals := 0 } : Room).cells ({ frames := 0, cells := 0, slots := 0, locals := 0 } : Room).slots) := by
  refine MetFree.of_bodySF (plainFor_of_name pn_com_example_sumac_sumac_RedBlackTreeMap_Node) hisR ?_
  intro p e s m args below meth c s₁ Bd hml0 hP hK
  obtain ⟨rfl, hZ, hh⟩ := hP
  have hx := Bd.exec
  have hby := Bd.bytes
  have hlk : meth.locks = false := BodyLoose.notSynchronized Bd
  have hml : c.maxLocals = 2 := hml0
  have hown : s.vm.findClass "com/example/sumac/sumac/RedBlackTreeMap$Node" = some m.cls := findClass_of_methodNamed Bd.named
  have hnm := (name_of_methodNamed Bd.named Bd.method).1
  have X0 : Stand p l e ({ frames := 0, cells := 0, slots := 0, locals := 0 } : Room) s m #[(.ref a1), (.int p2)] below meth c s₁ [] 0 0 := Stand.of_body Bd
  have e0 : s₁.heap = h0 := by rw [← hh, Bd.state]; rfl
  have N0 := Fr.nil n0
  show own_G p.tables e below s (Q4 Z a1 p2 w1 h0 n0) ({ frames := 0, cells := 0, slots := 0, locals := 0 } : Room).cells ({ frames := 0, cells := 0, slots := 0, locals := 0 } : Room).slots (s₁.setTop (entryFrame m #[(.ref a1), (.int p2)] 2))
  refine own_go (fun t k => castTop (ef_4 m a1 p2) k) ?_
  show own_G p.tables e below s _ _ _ (s₁.setTop (mkF m 0 #[.val (.ref a1), .val (.int p2)] []))
  refine own_go (fun t k => XS.aloadN X0.here hx rfl (hb hby d4_0) rfl rfl k) ?_
  show own_G p.tables e below s _ _ _ (s₁.setTop (mkF m 1 #[.val (.ref a1), .val (.int p2)] [(.ref a1)]))
  refine own_go (fun t k => XS.iloadN X0.here hx rfl (hb hby d4_1) rfl k) ?_
  show own_G p.tables e below s _ _ _ (s₁.setTop (mkF m 2 #[.val (.ref a1), .val (.int p2)] [(.int p2), (.ref a1)]))
  by_cases h2 : p2 = (0 : Int32)
  · refine own_go (fun t k => XS.ifYes X0.here hx rfl (pc0 := 2) (pc' := 15) rfl (hb hby d4_2) rfl (Jvm.Free.XT.i0_eq_t h2) (by decide) (by decide) k) ?_
    show own_G p.tables e below s _ _ _ (s₁.setTop (mkF m 15 #[.val (.ref a1), .val (.int p2)] [(.ref a1)]))
    refine own_go (fun t k => XS.aloadN X0.here hx rfl (hb hby d4_15) rfl rfl k) ?_
    show own_G p.tables e below s _ _ _ (s₁.setTop (mkF m 16 #[.val (.ref a1), .val (.int p2)] [(.ref a1), (.ref a1)]))
    obtain ⟨T36, X36, e36, st36⟩ := getF X0 hx hZ hown (host := "") (Or.inl (hw _ (List.mem_of_getElem? (i := 15) rfl))) Via.refl e0 Fs (g := (mkF m 16 #[.val (.ref a1), .val (.int p2)] [(.ref a1), (.ref a1)])) rfl rfl (hb hby d4_16)
    refine own_go st36 ?_
    show own_G p.tables e below s _ _ _ (T36.setTop (mkF m 19 #[.val (.ref a1), .val (.int p2)] [(.int w1), (.ref a1)]))
    refine own_go (fun t k => X36.ldcInt hx hown (mvT hZ (hw _ (List.mem_of_getElem? (i := 38) rfl))) (g := (mkF m 19 #[.val (.ref a1), .val (.int p2)] [(.int w1), (.ref a1)])) rfl (hb hby d4_19) _ k) ?_
    show own_G p.tables e below s _ _ _ (T36.setTop (mkF m 21 #[.val (.ref a1), .val (.int p2)] [(.int (2147483647 : Int32)), (.int w1), (.ref a1)]))
    refine own_go (fun t k => XS.iand X36.here hx rfl (hb hby d4_21) rfl k) ?_
    show own_G p.tables e below s _ _ _ (T36.setTop (mkF m 22 #[.val (.ref a1), .val (.int p2)] [(.int (w1 &&& (2147483647 : Int32))), (.ref a1)]))
    obtain ⟨T37, h37, X37, e37, W37, st37⟩ := putF X36 hx hZ hown (host := "") (Or.inl (hw _ (List.mem_of_getElem? (i := 15) rfl))) Via.refl e36 Fs E1 (Or.inl (hw _ (List.mem_of_getElem? (i := 16) rfl))) (hw _ (List.mem_of_getElem? (i := 2) rfl)) (ty := .int) (by decide) rfl rfl (g := (mkF m 22 #[.val (.ref a1), .val (.int p2)] [(.int (w1 &&& (2147483647 : Int32))), (.ref a1)])) rfl rfl (hb hby d4_22)
    have N37 := Fr.snoc X37 N0 g1
    refine own_go st37 ?_
    have f38 := Fld.same W37 Fs
    have f39 := Exa.wr W37 E1
    have z40 := Nat.le_trans Z0 (Keep.of_wr W37).1
    have k41 := (Keep.refl h0 [a1]).wr W37 (Or.inl (List.mem_of_getElem? (i := 0) rfl))
    show own_G p.tables e below s _ _ _ (T37.setTop (mkF m 25 #[.val (.ref a1), .val (.int p2)] []))
    exact own_retV X37 hx hlk Bd.returns (hb hby d4_25) (by rw [e37]; exact ⟨rfl, N37, k41, by rw [if_pos h2]; exact f38⟩) (by decide) (by decide)
  · refine own_go (fun t k => XS.ifNo X0.here hx rfl (hb hby d4_2) rfl (Jvm.Free.XT.i0_eq_f h2) k) ?_
    show own_G p.tables e below s _ _ _ (s₁.setTop (mkF m 5 #[.val (.ref a1), .val (.int p2)] [(.ref a1)]))
    refine own_go (fun t k => XS.aloadN X0.here hx rfl (hb hby d4_5) rfl rfl k) ?_
    show own_G p.tables e below s _ _ _ (s₁.setTop (mkF m 6 #[.val (.ref a1), .val (.int p2)] [(.ref a1), (.ref a1)]))
    obtain ⟨T42, X42, e42, st42⟩ := getF X0 hx hZ hown (host := "") (Or.inl (hw _ (List.mem_of_getElem? (i := 15) rfl))) Via.refl e0 Fs (g := (mkF m 6 #[.val (.ref a1), .val (.int p2)] [(.ref a1), (.ref a1)])) rfl rfl (hb hby d4_6)
    refine own_go st42 ?_
    show own_G p.tables e below s _ _ _ (T42.setTop (mkF m 9 #[.val (.ref a1), .val (.int p2)] [(.int w1), (.ref a1)]))
    refine own_go (fun t k => X42.ldcInt hx hown (mvT hZ (hw _ (List.mem_of_getElem? (i := 22) rfl))) (g := (mkF m 9 #[.val (.ref a1), .val (.int p2)] [(.int w1), (.ref a1)])) rfl (hb hby d4_9) _ k) ?_
    show own_G p.tables e below s _ _ _ (T42.setTop (mkF m 11 #[.val (.ref a1), .val (.int p2)] [(.int (-2147483648 : Int32)), (.int w1), (.ref a1)]))
    refine own_go (fun t k => XS.ior X42.here hx rfl (hb hby d4_11) rfl k) ?_
    show own_G p.tables e below s _ _ _ (T42.setTop (mkF m 12 #[.val (.ref a1), .val (.int p2)] [(.int (w1 ||| (-2147483648 : Int32))), (.ref a1)]))
    refine own_go (fun t k => XS.goto X42.here hx rfl (pc0 := 12) (pc' := 22) rfl (hb hby d4_12) (by decide) (by decide) k) ?_
    show own_G p.tables e below s _ _ _ (T42.setTop (mkF m 22 #[.val (.ref a1), .val (.int p2)] [(.int (w1 ||| (-2147483648 : Int32))), (.ref a1)]))
    obtain ⟨T43, h43, X43, e43, W43, st43⟩ := putF X42 hx hZ hown (host := "") (Or.inl (hw _ (List.mem_of_getElem? (i := 15) rfl))) Via.refl e42 Fs E1 (Or.inl (hw _ (List.mem_of_getElem? (i := 16) rfl))) (hw _ (List.mem_of_getElem? (i := 2) rfl)) (ty := .int) (by decide) rfl rfl (g := (mkF m 22 #[.val (.ref a1), .val (.int p2)] [(.int (w1 ||| (-2147483648 : Int32))), (.ref a1)])) rfl rfl (hb hby d4_22)
    have N43 := Fr.snoc X43 N0 g1
    refine own_go st43 ?_
    have f44 := Fld.same W43 Fs
    have f45 := Exa.wr W43 E1
    have z46 := Nat.le_trans Z0 (Keep.of_wr W43).1
    have k47 := (Keep.refl h0 [a1]).wr W43 (Or.inl (List.mem_of_getElem? (i := 0) rfl))
    show own_G p.tables e below s _ _ _ (T43.setTop (mkF m 25 #[.val (.ref a1), .val (.int p2)] []))
    exact own_retV X43 hx hlk Bd.returns (hb hby d4_25) (by rw [e43]; exact ⟨rfl, N43, k47, by rw [if_neg h2]; exact f44⟩) (by decide) (by decide)
theorem d5_0 : decode prog_6_method_2_code 0 = .ok (.aload_n 0, 1) := by decide +kernel
theorem d5_1 : decode prog_6_method_2_code 1 = .ok (.getfield 19, 3) := by decide +kernel
theorem d5_4 : decode prog_6_method_2_code 4 = .ok (.ifCond .ge 7, 3) := by decide +kernel
theorem d5_7 : decode prog_6_method_2_code 7 = .ok (.iconst 1, 1) := by decide +kernel
theorem d5_8 : decode prog_6_method_2_code 8 = .ok (.goto 4, 3) := by decide +kernel
theorem d5_12 : decode prog_6_method_2_code 12 = .ok (.ireturn, 1) := by decide +kernel
theorem d5_11 : decode prog_6_method_2_code 11 = .ok (.iconst 0, 1) := by decide +kernel
theorem ef_5 (m : MethodId) (x0 : Addr) : entryFrame m #[(.ref x0)] 1 = mkF m 0 #[.val (.ref x0)] [] := by first | (simp [entryFrame, mkF, argsToLocals, Value.category]; done) | rfl
def Q5 (Z : State) (a1 : Addr) (w1 r : Int32) (h0 : Heap) (n0 : Nat) (v : Option Value) (h : Heap) (L : List Loc) : Prop := v = some (.int r) ∧ Fr n0 L ∧ h = h0
set_option maxRecDepth 65536 in
set_option maxHeartbeats 40000000 in
theorem rm5 (l : Launch) (Z : State) (a0 : Array Value) (hw : ∀ d ∈ tables_1, d.before a0 Z = true) (ws : List Jvm.Cond) (a1 : Addr) (w1 r : Int32) (h0 : Heap) (n0 : Nat) (Z0 : n0 ≤ h0.size) (Fs : Fld Z h0 a1 "com/example/sumac/sumac/RedBlackTreeMap$Node" "sizeAndColour" "I" (.int w1)) (hr : (if w1 < 0 then (1 : Int32) else 0) = r) :
    MetFree l (⟨"com/example/sumac/sumac/RedBlackTreeMap$Node", "isRed", "()Z"⟩ : MethodName) (head1 (Jvm.Cond.code (⟨"com/example/sumac/sumac/RedBlackTreeMap$Node", "isRed", "()Z"⟩ : MethodName) prog_6_method_2_code 1 (some .boolean) :: ws) ({ frames := 0, cells := 0, slots := 0, locals := 0 } : Room)) (fun a U => a = #[(.ref a1)] ∧ Z.Warmed39 U.vm ∧ U.heap = h0) (fun _ _ _ _ _ => True) (fun _ U o U' => ∃ v L, o = .returned v ∧ Q5 Z a1 w1 r h0 n0 v U'.heap L ∧ FrameEnd U o U' L ({ frames := 0, cells := 0, slots := 0, locals := 0 } : Room).cells ({ frames := 0, cells := 0, slots := 0, locals := 0 } : Room).slots) := by
  refine MetFree.of_bodySF (plainFor_of_name pn_com_example_sumac_sumac_RedBlackTreeMap_Node) hisR ?_
  intro p e s m args below meth c s₁ Bd hml0 hP hK
  obtain ⟨rfl, hZ, hh⟩ := hP
  have hx := Bd.exec
  have hby := Bd.bytes
  have hlk : meth.locks = false := BodyLoose.notSynchronized Bd
  have hml : c.maxLocals = 1 := hml0
  have hown : s.vm.findClass "com/example/sumac/sumac/RedBlackTreeMap$Node" = some m.cls := findClass_of_methodNamed Bd.named
  have hnm := (name_of_methodNamed Bd.named Bd.method).1
  have X0 : Stand p l e ({ frames := 0, cells := 0, slots := 0, locals := 0 } : Room) s m #[(.ref a1)] below meth c s₁ [] 0 0 := Stand.of_body Bd
  have e0 : s₁.heap = h0 := by rw [← hh, Bd.state]; rfl
  have N0 := Fr.nil n0
  show own_G p.tables e below s (Q5 Z a1 w1 r h0 n0) ({ frames := 0, cells := 0, slots := 0, locals := 0 } : Room).cells ({ frames := 0, cells := 0, slots := 0, locals := 0 } : Room).slots (s₁.setTop (entryFrame m #[(.ref a1)] 1))
  refine own_go (fun t k => castTop (ef_5 m a1) k) ?_
  show own_G p.tables e below s _ _ _ (s₁.setTop (mkF m 0 #[.val (.ref a1)] []))
  refine own_go (fun t k => XS.aloadN X0.here hx rfl (hb hby d5_0) rfl rfl k) ?_
  show own_G p.tables e below s _ _ _ (s₁.setTop (mkF m 1 #[.val (.ref a1)] [(.ref a1)]))
  obtain ⟨T48, X48, e48, st48⟩ := getF X0 hx hZ hown (host := "") (Or.inl (hw _ (List.mem_of_getElem? (i := 15) rfl))) Via.refl e0 Fs (g := (mkF m 1 #[.val (.ref a1)] [(.ref a1)])) rfl rfl (hb hby d5_1)
  refine own_go st48 ?_
  show own_G p.tables e below s _ _ _ (T48.setTop (mkF m 4 #[.val (.ref a1)] [(.int w1)]))
  by_cases h4 : w1 < (0 : Int32)
  · refine own_go (fun t k => XS.ifNo X48.here hx rfl (hb hby d5_4) rfl (Jvm.Free.XT.i0_ge_f h4) k) ?_
    show own_G p.tables e below s _ _ _ (T48.setTop (mkF m 7 #[.val (.ref a1)] []))
    refine own_go (fun t k => XS.iconst X48.here hx rfl (hb hby d5_7) k) ?_
    show own_G p.tables e below s _ _ _ (T48.setTop (mkF m 8 #[.val (.ref a1)] [(.int (1 : Int32))]))
    refine own_go (fun t k => XS.goto X48.here hx rfl (pc0 := 8) (pc' := 12) rfl (hb hby d5_8) (by decide) (by decide) k) ?_
    show own_G p.tables e below s _ _ _ (T48.setTop (mkF m 12 #[.val (.ref a1)] [(.int (1 : Int32))]))
    exact own_retN X48 hx hlk (t := .boolean) (z' := (1 : Int32)) Bd.returns (by simp) (hb hby d5_12) (rfl) (by rw [e48]; exact ⟨by rw [← hr, if_pos h4], N0, rfl⟩) (by decide) (by decide)
  · refine own_go (fun t k => XS.ifYes X48.here hx rfl (pc0 := 4) (pc' := 11) rfl (hb hby d5_4) rfl (Jvm.Free.XT.i0_ge_t h4) (by decide) (by decide) k) ?_
    show own_G p.tables e below s _ _ _ (T48.setTop (mkF m 11 #[.val (.ref a1)] []))
    refine own_go (fun t k => XS.iconst X48.here hx rfl (hb hby d5_11) k) ?_
    show own_G p.tables e below s _ _ _ (T48.setTop (mkF m 12 #[.val (.ref a1)] [(.int (0 : Int32))]))
    exact own_retN X48 hx hlk (t := .boolean) (z' := (0 : Int32)) Bd.returns (by simp) (hb hby d5_12) (rfl) (by rw [e48]; exact ⟨by rw [← hr, if_neg h4], N0, rfl⟩) (by decide) (by decide)
theorem d6_0 : decode prog_6_method_4_code 0 = .ok (.aload_n 0, 1) := by decide +kernel
theorem d6_1 : decode prog_6_method_4_code 1 = .ok (.getfield 19, 3) := by decide +kernel
theorem d6_4 : decode prog_6_method_4_code 4 = .ok (.ldc 24, 2) := by decide +kernel
theorem d6_6 : decode prog_6_method_4_code 6 = .ok (.iand, 1) := by decide +kernel
theorem d6_7 : decode prog_6_method_4_code 7 = .ok (.ireturn, 1) := by decide +kernel
theorem ef_6 (m : MethodId) (x0 : Addr) : entryFrame m #[(.ref x0)] 1 = mkF m 0 #[.val (.ref x0)] [] := by first | (simp [entryFrame, mkF, argsToLocals, Value.category]; done) | rfl
def Q6 (Z : State) (a1 : Addr) (w1 r : Int32) (h0 : Heap) (n0 : Nat) (v : Option Value) (h : Heap) (L : List Loc) : Prop := v = some (.int r) ∧ Fr n0 L ∧ h = h0
set_option maxRecDepth 65536 in
set_option maxHeartbeats 40000000 in
theorem rm6 (l : Launch) (Z : State) (a0 : Array Value) (hw : ∀ d ∈ tables_1, d.before a0 Z = true) (ws : List Jvm.Cond) (a1 : Addr) (w1 r : Int32) (h0 : Heap) (n0 : Nat) (Z0 : n0 ≤ h0.size) (Fs : Fld Z h0 a1 "com/example/sumac/sumac/RedBlackTreeMap$Node" "sizeAndColour" "I" (.int w1)) (hr : w1 &&& (2147483647 : Int32) = r) :
    MetFree l (⟨"com/example/sumac/sumac/RedBlackTreeMap$Node", "size", "()I"⟩ : MethodName) (head1 (Jvm.Cond.code (⟨"com/example/sumac/sumac/RedBlackTreeMap$Node", "size", "()I"⟩ : MethodName) prog_6_method_4_code 1 (some .int) :: ws) ({ frames := 0, cells := 0, slots := 0, locals := 0 } : Room)) (fun a U => a = #[(.ref a1)] ∧ Z.Warmed39 U.vm ∧ U.heap = h0) (fun _ _ _ _ _ => True) (fun _ U o U' => ∃ v L, o = .returned v ∧ Q6 Z a1 w1 r h0 n0 v U'.heap L ∧ FrameEnd U o U' L ({ frames := 0, cells := 0, slots := 0, locals := 0 } : Room).cells ({ frames := 0, cells := 0, slots := 0, locals := 0 } : Room).slots) := by
  refine MetFree.of_bodySF (plainFor_of_name pn_com_example_sumac_sumac_RedBlackTreeMap_Node) hisR ?_
  intro p e s m args below meth c s₁ Bd hml0 hP hK
  obtain ⟨rfl, hZ, hh⟩ := hP
  have hx := Bd.exec
  have hby := Bd.bytes
  have hlk : meth.locks = false := BodyLoose.notSynchronized Bd
  have hml : c.maxLocals = 1 := hml0
  have hown : s.vm.findClass "com/example/sumac/sumac/RedBlackTreeMap$Node" = some m.cls := findClass_of_methodNamed Bd.named
  have hnm := (name_of_methodNamed Bd.named Bd.method).1
  have X0 : Stand p l e ({ frames := 0, cells := 0, slots := 0, locals := 0 } : Room) s m #[(.ref a1)] below meth c s₁ [] 0 0 := Stand.of_body Bd
  have e0 : s₁.heap = h0 := by rw [← hh, Bd.state]; rfl
  have N0 := Fr.nil n0
  show own_G p.tables e below s (Q6 Z a1 w1 r h0 n0) ({ frames := 0, cells := 0, slots := 0, locals := 0 } : Room).cells ({ frames := 0, cells := 0, slots := 0, locals := 0 } : Room).slots (s₁.setTop (entryFrame m #[(.ref a1)] 1))
  refine own_go (fun t k => castTop (ef_6 m a1) k) ?_
  show own_G p.tables e below s _ _ _ (s₁.setTop (mkF m 0 #[.val (.ref a1)] []))
  refine own_go (fun t k => XS.aloadN X0.here hx rfl (hb hby d6_0) rfl rfl k) ?_
  show own_G p.tables e below s _ _ _ (s₁.setTop (mkF m 1 #[.val (.ref a1)] [(.ref a1)]))
  obtain ⟨T49, X49, e49, st49⟩ := getF X0 hx hZ hown (host := "") (Or.inl (hw _ (List.mem_of_getElem? (i := 15) rfl))) Via.refl e0 Fs (g := (mkF m 1 #[.val (.ref a1)] [(.ref a1)])) rfl rfl (hb hby d6_1)
  refine own_go st49 ?_
  show own_G p.tables e below s _ _ _ (T49.setTop (mkF m 4 #[.val (.ref a1)] [(.int w1)]))
  refine own_go (fun t k => X49.ldcInt hx hown (mvT hZ (hw _ (List.mem_of_getElem? (i := 38) rfl))) (g := (mkF m 4 #[.val (.ref a1)] [(.int w1)])) rfl (hb hby d6_4) _ k) ?_
  show own_G p.tables e below s _ _ _ (T49.setTop (mkF m 6 #[.val (.ref a1)] [(.int (2147483647 : Int32)), (.int w1)]))
  refine own_go (fun t k => XS.iand X49.here hx rfl (hb hby d6_6) rfl k) ?_
  show own_G p.tables e below s _ _ _ (T49.setTop (mkF m 7 #[.val (.ref a1)] [(.int (w1 &&& (2147483647 : Int32)))]))
  exact own_retI X49 hx hlk Bd.returns (hb hby d6_7) (by rw [e49]; exact ⟨by rw [← hr], N0, rfl⟩) (by decide) (by decide)
theorem pd__Ljava_lang_Object_Ljava_lang_Object_Z_V : parseMethodDescriptor "(Ljava/lang/Object;Ljava/lang/Object;Z)V" = some ⟨[(.object "java/lang/Object"), (.object "java/lang/Object"), .boolean], none⟩ := by decide +kernel
theorem pd__I_V : parseMethodDescriptor "(I)V" = some ⟨[.int], none⟩ := by decide +kernel
theorem pd__Z_V : parseMethodDescriptor "(Z)V" = some ⟨[.boolean], none⟩ := by decide +kernel
theorem pd___Z : parseMethodDescriptor "()Z" = some ⟨[], some .boolean⟩ := by decide +kernel
theorem pd___I : parseMethodDescriptor "()I" = some ⟨[], some .int⟩ := by decide +kernel
theorem pn_com_example_sumac_sumac_NodeSetRedPinLaw : plainName "com/example/sumac/sumac/NodeSetRedPinLaw" = true := by first | (simp [plainName, overriddenIn]; done) | decide +kernel
theorem ef_0 (m : MethodId) (x0 : Int32) (x1 : Int32) : entryFrame m #[(.int x0), (.int x1)] maxLocals = mkF m 0 #[.val (.int x0), .val (.int x1), .unset, .unset, .unset, .unset, .unset, .unset, .unset] [] := by first | (simp [entryFrame, mkF, argsToLocals, Value.category, maxLocals]; done) | rfl
def Q0 (Z : State) (p1 p2 : Int32) (h0 : Heap) (n0 : Nat) (v : Option Value) (h : Heap) (L : List Loc) : Prop := v = some (.int 1) ∧ Fr n0 L
set_option maxRecDepth 65536 in
set_option maxHeartbeats 40000000 in
theorem rm0 (l : Launch) (Z : State) (a0 : Array Value) (hw : ∀ d ∈ tables_1, d.before a0 Z = true) (ws : List Jvm.Cond) (p1 p2 : Int32) (h0 : Heap) (n0 : Nat) (Z0 : n0 ≤ h0.size)  :
    MetFree l x (head1 (Jvm.Cond.code x code maxLocals ret :: ws) room_1) (fun a U => a = #[(.int p1), (.int p2)] ∧ Z.Warmed39 U.vm ∧ U.heap = h0) (fun _ _ _ _ _ => True) (fun _ U o U' => ∃ v L, o = .returned v ∧ Q0 Z p1 p2 h0 n0 v U'.heap L ∧ FrameEnd U o U' L room_1.cells room_1.slots) := by
  refine MetFree.of_bodySF (plainFor_of_name pn_com_example_sumac_sumac_NodeSetRedPinLaw) hisR ?_
  intro p e s m args below meth c s₁ Bd hml0 hP hK
  obtain ⟨rfl, hZ, hh⟩ := hP
  have hx := Bd.exec
  have hby := Bd.bytes
  have hlk : meth.locks = false := BodyLoose.notSynchronized Bd
  have hml : c.maxLocals = 9 := hml0
  have hown : s.vm.findClass "com/example/sumac/sumac/NodeSetRedPinLaw" = some m.cls := findClass_of_methodNamed Bd.named
  have hnm := (name_of_methodNamed Bd.named Bd.method).1
  have X0 : Stand p l e room_1 s m #[(.int p1), (.int p2)] below meth c s₁ [] 0 0 := Stand.of_body Bd
  have e0 : s₁.heap = h0 := by rw [← hh, Bd.state]; rfl
  have N0 := Fr.nil n0
  show own_G p.tables e below s (Q0 Z p1 p2 h0 n0) room_1.cells room_1.slots (s₁.setTop (entryFrame m #[(.int p1), (.int p2)] maxLocals))
  refine own_go (fun t k => castTop (ef_0 m p1 p2) k) ?_
  show own_G p.tables e below s _ _ _ (s₁.setTop (mkF m 0 #[.val (.int p1), .val (.int p2), .unset, .unset, .unset, .unset, .unset, .unset, .unset] []))
  refine own_go (fun t k => XS.iloadN X0.here hx rfl (hb hby at_0) rfl k) ?_
  show own_G p.tables e below s _ _ _ (s₁.setTop (mkF m 1 #[.val (.int p1), .val (.int p2), .unset, .unset, .unset, .unset, .unset, .unset, .unset] [(.int p2)]))
  refine own_go (fun t k => XS.iconst X0.here hx rfl (hb hby at_1) k) ?_
  show own_G p.tables e below s _ _ _ (s₁.setTop (mkF m 2 #[.val (.int p1), .val (.int p2), .unset, .unset, .unset, .unset, .unset, .unset, .unset] [(.int (1 : Int32)), (.int p2)]))
  refine own_go (fun t k => XS.iand X0.here hx rfl (hb hby at_2) rfl k) ?_
  show own_G p.tables e below s _ _ _ (s₁.setTop (mkF m 3 #[.val (.int p1), .val (.int p2), .unset, .unset, .unset, .unset, .unset, .unset, .unset] [(.int (p2 &&& (1 : Int32)))]))
  obtain ⟨r1, hr1, hr1'⟩ : ∃ r : Int32, r = (if (p2 &&& (1 : Int32)) = (0 : Int32) then (0 : Int32) else 1) ∧ (r = 0 ∨ r = 1) := ⟨_, rfl, by split <;> simp⟩
  refine own_go (A := (s₁.setTop (mkF m 11 #[.val (.int p1), .val (.int p2), .unset, .unset, .unset, .unset, .unset, .unset, .unset] [(.int r1)]))) (fun t k => ?_) ?_
  · show Steps p.tables e below (s₁.setTop (mkF m 3 #[.val (.int p1), .val (.int p2), .unset, .unset, .unset, .unset, .unset, .unset, .unset] [(.int (p2 &&& (1 : Int32)))])) _
    by_cases hf : (p2 &&& (1 : Int32)) = (0 : Int32)
    · refine XS.ifYes X0.here hx rfl (pc0 := 3) (pc' := 10) rfl (hb hby at_3) rfl (Jvm.Free.XT.i0_eq_t hf) (by decide) (by decide) ?_
      show Steps p.tables e below (s₁.setTop (mkF m 10 #[.val (.int p1), .val (.int p2), .unset, .unset, .unset, .unset, .unset, .unset, .unset] [])) _
      refine XS.iconst X0.here hx rfl (hb hby at_10) ?_
      show Steps p.tables e below (s₁.setTop (mkF m 11 #[.val (.int p1), .val (.int p2), .unset, .unset, .unset, .unset, .unset, .unset, .unset] [(.int (0 : Int32))])) _
      rw [hr1, if_pos hf] at k
      exact k
    · refine XS.ifNo X0.here hx rfl (hb hby at_3) rfl (Jvm.Free.XT.i0_eq_f hf) ?_
      show Steps p.tables e below (s₁.setTop (mkF m 6 #[.val (.int p1), .val (.int p2), .unset, .unset, .unset, .unset, .unset, .unset, .unset] [])) _
      refine XS.iconst X0.here hx rfl (hb hby at_6) ?_
      show Steps p.tables e below (s₁.setTop (mkF m 7 #[.val (.int p1), .val (.int p2), .unset, .unset, .unset, .unset, .unset, .unset, .unset] [(.int (1 : Int32))])) _
      refine XS.goto X0.here hx rfl (pc0 := 7) (pc' := 11) rfl (hb hby at_7) (by decide) (by decide) ?_
      show Steps p.tables e below (s₁.setTop (mkF m 11 #[.val (.int p1), .val (.int p2), .unset, .unset, .unset, .unset, .unset, .unset, .unset] [(.int (1 : Int32))])) _
      rw [hr1, if_neg hf] at k
      exact k
  show own_G p.tables e below s _ _ _ (s₁.setTop (mkF m 11 #[.val (.int p1), .val (.int p2), .unset, .unset, .unset, .unset, .unset, .unset, .unset] [(.int r1)]))
  refine own_go (fun t k => XS.istoreN X0.here hx rfl (hb hby at_11) rfl (l' := #[.val (.int p1), .val (.int p2), .val (.int r1), .unset, .unset, .unset, .unset, .unset, .unset]) rfl k) ?_
  show own_G p.tables e below s _ _ _ (s₁.setTop (mkF m 12 #[.val (.int p1), .val (.int p2), .val (.int r1), .unset, .unset, .unset, .unset, .unset, .unset] []))
  refine own_go (fun t k => XS.iloadN X0.here hx rfl (hb hby at_12) rfl k) ?_
  show own_G p.tables e below s _ _ _ (s₁.setTop (mkF m 13 #[.val (.int p1), .val (.int p2), .val (.int r1), .unset, .unset, .unset, .unset, .unset, .unset] [(.int p2)]))
  refine own_go (fun t k => XS.iconst X0.here hx rfl (hb hby at_13) k) ?_
  show own_G p.tables e below s _ _ _ (s₁.setTop (mkF m 14 #[.val (.int p1), .val (.int p2), .val (.int r1), .unset, .unset, .unset, .unset, .unset, .unset] [(.int (2 : Int32)), (.int p2)]))
  refine own_go (fun t k => XS.iand X0.here hx rfl (hb hby at_14) rfl k) ?_
  show own_G p.tables e below s _ _ _ (s₁.setTop (mkF m 15 #[.val (.int p1), .val (.int p2), .val (.int r1), .unset, .unset, .unset, .unset, .unset, .unset] [(.int (p2 &&& (2 : Int32)))]))
  obtain ⟨r2, hr2, hr2'⟩ : ∃ r : Int32, r = (if (p2 &&& (2 : Int32)) = (0 : Int32) then (0 : Int32) else 1) ∧ (r = 0 ∨ r = 1) := ⟨_, rfl, by split <;> simp⟩
  refine own_go (A := (s₁.setTop (mkF m 23 #[.val (.int p1), .val (.int p2), .val (.int r1), .unset, .unset, .unset, .unset, .unset, .unset] [(.int r2)]))) (fun t k => ?_) ?_
  · show Steps p.tables e below (s₁.setTop (mkF m 15 #[.val (.int p1), .val (.int p2), .val (.int r1), .unset, .unset, .unset, .unset, .unset, .unset] [(.int (p2 &&& (2 : Int32)))])) _
    by_cases hf : (p2 &&& (2 : Int32)) = (0 : Int32)
    · refine XS.ifYes X0.here hx rfl (pc0 := 15) (pc' := 22) rfl (hb hby at_15) rfl (Jvm.Free.XT.i0_eq_t hf) (by decide) (by decide) ?_
      show Steps p.tables e below (s₁.setTop (mkF m 22 #[.val (.int p1), .val (.int p2), .val (.int r1), .unset, .unset, .unset, .unset, .unset, .unset] [])) _
      refine XS.iconst X0.here hx rfl (hb hby at_22) ?_
      show Steps p.tables e below (s₁.setTop (mkF m 23 #[.val (.int p1), .val (.int p2), .val (.int r1), .unset, .unset, .unset, .unset, .unset, .unset] [(.int (0 : Int32))])) _
      rw [hr2, if_pos hf] at k
      exact k
    · refine XS.ifNo X0.here hx rfl (hb hby at_15) rfl (Jvm.Free.XT.i0_eq_f hf) ?_
      show Steps p.tables e below (s₁.setTop (mkF m 18 #[.val (.int p1), .val (.int p2), .val (.int r1), .unset, .unset, .unset, .unset, .unset, .unset] [])) _
      refine XS.iconst X0.here hx rfl (hb hby at_18) ?_
      show Steps p.tables e below (s₁.setTop (mkF m 19 #[.val (.int p1), .val (.int p2), .val (.int r1), .unset, .unset, .unset, .unset, .unset, .unset] [(.int (1 : Int32))])) _
      refine XS.goto X0.here hx rfl (pc0 := 19) (pc' := 23) rfl (hb hby at_19) (by decide) (by decide) ?_
      show Steps p.tables e below (s₁.setTop (mkF m 23 #[.val (.int p1), .val (.int p2), .val (.int r1), .unset, .unset, .unset, .unset, .unset, .unset] [(.int (1 : Int32))])) _
      rw [hr2, if_neg hf] at k
      exact k
  show own_G p.tables e below s _ _ _ (s₁.setTop (mkF m 23 #[.val (.int p1), .val (.int p2), .val (.int r1), .unset, .unset, .unset, .unset, .unset, .unset] [(.int r2)]))
  refine own_go (fun t k => XS.istoreN X0.here hx rfl (hb hby at_23) rfl (l' := #[.val (.int p1), .val (.int p2), .val (.int r1), .val (.int r2), .unset, .unset, .unset, .unset, .unset]) rfl k) ?_
  show own_G p.tables e below s _ _ _ (s₁.setTop (mkF m 24 #[.val (.int p1), .val (.int p2), .val (.int r1), .val (.int r2), .unset, .unset, .unset, .unset, .unset] []))
  refine own_go (fun t k => XS.iloadN X0.here hx rfl (hb hby at_24) rfl k) ?_
  show own_G p.tables e below s _ _ _ (s₁.setTop (mkF m 25 #[.val (.int p1), .val (.int p2), .val (.int r1), .val (.int r2), .unset, .unset, .unset, .unset, .unset] [(.int p2)]))
  refine own_go (fun t k => XS.iconst X0.here hx rfl (hb hby at_25) k) ?_
  show own_G p.tables e below s _ _ _ (s₁.setTop (mkF m 26 #[.val (.int p1), .val (.int p2), .val (.int r1), .val (.int r2), .unset, .unset, .unset, .unset, .unset] [(.int (4 : Int32)), (.int p2)]))
  refine own_go (fun t k => XS.iand X0.here hx rfl (hb hby at_26) rfl k) ?_
  show own_G p.tables e below s _ _ _ (s₁.setTop (mkF m 27 #[.val (.int p1), .val (.int p2), .val (.int r1), .val (.int r2), .unset, .unset, .unset, .unset, .unset] [(.int (p2 &&& (4 : Int32)))]))
  obtain ⟨r4, hr4, hr4'⟩ : ∃ r : Int32, r = (if (p2 &&& (4 : Int32)) = (0 : Int32) then (0 : Int32) else 1) ∧ (r = 0 ∨ r = 1) := ⟨_, rfl, by split <;> simp⟩
  refine own_go (A := (s₁.setTop (mkF m 35 #[.val (.int p1), .val (.int p2), .val (.int r1), .val (.int r2), .unset, .unset, .unset, .unset, .unset] [(.int r4)]))) (fun t k => ?_) ?_
  · show Steps p.tables e below (s₁.setTop (mkF m 27 #[.val (.int p1), .val (.int p2), .val (.int r1), .val (.int r2), .unset, .unset, .unset, .unset, .unset] [(.int (p2 &&& (4 : Int32)))])) _
    by_cases hf : (p2 &&& (4 : Int32)) = (0 : Int32)
    · refine XS.ifYes X0.here hx rfl (pc0 := 27) (pc' := 34) rfl (hb hby at_27) rfl (Jvm.Free.XT.i0_eq_t hf) (by decide) (by decide) ?_
      show Steps p.tables e below (s₁.setTop (mkF m 34 #[.val (.int p1), .val (.int p2), .val (.int r1), .val (.int r2), .unset, .unset, .unset, .unset, .unset] [])) _
      refine XS.iconst X0.here hx rfl (hb hby at_34) ?_
      show Steps p.tables e below (s₁.setTop (mkF m 35 #[.val (.int p1), .val (.int p2), .val (.int r1), .val (.int r2), .unset, .unset, .unset, .unset, .unset] [(.int (0 : Int32))])) _
      rw [hr4, if_pos hf] at k
      exact k
    · refine XS.ifNo X0.here hx rfl (hb hby at_27) rfl (Jvm.Free.XT.i0_eq_f hf) ?_
      show Steps p.tables e below (s₁.setTop (mkF m 30 #[.val (.int p1), .val (.int p2), .val (.int r1), .val (.int r2), .unset, .unset, .unset, .unset, .unset] [])) _
      refine XS.iconst X0.here hx rfl (hb hby at_30) ?_
      show Steps p.tables e below (s₁.setTop (mkF m 31 #[.val (.int p1), .val (.int p2), .val (.int r1), .val (.int r2), .unset, .unset, .unset, .unset, .unset] [(.int (1 : Int32))])) _
      refine XS.goto X0.here hx rfl (pc0 := 31) (pc' := 35) rfl (hb hby at_31) (by decide) (by decide) ?_
      show Steps p.tables e below (s₁.setTop (mkF m 35 #[.val (.int p1), .val (.int p2), .val (.int r1), .val (.int r2), .unset, .unset, .unset, .unset, .unset] [(.int (1 : Int32))])) _
      rw [hr4, if_neg hf] at k
      exact k
  show own_G p.tables e below s _ _ _ (s₁.setTop (mkF m 35 #[.val (.int p1), .val (.int p2), .val (.int r1), .val (.int r2), .unset, .unset, .unset, .unset, .unset] [(.int r4)]))
  refine own_go (fun t k => XS.istore X0.here hx rfl (hb hby at_35) rfl (l' := #[.val (.int p1), .val (.int p2), .val (.int r1), .val (.int r2), .val (.int r4), .unset, .unset, .unset, .unset]) rfl k) ?_
  show own_G p.tables e below s _ _ _ (s₁.setTop (mkF m 37 #[.val (.int p1), .val (.int p2), .val (.int r1), .val (.int r2), .val (.int r4), .unset, .unset, .unset, .unset] []))
  refine own_go (fun t k => XS.iloadN X0.here hx rfl (hb hby at_37) rfl k) ?_
  show own_G p.tables e below s _ _ _ (s₁.setTop (mkF m 38 #[.val (.int p1), .val (.int p2), .val (.int r1), .val (.int r2), .val (.int r4), .unset, .unset, .unset, .unset] [(.int p1)]))
  refine own_go (fun t k => X0.ldcInt hx hown (mvT hZ (hw _ (List.mem_of_getElem? (i := 0) rfl))) (g := (mkF m 38 #[.val (.int p1), .val (.int p2), .val (.int r1), .val (.int r2), .val (.int r4), .unset, .unset, .unset, .unset] [(.int p1)])) rfl (hb hby at_38) _ k) ?_
  show own_G p.tables e below s _ _ _ (s₁.setTop (mkF m 40 #[.val (.int p1), .val (.int p2), .val (.int r1), .val (.int r2), .val (.int r4), .unset, .unset, .unset, .unset] [(.int (2147483647 : Int32)), (.int p1)]))
  refine own_go (fun t k => XS.iand X0.here hx rfl (hb hby at_40) rfl k) ?_
  show own_G p.tables e below s _ _ _ (s₁.setTop (mkF m 41 #[.val (.int p1), .val (.int p2), .val (.int r1), .val (.int r2), .val (.int r4), .unset, .unset, .unset, .unset] [(.int (p1 &&& (2147483647 : Int32)))]))
  refine own_go (fun t k => XS.istore X0.here hx rfl (hb hby at_41) rfl (l' := #[.val (.int p1), .val (.int p2), .val (.int r1), .val (.int r2), .val (.int r4), .val (.int (p1 &&& (2147483647 : Int32))), .unset, .unset, .unset]) rfl k) ?_
  show own_G p.tables e below s _ _ _ (s₁.setTop (mkF m 43 #[.val (.int p1), .val (.int p2), .val (.int r1), .val (.int r2), .val (.int r4), .val (.int (p1 &&& (2147483647 : Int32))), .unset, .unset, .unset] []))
  obtain ⟨T50, h50, X50, e50, E50, A50, D50, -, st50⟩ := newO X0 hx hZ hown (hw _ (List.mem_of_getElem? (i := 1) rfl)) (hw _ (List.mem_of_getElem? (i := 2) rfl)) (hw _ (List.mem_of_getElem? (i := 3) rfl)) e0 (g := (mkF m 43 #[.val (.int p1), .val (.int p2), .val (.int r1), .val (.int r2), .val (.int r4), .val (.int (p1 &&& (2147483647 : Int32))), .unset, .unset, .unset] [])) rfl (hb hby at_43) (by decide) (by decide)
  obtain ⟨b50, g50⟩ : ∃ z, z = h0.size := ⟨_, rfl⟩
  rw [← g50] at A50 D50 st50
  refine own_go st50 ?_
  have g51 := Nat.le_trans Z0 (Nat.le_of_eq g50.symm)
  have z52 := Nat.le_trans Z0 E50.1
  have f53 : Fld Z h50 b50 "com/example/sumac/sumac/RedBlackTreeMap$Node" "key" "Ljava/lang/Object;" .null := D50 (Or.inl (hw _ (List.mem_of_getElem? (i := 11) rfl))) (ty := (.object "java/lang/Object")) (by decide)
  have f54 : Fld Z h50 b50 "com/example/sumac/sumac/RedBlackTreeMap$Node" "value" "Ljava/lang/Object;" .null := D50 (Or.inl (hw _ (List.mem_of_getElem? (i := 13) rfl))) (ty := (.object "java/lang/Object")) (by decide)
  have f55 : Fld Z h50 b50 "com/example/sumac/sumac/RedBlackTreeMap$Node" "sizeAndColour" "I" (.int (0 : Int32)) := D50 (Or.inl (hw _ (List.mem_of_getElem? (i := 16) rfl))) (ty := .int) (by decide)
  show own_G p.tables e below s _ _ _ (T50.setTop (mkF m 46 #[.val (.int p1), .val (.int p2), .val (.int r1), .val (.int r2), .val (.int r4), .val (.int (p1 &&& (2147483647 : Int32))), .unset, .unset, .unset] [(.ref b50)]))
  refine own_go (fun t k => XS.dup X50.here hx rfl (hb hby at_46) rfl rfl k) ?_
  show own_G p.tables e below s _ _ _ (T50.setTop (mkF m 47 #[.val (.int p1), .val (.int p2), .val (.int r1), .val (.int r2), .val (.int r4), .val (.int (p1 &&& (2147483647 : Int32))), .unset, .unset, .unset] [(.ref b50), (.ref b50)]))
  refine own_go (fun t k => XS.aconstNull X50.here hx rfl (hb hby at_47) k) ?_
  show own_G p.tables e below s _ _ _ (T50.setTop (mkF m 48 #[.val (.int p1), .val (.int p2), .val (.int r1), .val (.int r2), .val (.int r4), .val (.int (p1 &&& (2147483647 : Int32))), .unset, .unset, .unset] [.null, (.ref b50), (.ref b50)]))
  refine own_go (fun t k => XS.aconstNull X50.here hx rfl (hb hby at_48) k) ?_
  show own_G p.tables e below s _ _ _ (T50.setTop (mkF m 49 #[.val (.int p1), .val (.int p2), .val (.int r1), .val (.int r2), .val (.int r4), .val (.int (p1 &&& (2147483647 : Int32))), .unset, .unset, .unset] [.null, .null, (.ref b50), (.ref b50)]))
  refine own_go (fun t k => XS.iloadN X50.here hx rfl (hb hby at_49) rfl k) ?_
  show own_G p.tables e below s _ _ _ (T50.setTop (mkF m 50 #[.val (.int p1), .val (.int p2), .val (.int r1), .val (.int r2), .val (.int r4), .val (.int (p1 &&& (2147483647 : Int32))), .unset, .unset, .unset] [(.int r1), .null, .null, (.ref b50), (.ref b50)]))
  obtain ⟨_, _, ⟨T56, L56, k56, n56⟩, -, X56, ⟨Lc56, hQ56, l56, y56, z56⟩, st56⟩ := X50.specialBack hx (y := (⟨"com/example/sumac/sumac/RedBlackTreeMap$Node", "<init>", "(Ljava/lang/Object;Ljava/lang/Object;Z)V"⟩ : MethodName)) rfl hown (mvT hZ (hw _ (List.mem_of_getElem? (i := 4) rfl))) (mvT hZ (hw _ (List.mem_of_getElem? (i := 5) rfl))) (mvT hZ (hw _ (List.mem_of_getElem? (i := 6) rfl))) (by decide) (backOf (W := 1) (rm1 l Z a0 hw [] b50 r1 h50 n0 z52 A50 f53 f54 f55 g51) hZ (hw _ (List.mem_of_getElem? (i := 6) rfl)) (hw _ (List.mem_of_getElem? (i := 3) rfl)) (by decide) (by decide)) (g := (mkF m 50 #[.val (.int p1), .val (.int p2), .val (.int r1), .val (.int r2), .val (.int r4), .val (.int (p1 &&& (2147483647 : Int32))), .unset, .unset, .unset] [(.int r1), .null, .null, (.ref b50), (.ref b50)])) rfl (by rw [hml]; rfl) (Steps.refl _) (a := b50) (argsL := [.null, .null, (.int r1)]) (rest := [(.ref b50)]) (lenOf pd__Ljava_lang_Object_Ljava_lang_Object_Z_V rfl) rfl (by show 2 * 0 + _ ≤ _; exact Nat.le_of_eq rfl) (hb hby at_50) (fun _ _ => ⟨rfl, e50, (by decide : 1 + 0 ≤ _), (by decide : 5 + 0 ≤ _)⟩)
  dsimp only [Pt.U, Pt.locs, Pt.cells, Pt.slots] at X56 l56 y56 z56 st56 hQ56
  subst l56 y56 z56
  obtain ⟨rfl, N56q, K56, E56, w56, F56⟩ := hQ56
  have N56 := Fr.app N0 N56q
  refine own_go (fun t k => st56.trans k) ?_
  have f57 := A50.keep K56
  have z58 := Nat.le_trans z52 K56.1
  show own_G p.tables e below s _ _ _ (T56.setTop (mkF m 53 #[.val (.int p1), .val (.int p2), .val (.int r1), .val (.int r2), .val (.int r4), .val (.int (p1 &&& (2147483647 : Int32))), .unset, .unset, .unset] [(.ref b50)]))
  refine own_go (fun t k => XS.astore X56.here hx rfl (hb hby at_53) rfl rfl (l' := #[.val (.int p1), .val (.int p2), .val (.int r1), .val (.int r2), .val (.int r4), .val (.int (p1 &&& (2147483647 : Int32))), .val (.ref b50), .unset, .unset]) rfl k) ?_
  show own_G p.tables e below s _ _ _ (T56.setTop (mkF m 55 #[.val (.int p1), .val (.int p2), .val (.int r1), .val (.int r2), .val (.int r4), .val (.int (p1 &&& (2147483647 : Int32))), .val (.ref b50), .unset, .unset] []))
  refine own_go (fun t k => XS.aload X56.here hx rfl (hb hby at_55) rfl rfl k) ?_
  show own_G p.tables e below s _ _ _ (T56.setTop (mkF m 57 #[.val (.int p1), .val (.int p2), .val (.int r1), .val (.int r2), .val (.int r4), .val (.int (p1 &&& (2147483647 : Int32))), .val (.ref b50), .unset, .unset] [(.ref b50)]))
  refine own_go (fun t k => XS.iload X56.here hx rfl (hb hby at_57) rfl k) ?_
  show own_G p.tables e below s _ _ _ (T56.setTop (mkF m 59 #[.val (.int p1), .val (.int p2), .val (.int r1), .val (.int r2), .val (.int r4), .val (.int (p1 &&& (2147483647 : Int32))), .val (.ref b50), .unset, .unset] [(.int (p1 &&& (2147483647 : Int32))), (.ref b50)]))
  obtain ⟨cq59, kq59, q59a, q59b, q59c⟩ := isOf hZ rfl f57
  obtain ⟨_, _, ⟨T59, L59, k59, n59⟩, -, X59, ⟨Lc59, hQ59, l59, y59, z59⟩, st59⟩ := X56.virtualBack hx (y := (⟨"com/example/sumac/sumac/RedBlackTreeMap$Node", "setSize", "(I)V"⟩ : MethodName)) (z := (⟨"com/example/sumac/sumac/RedBlackTreeMap$Node", "setSize", "(I)V"⟩ : MethodName)) hown (mvT hZ (hw _ (List.mem_of_getElem? (i := 17) rfl))) (mvT hZ (hw _ (List.mem_of_getElem? (i := 18) rfl))) (notFace_of_selects (args := #[]) (mvT hZ (hw _ (List.mem_of_getElem? (i := 20) rfl)))) (mvT hZ (hw _ (List.mem_of_getElem? (i := 20) rfl))) (mvT hZ (hw _ (List.mem_of_getElem? (i := 19) rfl))) (by decide) (backOf (W := 0) (rm3 l Z a0 hw [] b50 (p1 &&& (2147483647 : Int32)) w56 T56.heap n0 z58 f57 F56 g51) hZ (hw _ (List.mem_of_getElem? (i := 21) rfl)) (hw _ (List.mem_of_getElem? (i := 3) rfl)) (by decide) (by decide)) q59a q59c (g := (mkF m 59 #[.val (.int p1), .val (.int p2), .val (.int r1), .val (.int r2), .val (.int r4), .val (.int (p1 &&& (2147483647 : Int32))), .val (.ref b50), .unset, .unset] [(.int (p1 &&& (2147483647 : Int32))), (.ref b50)])) rfl (by rw [hml]; rfl) (Steps.refl _) (argsL := [(.int (p1 &&& (2147483647 : Int32)))]) (rest := []) (lenOf pd__I_V rfl) rfl (by show 2 * 0 + _ ≤ _; exact Nat.le_of_eq rfl) (hb hby at_59) (fun _ _ => ⟨rfl, rfl, (by decide : 1 + 0 ≤ _), (by decide : 5 + 0 ≤ _)⟩)
  dsimp only [Pt.U, Pt.locs, Pt.cells, Pt.slots] at X59 l59 y59 z59 st59 hQ59
  subst l59 y59 z59
  obtain ⟨rfl, N59q, K59, F59⟩ := hQ59
  have N59 := Fr.app N56 N59q
  refine own_go (fun t k => st59.trans k) ?_
  have f60 := f57.keep K59
  have z61 := Nat.le_trans z58 K59.1
  show own_G p.tables e below s _ _ _ (T59.setTop (mkF m 62 #[.val (.int p1), .val (.int p2), .val (.int r1), .val (.int r2), .val (.int r4), .val (.int (p1 &&& (2147483647 : Int32))), .val (.ref b50), .unset, .unset] []))
  have hv1 : ((w56 &&& (-2147483648 : Int32)) ||| (p1 &&& (2147483647 : Int32))) &&& (2147483647 : Int32) = (p1 &&& (2147483647 : Int32)) := own_size _ _ (own_mask p1)
  refine own_go (fun t k => XS.aload X59.here hx rfl (hb hby at_62) rfl rfl k) ?_
  show own_G p.tables e below s _ _ _ (T59.setTop (mkF m 64 #[.val (.int p1), .val (.int p2), .val (.int r1), .val (.int r2), .val (.int r4), .val (.int (p1 &&& (2147483647 : Int32))), .val (.ref b50), .unset, .unset] [(.ref b50)]))
  refine own_go (fun t k => XS.iloadN X59.here hx rfl (hb hby at_64) rfl k) ?_
  show own_G p.tables e below s _ _ _ (T59.setTop (mkF m 65 #[.val (.int p1), .val (.int p2), .val (.int r1), .val (.int r2), .val (.int r4), .val (.int (p1 &&& (2147483647 : Int32))), .val (.ref b50), .unset, .unset] [(.int r2), (.ref b50)]))
  obtain ⟨cq62, kq62, q62a, q62b, q62c⟩ := isOf hZ rfl f60
  obtain ⟨_, _, ⟨T62, L62, k62, n62⟩, -, X62, ⟨Lc62, hQ62, l62, y62, z62⟩, st62⟩ := X59.virtualBack hx (y := (⟨"com/example/sumac/sumac/RedBlackTreeMap$Node", "setRed", "(Z)V"⟩ : MethodName)) (z := (⟨"com/example/sumac/sumac/RedBlackTreeMap$Node", "setRed", "(Z)V"⟩ : MethodName)) hown (mvT hZ (hw _ (List.mem_of_getElem? (i := 23) rfl))) (mvT hZ (hw _ (List.mem_of_getElem? (i := 24) rfl))) (notFace_of_selects (args := #[]) (mvT hZ (hw _ (List.mem_of_getElem? (i := 26) rfl)))) (mvT hZ (hw _ (List.mem_of_getElem? (i := 26) rfl))) (mvT hZ (hw _ (List.mem_of_getElem? (i := 25) rfl))) (by decide) (backOf (W := 0) (rm4 l Z a0 hw [] b50 r2 ((w56 &&& (-2147483648 : Int32)) ||| (p1 &&& (2147483647 : Int32))) T59.heap n0 z61 f60 F59 g51) hZ (hw _ (List.mem_of_getElem? (i := 27) rfl)) (hw _ (List.mem_of_getElem? (i := 3) rfl)) (by decide) (by decide)) q62a q62c (g := (mkF m 65 #[.val (.int p1), .val (.int p2), .val (.int r1), .val (.int r2), .val (.int r4), .val (.int (p1 &&& (2147483647 : Int32))), .val (.ref b50), .unset, .unset] [(.int r2), (.ref b50)])) rfl (by rw [hml]; rfl) (Steps.refl _) (argsL := [(.int r2)]) (rest := []) (lenOf pd__Z_V rfl) rfl (by show 2 * 0 + _ ≤ _; exact Nat.le_of_eq rfl) (hb hby at_65) (fun _ _ => ⟨rfl, rfl, (by decide : 1 + 0 ≤ _), (by decide : 5 + 0 ≤ _)⟩)
  dsimp only [Pt.U, Pt.locs, Pt.cells, Pt.slots] at X62 l62 y62 z62 st62 hQ62
  subst l62 y62 z62
  obtain ⟨rfl, N62q, K62, F62⟩ := hQ62
  have N62 := Fr.app N59 N62q
  refine own_go (fun t k => st62.trans k) ?_
  have f63 := f60.keep K62
  have z64 := Nat.le_trans z61 K62.1
  show own_G p.tables e below s _ _ _ (T62.setTop (mkF m 68 #[.val (.int p1), .val (.int p2), .val (.int r1), .val (.int r2), .val (.int r4), .val (.int (p1 &&& (2147483647 : Int32))), .val (.ref b50), .unset, .unset] []))
  obtain ⟨hua, hub⟩ := own_set ((w56 &&& (-2147483648 : Int32)) ||| (p1 &&& (2147483647 : Int32))) r2 (p1 &&& (2147483647 : Int32)) hr2' (own_mask p1) hv1
  obtain ⟨vhu, hxhu⟩ : ∃ z, z = (if r2 = 0 then ((w56 &&& (-2147483648 : Int32)) ||| (p1 &&& (2147483647 : Int32))) &&& (2147483647 : Int32) else ((w56 &&& (-2147483648 : Int32)) ||| (p1 &&& (2147483647 : Int32))) ||| (-2147483648 : Int32)) := ⟨_, rfl⟩
  rw [← hxhu] at F62 hua hub
  refine own_go (fun t k => XS.aload X62.here hx rfl (hb hby at_68) rfl rfl k) ?_
  show own_G p.tables e below s _ _ _ (T62.setTop (mkF m 70 #[.val (.int p1), .val (.int p2), .val (.int r1), .val (.int r2), .val (.int r4), .val (.int (p1 &&& (2147483647 : Int32))), .val (.ref b50), .unset, .unset] [(.ref b50)]))
  obtain ⟨cq65, kq65, q65a, q65b, q65c⟩ := isOf hZ rfl f63
  obtain ⟨_, _, ⟨T65, L65, k65, n65⟩, -, X65, ⟨Lc65, hQ65, l65, y65, z65⟩, st65⟩ := X62.virtualBack hx (y := (⟨"com/example/sumac/sumac/RedBlackTreeMap$Node", "isRed", "()Z"⟩ : MethodName)) (z := (⟨"com/example/sumac/sumac/RedBlackTreeMap$Node", "isRed", "()Z"⟩ : MethodName)) hown (mvT hZ (hw _ (List.mem_of_getElem? (i := 28) rfl))) (mvT hZ (hw _ (List.mem_of_getElem? (i := 29) rfl))) (notFace_of_selects (args := #[]) (mvT hZ (hw _ (List.mem_of_getElem? (i := 31) rfl)))) (mvT hZ (hw _ (List.mem_of_getElem? (i := 31) rfl))) (mvT hZ (hw _ (List.mem_of_getElem? (i := 30) rfl))) (by decide) (backOf (W := 0) (rm5 l Z a0 hw [] b50 vhu r2 T62.heap n0 z64 F62 hua) hZ (hw _ (List.mem_of_getElem? (i := 32) rfl)) (hw _ (List.mem_of_getElem? (i := 3) rfl)) (by decide) (by decide)) q65a q65c (g := (mkF m 70 #[.val (.int p1), .val (.int p2), .val (.int r1), .val (.int r2), .val (.int r4), .val (.int (p1 &&& (2147483647 : Int32))), .val (.ref b50), .unset, .unset] [(.ref b50)])) rfl (by rw [hml]; rfl) (Steps.refl _) (argsL := []) (rest := []) (lenOf pd___Z rfl) rfl (by show 2 * 0 + _ ≤ _; exact Nat.le_of_eq rfl) (hb hby at_70) (fun _ _ => ⟨rfl, rfl, (by decide : 1 + 0 ≤ _), (by decide : 5 + 0 ≤ _)⟩)
  dsimp only [Pt.U, Pt.locs, Pt.cells, Pt.slots] at X65 l65 y65 z65 st65 hQ65
  subst l65 y65 z65
  obtain ⟨rfl, N65q, hh65⟩ := hQ65
  have N65 := Fr.app N62 N65q
  refine own_go (fun t k => st65.trans k) ?_
  show own_G p.tables e below s _ _ _ (T65.setTop (mkF m 73 #[.val (.int p1), .val (.int p2), .val (.int r1), .val (.int r2), .val (.int r4), .val (.int (p1 &&& (2147483647 : Int32))), .val (.ref b50), .unset, .unset] [(.int r2)]))
  refine own_go (fun t k => XS.iloadN X65.here hx rfl (hb hby at_73) rfl k) ?_
  show own_G p.tables e below s _ _ _ (T65.setTop (mkF m 74 #[.val (.int p1), .val (.int p2), .val (.int r1), .val (.int r2), .val (.int r4), .val (.int (p1 &&& (2147483647 : Int32))), .val (.ref b50), .unset, .unset] [(.int r2), (.int r2)]))
  refine own_go (fun t k => XS.icmpNo X65.here hx rfl (hb hby at_74) rfl (Jvm.Free.XT.ii_ne_f rfl) k) ?_
  show own_G p.tables e below s _ _ _ (T65.setTop (mkF m 77 #[.val (.int p1), .val (.int p2), .val (.int r1), .val (.int r2), .val (.int r4), .val (.int (p1 &&& (2147483647 : Int32))), .val (.ref b50), .unset, .unset] []))
  refine own_go (fun t k => XS.aload X65.here hx rfl (hb hby at_77) rfl rfl k) ?_
  show own_G p.tables e below s _ _ _ (T65.setTop (mkF m 79 #[.val (.int p1), .val (.int p2), .val (.int r1), .val (.int r2), .val (.int r4), .val (.int (p1 &&& (2147483647 : Int32))), .val (.ref b50), .unset, .unset] [(.ref b50)]))
  obtain ⟨cq66, kq66, q66a, q66b, q66c⟩ := isOf hZ hh65 f63
  obtain ⟨_, _, ⟨T66, L66, k66, n66⟩, -, X66, ⟨Lc66, hQ66, l66, y66, z66⟩, st66⟩ := X65.virtualBack hx (y := (⟨"com/example/sumac/sumac/RedBlackTreeMap$Node", "size", "()I"⟩ : MethodName)) (z := (⟨"com/example/sumac/sumac/RedBlackTreeMap$Node", "size", "()I"⟩ : MethodName)) hown (mvT hZ (hw _ (List.mem_of_getElem? (i := 33) rfl))) (mvT hZ (hw _ (List.mem_of_getElem? (i := 34) rfl))) (notFace_of_selects (args := #[]) (mvT hZ (hw _ (List.mem_of_getElem? (i := 36) rfl)))) (mvT hZ (hw _ (List.mem_of_getElem? (i := 36) rfl))) (mvT hZ (hw _ (List.mem_of_getElem? (i := 35) rfl))) (by decide) (backOf (W := 0) (rm6 l Z a0 hw [] b50 vhu (p1 &&& (2147483647 : Int32)) T62.heap n0 z64 F62 hub) hZ (hw _ (List.mem_of_getElem? (i := 37) rfl)) (hw _ (List.mem_of_getElem? (i := 3) rfl)) (by decide) (by decide)) q66a q66c (g := (mkF m 79 #[.val (.int p1), .val (.int p2), .val (.int r1), .val (.int r2), .val (.int r4), .val (.int (p1 &&& (2147483647 : Int32))), .val (.ref b50), .unset, .unset] [(.ref b50)])) rfl (by rw [hml]; rfl) (Steps.refl _) (argsL := []) (rest := []) (lenOf pd___I rfl) rfl (by show 2 * 0 + _ ≤ _; exact Nat.le_of_eq rfl) (hb hby at_79) (fun _ _ => ⟨rfl, hh65, (by decide : 1 + 0 ≤ _), (by decide : 5 + 0 ≤ _)⟩)
  dsimp only [Pt.U, Pt.locs, Pt.cells, Pt.slots] at X66 l66 y66 z66 st66 hQ66
  subst l66 y66 z66
  obtain ⟨rfl, N66q, hh66⟩ := hQ66
  have N66 := Fr.app N65 N66q
  refine own_go (fun t k => st66.trans k) ?_
  show own_G p.tables e below s _ _ _ (T66.setTop (mkF m 82 #[.val (.int p1), .val (.int p2), .val (.int r1), .val (.int r2), .val (.int r4), .val (.int (p1 &&& (2147483647 : Int32))), .val (.ref b50), .unset, .unset] [(.int (p1 &&& (2147483647 : Int32)))]))
  refine own_go (fun t k => XS.iload X66.here hx rfl (hb hby at_82) rfl k) ?_
  show own_G p.tables e below s _ _ _ (T66.setTop (mkF m 84 #[.val (.int p1), .val (.int p2), .val (.int r1), .val (.int r2), .val (.int r4), .val (.int (p1 &&& (2147483647 : Int32))), .val (.ref b50), .unset, .unset] [(.int (p1 &&& (2147483647 : Int32))), (.int (p1 &&& (2147483647 : Int32)))]))
  refine own_go (fun t k => XS.icmpNo X66.here hx rfl (hb hby at_84) rfl (Jvm.Free.XT.ii_ne_f rfl) k) ?_
  show own_G p.tables e below s _ _ _ (T66.setTop (mkF m 87 #[.val (.int p1), .val (.int p2), .val (.int r1), .val (.int r2), .val (.int r4), .val (.int (p1 &&& (2147483647 : Int32))), .val (.ref b50), .unset, .unset] []))
  refine own_go (fun t k => XS.iconst X66.here hx rfl (hb hby at_87) k) ?_
  show own_G p.tables e below s _ _ _ (T66.setTop (mkF m 88 #[.val (.int p1), .val (.int p2), .val (.int r1), .val (.int r2), .val (.int r4), .val (.int (p1 &&& (2147483647 : Int32))), .val (.ref b50), .unset, .unset] [(.int (1 : Int32))]))
  refine own_go (fun t k => XS.goto X66.here hx rfl (pc0 := 88) (pc' := 92) rfl (hb hby at_88) (by decide) (by decide) k) ?_
  show own_G p.tables e below s _ _ _ (T66.setTop (mkF m 92 #[.val (.int p1), .val (.int p2), .val (.int r1), .val (.int r2), .val (.int r4), .val (.int (p1 &&& (2147483647 : Int32))), .val (.ref b50), .unset, .unset] [(.int (1 : Int32))]))
  refine own_go (fun t k => XS.istore X66.here hx rfl (hb hby at_92) rfl (l' := #[.val (.int p1), .val (.int p2), .val (.int r1), .val (.int r2), .val (.int r4), .val (.int (p1 &&& (2147483647 : Int32))), .val (.ref b50), .val (.int (1 : Int32)), .unset]) rfl k) ?_
  show own_G p.tables e below s _ _ _ (T66.setTop (mkF m 94 #[.val (.int p1), .val (.int p2), .val (.int r1), .val (.int r2), .val (.int r4), .val (.int (p1 &&& (2147483647 : Int32))), .val (.ref b50), .val (.int (1 : Int32)), .unset] []))
  refine own_go (fun t k => XS.aload X66.here hx rfl (hb hby at_94) rfl rfl k) ?_
  show own_G p.tables e below s _ _ _ (T66.setTop (mkF m 96 #[.val (.int p1), .val (.int p2), .val (.int r1), .val (.int r2), .val (.int r4), .val (.int (p1 &&& (2147483647 : Int32))), .val (.ref b50), .val (.int (1 : Int32)), .unset] [(.ref b50)]))
  refine own_go (fun t k => XS.iload X66.here hx rfl (hb hby at_96) rfl k) ?_
  show own_G p.tables e below s _ _ _ (T66.setTop (mkF m 98 #[.val (.int p1), .val (.int p2), .val (.int r1), .val (.int r2), .val (.int r4), .val (.int (p1 &&& (2147483647 : Int32))), .val (.ref b50), .val (.int (1 : Int32)), .unset] [(.int r4), (.ref b50)]))
  obtain ⟨cq67, kq67, q67a, q67b, q67c⟩ := isOf hZ hh66 f63
  obtain ⟨_, _, ⟨T67, L67, k67, n67⟩, -, X67, ⟨Lc67, hQ67, l67, y67, z67⟩, st67⟩ := X66.virtualBack hx (y := (⟨"com/example/sumac/sumac/RedBlackTreeMap$Node", "setRed", "(Z)V"⟩ : MethodName)) (z := (⟨"com/example/sumac/sumac/RedBlackTreeMap$Node", "setRed", "(Z)V"⟩ : MethodName)) hown (mvT hZ (hw _ (List.mem_of_getElem? (i := 23) rfl))) (mvT hZ (hw _ (List.mem_of_getElem? (i := 24) rfl))) (notFace_of_selects (args := #[]) (mvT hZ (hw _ (List.mem_of_getElem? (i := 26) rfl)))) (mvT hZ (hw _ (List.mem_of_getElem? (i := 26) rfl))) (mvT hZ (hw _ (List.mem_of_getElem? (i := 25) rfl))) (by decide) (backOf (W := 0) (rm4 l Z a0 hw [] b50 r4 vhu T62.heap n0 z64 f63 F62 g51) hZ (hw _ (List.mem_of_getElem? (i := 27) rfl)) (hw _ (List.mem_of_getElem? (i := 3) rfl)) (by decide) (by decide)) q67a q67c (g := (mkF m 98 #[.val (.int p1), .val (.int p2), .val (.int r1), .val (.int r2), .val (.int r4), .val (.int (p1 &&& (2147483647 : Int32))), .val (.ref b50), .val (.int (1 : Int32)), .unset] [(.int r4), (.ref b50)])) rfl (by rw [hml]; rfl) (Steps.refl _) (argsL := [(.int r4)]) (rest := []) (lenOf pd__Z_V rfl) rfl (by show 2 * 0 + _ ≤ _; exact Nat.le_of_eq rfl) (hb hby at_98) (fun _ _ => ⟨rfl, hh66, (by decide : 1 + 0 ≤ _), (by decide : 5 + 0 ≤ _)⟩)
  dsimp only [Pt.U, Pt.locs, Pt.cells, Pt.slots] at X67 l67 y67 z67 st67 hQ67
  subst l67 y67 z67
  obtain ⟨rfl, N67q, K67, F67⟩ := hQ67
  have N67 := Fr.app N66 N67q
  refine own_go (fun t k => st67.trans k) ?_
  have f68 := f63.keep K67
  have z69 := Nat.le_trans z64 K67.1
  show own_G p.tables e below s _ _ _ (T67.setTop (mkF m 101 #[.val (.int p1), .val (.int p2), .val (.int r1), .val (.int r2), .val (.int r4), .val (.int (p1 &&& (2147483647 : Int32))), .val (.ref b50), .val (.int (1 : Int32)), .unset] []))
  obtain ⟨hw2a, hw2b⟩ := own_set vhu r4 (p1 &&& (2147483647 : Int32)) hr4' (own_mask p1) hub
  obtain ⟨vhw2, hxhw2⟩ : ∃ z, z = (if r4 = 0 then vhu &&& (2147483647 : Int32) else vhu ||| (-2147483648 : Int32)) := ⟨_, rfl⟩
  rw [← hxhw2] at F67 hw2a hw2b
  refine own_go (fun t k => XS.aload X67.here hx rfl (hb hby at_101) rfl rfl k) ?_
  show own_G p.tables e below s _ _ _ (T67.setTop (mkF m 103 #[.val (.int p1), .val (.int p2), .val (.int r1), .val (.int r2), .val (.int r4), .val (.int (p1 &&& (2147483647 : Int32))), .val (.ref b50), .val (.int (1 : Int32)), .unset] [(.ref b50)]))
  obtain ⟨cq70, kq70, q70a, q70b, q70c⟩ := isOf hZ rfl f68
  obtain ⟨_, _, ⟨T70, L70, k70, n70⟩, -, X70, ⟨Lc70, hQ70, l70, y70, z70⟩, st70⟩ := X67.virtualBack hx (y := (⟨"com/example/sumac/sumac/RedBlackTreeMap$Node", "isRed", "()Z"⟩ : MethodName)) (z := (⟨"com/example/sumac/sumac/RedBlackTreeMap$Node", "isRed", "()Z"⟩ : MethodName)) hown (mvT hZ (hw _ (List.mem_of_getElem? (i := 28) rfl))) (mvT hZ (hw _ (List.mem_of_getElem? (i := 29) rfl))) (notFace_of_selects (args := #[]) (mvT hZ (hw _ (List.mem_of_getElem? (i := 31) rfl)))) (mvT hZ (hw _ (List.mem_of_getElem? (i := 31) rfl))) (mvT hZ (hw _ (List.mem_of_getElem? (i := 30) rfl))) (by decide) (backOf (W := 0) (rm5 l Z a0 hw [] b50 vhw2 r4 T67.heap n0 z69 F67 hw2a) hZ (hw _ (List.mem_of_getElem? (i := 32) rfl)) (hw _ (List.mem_of_getElem? (i := 3) rfl)) (by decide) (by decide)) q70a q70c (g := (mkF m 103 #[.val (.int p1), .val (.int p2), .val (.int r1), .val (.int r2), .val (.int r4), .val (.int (p1 &&& (2147483647 : Int32))), .val (.ref b50), .val (.int (1 : Int32)), .unset] [(.ref b50)])) rfl (by rw [hml]; rfl) (Steps.refl _) (argsL := []) (rest := []) (lenOf pd___Z rfl) rfl (by show 2 * 0 + _ ≤ _; exact Nat.le_of_eq rfl) (hb hby at_103) (fun _ _ => ⟨rfl, rfl, (by decide : 1 + 0 ≤ _), (by decide : 5 + 0 ≤ _)⟩)
  dsimp only [Pt.U, Pt.locs, Pt.cells, Pt.slots] at X70 l70 y70 z70 st70 hQ70
  subst l70 y70 z70
  obtain ⟨rfl, N70q, hh70⟩ := hQ70
  have N70 := Fr.app N67 N70q
  refine own_go (fun t k => st70.trans k) ?_
  show own_G p.tables e below s _ _ _ (T70.setTop (mkF m 106 #[.val (.int p1), .val (.int p2), .val (.int r1), .val (.int r2), .val (.int r4), .val (.int (p1 &&& (2147483647 : Int32))), .val (.ref b50), .val (.int (1 : Int32)), .unset] [(.int r4)]))
  refine own_go (fun t k => XS.iload X70.here hx rfl (hb hby at_106) rfl k) ?_
  show own_G p.tables e below s _ _ _ (T70.setTop (mkF m 108 #[.val (.int p1), .val (.int p2), .val (.int r1), .val (.int r2), .val (.int r4), .val (.int (p1 &&& (2147483647 : Int32))), .val (.ref b50), .val (.int (1 : Int32)), .unset] [(.int r4), (.int r4)]))
  refine own_go (fun t k => XS.icmpNo X70.here hx rfl (hb hby at_108) rfl (Jvm.Free.XT.ii_ne_f rfl) k) ?_
  show own_G p.tables e below s _ _ _ (T70.setTop (mkF m 111 #[.val (.int p1), .val (.int p2), .val (.int r1), .val (.int r2), .val (.int r4), .val (.int (p1 &&& (2147483647 : Int32))), .val (.ref b50), .val (.int (1 : Int32)), .unset] []))
  refine own_go (fun t k => XS.aload X70.here hx rfl (hb hby at_111) rfl rfl k) ?_
  show own_G p.tables e below s _ _ _ (T70.setTop (mkF m 113 #[.val (.int p1), .val (.int p2), .val (.int r1), .val (.int r2), .val (.int r4), .val (.int (p1 &&& (2147483647 : Int32))), .val (.ref b50), .val (.int (1 : Int32)), .unset] [(.ref b50)]))
  obtain ⟨cq71, kq71, q71a, q71b, q71c⟩ := isOf hZ hh70 f68
  obtain ⟨_, _, ⟨T71, L71, k71, n71⟩, -, X71, ⟨Lc71, hQ71, l71, y71, z71⟩, st71⟩ := X70.virtualBack hx (y := (⟨"com/example/sumac/sumac/RedBlackTreeMap$Node", "size", "()I"⟩ : MethodName)) (z := (⟨"com/example/sumac/sumac/RedBlackTreeMap$Node", "size", "()I"⟩ : MethodName)) hown (mvT hZ (hw _ (List.mem_of_getElem? (i := 33) rfl))) (mvT hZ (hw _ (List.mem_of_getElem? (i := 34) rfl))) (notFace_of_selects (args := #[]) (mvT hZ (hw _ (List.mem_of_getElem? (i := 36) rfl)))) (mvT hZ (hw _ (List.mem_of_getElem? (i := 36) rfl))) (mvT hZ (hw _ (List.mem_of_getElem? (i := 35) rfl))) (by decide) (backOf (W := 0) (rm6 l Z a0 hw [] b50 vhw2 (p1 &&& (2147483647 : Int32)) T67.heap n0 z69 F67 hw2b) hZ (hw _ (List.mem_of_getElem? (i := 37) rfl)) (hw _ (List.mem_of_getElem? (i := 3) rfl)) (by decide) (by decide)) q71a q71c (g := (mkF m 113 #[.val (.int p1), .val (.int p2), .val (.int r1), .val (.int r2), .val (.int r4), .val (.int (p1 &&& (2147483647 : Int32))), .val (.ref b50), .val (.int (1 : Int32)), .unset] [(.ref b50)])) rfl (by rw [hml]; rfl) (Steps.refl _) (argsL := []) (rest := []) (lenOf pd___I rfl) rfl (by show 2 * 0 + _ ≤ _; exact Nat.le_of_eq rfl) (hb hby at_113) (fun _ _ => ⟨rfl, hh70, (by decide : 1 + 0 ≤ _), (by decide : 5 + 0 ≤ _)⟩)
  dsimp only [Pt.U, Pt.locs, Pt.cells, Pt.slots] at X71 l71 y71 z71 st71 hQ71
  subst l71 y71 z71
  obtain ⟨rfl, N71q, hh71⟩ := hQ71
  have N71 := Fr.app N70 N71q
  refine own_go (fun t k => st71.trans k) ?_
  show own_G p.tables e below s _ _ _ (T71.setTop (mkF m 116 #[.val (.int p1), .val (.int p2), .val (.int r1), .val (.int r2), .val (.int r4), .val (.int (p1 &&& (2147483647 : Int32))), .val (.ref b50), .val (.int (1 : Int32)), .unset] [(.int (p1 &&& (2147483647 : Int32)))]))
  refine own_go (fun t k => XS.iload X71.here hx rfl (hb hby at_116) rfl k) ?_
  show own_G p.tables e below s _ _ _ (T71.setTop (mkF m 118 #[.val (.int p1), .val (.int p2), .val (.int r1), .val (.int r2), .val (.int r4), .val (.int (p1 &&& (2147483647 : Int32))), .val (.ref b50), .val (.int (1 : Int32)), .unset] [(.int (p1 &&& (2147483647 : Int32))), (.int (p1 &&& (2147483647 : Int32)))]))
  refine own_go (fun t k => XS.icmpNo X71.here hx rfl (hb hby at_118) rfl (Jvm.Free.XT.ii_ne_f rfl) k) ?_
  show own_G p.tables e below s _ _ _ (T71.setTop (mkF m 121 #[.val (.int p1), .val (.int p2), .val (.int r1), .val (.int r2), .val (.int r4), .val (.int (p1 &&& (2147483647 : Int32))), .val (.ref b50), .val (.int (1 : Int32)), .unset] []))
  refine own_go (fun t k => XS.iconst X71.here hx rfl (hb hby at_121) k) ?_
  show own_G p.tables e below s _ _ _ (T71.setTop (mkF m 122 #[.val (.int p1), .val (.int p2), .val (.int r1), .val (.int r2), .val (.int r4), .val (.int (p1 &&& (2147483647 : Int32))), .val (.ref b50), .val (.int (1 : Int32)), .unset] [(.int (1 : Int32))]))
  refine own_go (fun t k => XS.goto X71.here hx rfl (pc0 := 122) (pc' := 126) rfl (hb hby at_122) (by decide) (by decide) k) ?_
  show own_G p.tables e below s _ _ _ (T71.setTop (mkF m 126 #[.val (.int p1), .val (.int p2), .val (.int r1), .val (.int r2), .val (.int r4), .val (.int (p1 &&& (2147483647 : Int32))), .val (.ref b50), .val (.int (1 : Int32)), .unset] [(.int (1 : Int32))]))
  refine own_go (fun t k => XS.istore X71.here hx rfl (hb hby at_126) rfl (l' := #[.val (.int p1), .val (.int p2), .val (.int r1), .val (.int r2), .val (.int r4), .val (.int (p1 &&& (2147483647 : Int32))), .val (.ref b50), .val (.int (1 : Int32)), .val (.int (1 : Int32))]) rfl k) ?_
  show own_G p.tables e below s _ _ _ (T71.setTop (mkF m 128 #[.val (.int p1), .val (.int p2), .val (.int r1), .val (.int r2), .val (.int r4), .val (.int (p1 &&& (2147483647 : Int32))), .val (.ref b50), .val (.int (1 : Int32)), .val (.int (1 : Int32))] []))
  refine own_go (fun t k => XS.iload X71.here hx rfl (hb hby at_128) rfl k) ?_
  show own_G p.tables e below s _ _ _ (T71.setTop (mkF m 130 #[.val (.int p1), .val (.int p2), .val (.int r1), .val (.int r2), .val (.int r4), .val (.int (p1 &&& (2147483647 : Int32))), .val (.ref b50), .val (.int (1 : Int32)), .val (.int (1 : Int32))] [(.int (1 : Int32))]))
  refine own_go (fun t k => XS.ifNo X71.here hx rfl (hb hby at_130) rfl (by decide) k) ?_
  show own_G p.tables e below s _ _ _ (T71.setTop (mkF m 133 #[.val (.int p1), .val (.int p2), .val (.int r1), .val (.int r2), .val (.int r4), .val (.int (p1 &&& (2147483647 : Int32))), .val (.ref b50), .val (.int (1 : Int32)), .val (.int (1 : Int32))] []))
  refine own_go (fun t k => XS.iload X71.here hx rfl (hb hby at_133) rfl k) ?_
  show own_G p.tables e below s _ _ _ (T71.setTop (mkF m 135 #[.val (.int p1), .val (.int p2), .val (.int r1), .val (.int r2), .val (.int r4), .val (.int (p1 &&& (2147483647 : Int32))), .val (.ref b50), .val (.int (1 : Int32)), .val (.int (1 : Int32))] [(.int (1 : Int32))]))
  refine own_go (fun t k => XS.ifNo X71.here hx rfl (hb hby at_135) rfl (by decide) k) ?_
  show own_G p.tables e below s _ _ _ (T71.setTop (mkF m 138 #[.val (.int p1), .val (.int p2), .val (.int r1), .val (.int r2), .val (.int r4), .val (.int (p1 &&& (2147483647 : Int32))), .val (.ref b50), .val (.int (1 : Int32)), .val (.int (1 : Int32))] []))
  refine own_go (fun t k => XS.iconst X71.here hx rfl (hb hby at_138) k) ?_
  show own_G p.tables e below s _ _ _ (T71.setTop (mkF m 139 #[.val (.int p1), .val (.int p2), .val (.int r1), .val (.int r2), .val (.int r4), .val (.int (p1 &&& (2147483647 : Int32))), .val (.ref b50), .val (.int (1 : Int32)), .val (.int (1 : Int32))] [(.int (1 : Int32))]))
  refine own_go (fun t k => XS.goto X71.here hx rfl (pc0 := 139) (pc' := 143) rfl (hb hby at_139) (by decide) (by decide) k) ?_
  show own_G p.tables e below s _ _ _ (T71.setTop (mkF m 143 #[.val (.int p1), .val (.int p2), .val (.int r1), .val (.int r2), .val (.int r4), .val (.int (p1 &&& (2147483647 : Int32))), .val (.ref b50), .val (.int (1 : Int32)), .val (.int (1 : Int32))] [(.int (1 : Int32))]))
  exact own_retN X71 hx hlk (t := .boolean) (z' := (1 : Int32)) Bd.returns (by simp) (hb hby at_143) (rfl) (by rw [hh71]; exact ⟨rfl, N71⟩) (by decide) (by decide)
set_option maxRecDepth 65536 in
set_option maxHeartbeats 40000000 in
theorem comes_1 {Post : Tables → Env → Array Value → State → Outcome → State → Prop} (hpost : ∀ tb e args s v u, (limb_1_1.after args s (.returned v) u = true ∧ limb_1_2.after args s (.returned v) u = true ∧ True) → FrameEnd s (.returned v) u (Jvm.fieldLocs frame_1_writes args s ++ Jvm.arrayLocs frame_1_arrays args s ++ Jvm.staticLocs frame_1_statics s) 16 128 → Post tb e args s (.returned v) u) :
    ArmFor flags0 classFile x code maxLocals ret World_1 tables_1 room_1 Calls_1 rest_1 Pre_1 Post := by
  intro l hfl _ _ p e ha hc hk s m args below hf hA hF happ hP
  obtain ⟨hcalls, hrest, hpre⟩ := hP
  obtain ⟨-, -, -, hnamed, -, -, -, hat⟩ := (Spec.applies_iff hf).mp happ
  obtain ⟨hg, hn⟩ := and_e (Cond.before_iff.mp (show (Jvm.Cond.and given_1 narrow_1).before args s = true from hpre))
  obtain ⟨gc, g0'⟩ := and_e hg
  obtain ⟨ga0, g1'⟩ := and_e g0'
  have ga1 := g1'
  obtain ⟨w0, w1, rfl⟩ : ∃ w0 w1 : Value, args = #[w0, w1] := by
    have hs : args.size = 2 := by simpa [Cond.value, given_1] using gc
    obtain ⟨L⟩ := args
    match L, hs with
    | [w0, w1], _ => exact ⟨w0, w1, rfl⟩
  have hw := fun d (hd : d ∈ tables_1) => atoms_spec (ws := Jvm.Cond.code x code maxLocals ret :: tables_1) hat d (List.mem_cons_of_mem _ hd)
  have hfit : Fit s := fun {y c} hc i hi => by
    obtain ⟨ha, rfl⟩ := Array.getElem?_eq_some_iff.mp hc
    have q := List.all_eq_true.mp ((Array.all_eq_true_iff_forall_mem.mp hF) _ (Array.getElem_mem ha)) i (List.mem_range.mpr hi)
    simpa [Array.getElem?_eq_getElem hi] using q
  obtain ⟨i0, ei0⟩ := is_v ga0
  obtain rfl : w0 = (.int i0) := Option.some.inj ei0
  obtain ⟨i1, ei1⟩ := is_v ga1
  obtain rfl : w1 = (.int i1) := Option.some.inj ei1
  obtain ⟨n, o, h1, h2, h3, _, L, rfl, ⟨rfl, N⟩, hq⟩ := rm0 l s _ hw tables_1 i0 i1 s.heap s.heap.size (Nat.le_refl _) p e ha hc hk s m _ below hf ((Spec.applies_iff_loose hf).mp happ).1 ⟨rfl, State.Warmed39.refl s, rfl⟩ trivial
  refine ⟨n, _, h1, h2, h3, hpost _ _ _ _ _ _ ⟨Cond.after_iff.mpr rfl, Cond.after_iff.mpr (eq_i res_at (Term.int_eval (1)) rfl), trivial⟩ ⟨hq.1, hq.2.1, (hq.2.2.sift fun y hy => Or.inr (N y hy)).mono (by decide) (by decide)⟩⟩
theorem main_1_1 : Claimed_1_1 := comes_1 fun _ _ _ _ _ _ h hF => ⟨h.1, hF⟩
theorem main_1_2 : Claimed_1_2 := comes_1 fun _ _ _ _ _ _ h hF => ⟨h.2.1, hF⟩
end Jvm.Pilot.@@N@@
namespace Jvm.Pilot.@@N@@
open Jvm Jvm.ClassFile Sem Op Lib Jvm.Free Jvm.Stand Jvm.Pilot.@@N@@.Jvm.D
/-! MADE BY PROGRAM (witnessworld.py) out of the Statement's table words and the real class files: 10 classes; the members and pool entries that the words name. The judged class is class 1, her method 1. -/
namespace start1
open Jvm.ClassFile
def u (s : String) : CpInfo := .utf8 (stringToUtf16 s)
/-- a pool by its gaps: so many unusable entries, then the entry; so many at the end -/
def gap : Nat → List CpInfo → List CpInfo
  | 0, r => r
  | n + 1, r => .unusable :: gap n r
def poolList (es : List (Nat × CpInfo)) (last : Nat) : List CpInfo := es.foldr (fun e r => gap e.1 (e.2 :: r)) (gap last [])
def pool (es : List (Nat × CpInfo)) (last : Nat) : Array CpInfo := ⟨poolList es last⟩
def fileOf (pool : Array CpInfo) (this : Nat) (attrs : Array Attribute := #[]) (ms : Array MethodInfo := #[]) (fl : Nat := 33) (sup : Nat := 0) (ifs : Array Nat := #[]) (fds : Array FieldInfo := #[]) : ClassFile where
  minorVersion := 0
  majorVersion := 65
  constantPool := pool
  accessFlags := fl
  thisClass := this
  superClass := sup
  interfaces := ifs
  fields := fds
  methods := ms
  attributes := attrs
def plain (name : String) (sup : Option ClassId) : Class where
  name := name
  kind := .ordinary
  loader := none
  accessFlags := 33
  super := sup
  interfaces := #[]
  cf := none
  fields := #[]
  methods := #[]
  instanceTypes := #[]
  staticTypes := #[]
  resolved := #[]
  callSites := []
  init := .initialized
  statics := none
  mirror := none

def pool0 : Array CpInfo := pool [(5, u "<init>"), (0, u "()V"), (1, .class_ 10), (1, u "java/lang/Object")] 113

def k0c0 : Code := { maxStack := 0, maxLocals := 1, code := object_method_1_code, exceptionTable := #[], attributes := #[] }
def k0m0 : Method := { name := "<init>", desc := "()V", sig := { parameters := [], returnType := none }, accessFlags := 1, code := some k0c0 }
/-- java/lang/Object -/
def k0 : Class := { plain "java/lang/Object" none with
  accessFlags := 33
  interfaces := #[]
  cf := some (fileOf pool0 8 #[] #[{ accessFlags := 1, nameIndex := 5, descriptorIndex := 6, attributes := #[] }] 33 0 #[] #[])
  fields := #[]
  methods := #[k0m0]
  instanceTypes := #[]
  staticTypes := #[]
  resolved := Array.replicate 124 none
  statics := none }

def pool1 : Array CpInfo := pool [(2, .class_ 4), (1, u "java/lang/Object"), (0, u "<init>"), (0, u "()V"), (0, .integer 2147483647), (0, .class_ 9), (0, u "com/example/sumac/sumac/RedBlackTreeMap$Node"), (0, .methodref 8 11), (0, .nameAndType 5 12), (0, u "(Ljava/lang/Object;Ljava/lang/Object;Z)V"), (0, .methodref 8 14), (0, .nameAndType 15 16), (0, u "setSize"), (0, u "(I)V"), (0, .methodref 8 18), (0, .nameAndType 19 20), (0, u "setRed"), (0, u "(Z)V"), (0, .methodref 8 22), (0, .nameAndType 23 24), (0, u "isRed"), (0, u "()Z"), (0, .methodref 8 26), (0, .nameAndType 27 28), (0, u "size"), (0, u "()I"), (0, .class_ 30), (0, u "com/example/sumac/sumac/NodeSetRedPinLaw"), (2, u "law"), (0, u "(II)Z")] 7

def k1m0 : Method := { name := "<init>", desc := "()V", sig := { parameters := [], returnType := none }, accessFlags := 1, code := none }
def k1c1 : Code := { maxStack := 5, maxLocals := 9, code := code, exceptionTable := #[], attributes := #[] }
def k1m1 : Method := { name := "law", desc := "(II)Z", sig := { parameters := [.int, .int], returnType := some .boolean }, accessFlags := 9, code := some k1c1 }
/-- com/example/sumac/sumac/NodeSetRedPinLaw -/
def k1 : Class := { plain "com/example/sumac/sumac/NodeSetRedPinLaw" (some 0) with
  accessFlags := 49
  interfaces := #[]
  cf := some (fileOf pool1 29 #[] #[{ accessFlags := 1, nameIndex := 5, descriptorIndex := 6, attributes := #[] }, { accessFlags := 9, nameIndex := 33, descriptorIndex := 34, attributes := #[] }] 49 2 #[] #[])
  fields := #[]
  methods := #[k1m0, k1m1]
  instanceTypes := #[]
  staticTypes := #[]
  resolved := Array.replicate 42 none
  statics := none }

def pool2 : Array CpInfo := pool [(23, .class_ 25), (1, u "java/util/Map$Entry"), (6, .class_ 34), (1, u "java/util/Map"), (34, .class_ 70), (0, u "java/lang/Object")] 107

/-- java/util/Map$Entry -/
def k2 : Class := { plain "java/util/Map$Entry" (some 0) with
  accessFlags := 1537
  interfaces := #[]
  cf := some (fileOf pool2 23 #[.nestHost 32] #[] 1537 69 #[] #[])
  fields := #[]
  methods := #[]
  instanceTypes := #[]
  staticTypes := #[]
  resolved := Array.replicate 178 none
  statics := none }

def pool3 : Array CpInfo := pool [(3, .methodref 4 5), (0, .class_ 6), (0, .nameAndType 7 8), (0, u "java/lang/Object"), (0, u "<init>"), (0, u "()V"), (0, .fieldref 10 11), (0, .class_ 12), (0, .nameAndType 13 14), (0, u "com/example/sumac/sumac/RedBlackTreeMap$Node"), (0, u "key"), (0, u "Ljava/lang/Object;"), (0, .fieldref 10 16), (0, .nameAndType 17 14), (0, u "value"), (0, .integer 2147483649), (0, .fieldref 10 20), (0, .nameAndType 21 22), (0, u "sizeAndColour"), (0, u "I"), (0, .integer 2147483648), (0, .integer 2147483647), (0, .class_ 26), (0, u "java/util/Map$Entry"), (27, u "RED"), (1, u "left"), (0, u "Lcom/example/sumac/sumac/RedBlackTreeMap$Node;"), (2, u "right"), (2, u "(Ljava/lang/Object;Ljava/lang/Object;Z)V"), (4, u "isRed"), (0, u "()Z"), (0, u "setRed"), (0, u "(Z)V"), (0, u "size"), (0, u "()I"), (0, u "setSize"), (0, u "(I)V"), (19, .class_ 96), (0, u "com/example/sumac/sumac/RedBlackTreeMap")] 19

def k3c0 : Code := { maxStack := 2, maxLocals := 4, code := prog_6_method_1_code, exceptionTable := #[], attributes := #[] }
def k3m0 : Method := { name := "<init>", desc := "(Ljava/lang/Object;Ljava/lang/Object;Z)V", sig := { parameters := [(.object "java/lang/Object"), (.object "java/lang/Object"), .boolean], returnType := none }, accessFlags := 0, code := some k3c0 }
def k3c1 : Code := { maxStack := 1, maxLocals := 1, code := prog_6_method_2_code, exceptionTable := #[], attributes := #[] }
def k3m1 : Method := { name := "isRed", desc := "()Z", sig := { parameters := [], returnType := some .boolean }, accessFlags := 0, code := some k3c1 }
def k3c2 : Code := { maxStack := 3, maxLocals := 2, code := prog_6_method_3_code, exceptionTable := #[], attributes := #[] }
def k3m2 : Method := { name := "setRed", desc := "(Z)V", sig := { parameters := [.boolean], returnType := none }, accessFlags := 0, code := some k3c2 }
def k3c3 : Code := { maxStack := 2, maxLocals := 1, code := prog_6_method_4_code, exceptionTable := #[], attributes := #[] }
def k3m3 : Method := { name := "size", desc := "()I", sig := { parameters := [], returnType := some .int }, accessFlags := 0, code := some k3c3 }
def k3c4 : Code := { maxStack := 3, maxLocals := 2, code := prog_6_method_5_code, exceptionTable := #[], attributes := #[] }
def k3m4 : Method := { name := "setSize", desc := "(I)V", sig := { parameters := [.int], returnType := none }, accessFlags := 0, code := some k3c4 }
/-- com/example/sumac/sumac/RedBlackTreeMap$Node -/
def k3 : Class := { plain "com/example/sumac/sumac/RedBlackTreeMap$Node" (some 0) with
  accessFlags := 48
  interfaces := #[2]
  cf := some (fileOf pool3 10 #[.nestHost 95] #[{ accessFlags := 0, nameIndex := 7, descriptorIndex := 63, attributes := #[] }, { accessFlags := 0, nameIndex := 68, descriptorIndex := 69, attributes := #[] }, { accessFlags := 0, nameIndex := 70, descriptorIndex := 71, attributes := #[] }, { accessFlags := 0, nameIndex := 72, descriptorIndex := 73, attributes := #[] }, { accessFlags := 0, nameIndex := 74, descriptorIndex := 75, attributes := #[] }] 48 4 #[25] #[{ accessFlags := 26, nameIndex := 54, descriptorIndex := 22, attributes := #[] }, { accessFlags := 0, nameIndex := 56, descriptorIndex := 57, attributes := #[] }, { accessFlags := 0, nameIndex := 60, descriptorIndex := 57, attributes := #[] }, { accessFlags := 0, nameIndex := 13, descriptorIndex := 14, attributes := #[] }, { accessFlags := 0, nameIndex := 17, descriptorIndex := 14, attributes := #[] }, { accessFlags := 2, nameIndex := 21, descriptorIndex := 22, attributes := #[] }])
  fields := #[{ name := "RED", type := .int, accessFlags := 26, slot := 0, constantValue := 0 }, { name := "left", type := (.object "com/example/sumac/sumac/RedBlackTreeMap$Node"), accessFlags := 0, slot := 0, constantValue := 0 }, { name := "right", type := (.object "com/example/sumac/sumac/RedBlackTreeMap$Node"), accessFlags := 0, slot := 1, constantValue := 0 }, { name := "key", type := (.object "java/lang/Object"), accessFlags := 0, slot := 2, constantValue := 0 }, { name := "value", type := (.object "java/lang/Object"), accessFlags := 0, slot := 3, constantValue := 0 }, { name := "sizeAndColour", type := .int, accessFlags := 2, slot := 4, constantValue := 0 }]
  methods := #[k3m0, k3m1, k3m2, k3m3, k3m4]
  instanceTypes := #[(.object "com/example/sumac/sumac/RedBlackTreeMap$Node"), (.object "com/example/sumac/sumac/RedBlackTreeMap$Node"), (.object "java/lang/Object"), (.object "java/lang/Object"), .int]
  staticTypes := #[.int]
  resolved := Array.replicate 116 none
  statics := none }

def pool4 : Array CpInfo := pool [(1, u "java/lang/Cloneable"), (0, .class_ 1), (0, u "java/lang/Object"), (0, .class_ 3)] 3

/-- java/lang/Cloneable -/
def k4 : Class := { plain "java/lang/Cloneable" (some 0) with
  accessFlags := 1537
  interfaces := #[]
  cf := some (fileOf pool4 2 #[] #[] 1537 4 #[] #[])
  fields := #[]
  methods := #[]
  instanceTypes := #[]
  staticTypes := #[]
  resolved := Array.replicate 8 none
  statics := none }

def pool5 : Array CpInfo := pool [(1, u "java/io/Serializable"), (0, .class_ 1), (0, u "java/lang/Object"), (0, .class_ 3)] 3

/-- java/io/Serializable -/
def k5 : Class := { plain "java/io/Serializable" (some 0) with
  accessFlags := 1537
  interfaces := #[]
  cf := some (fileOf pool5 2 #[] #[] 1537 4 #[] #[])
  fields := #[]
  methods := #[]
  instanceTypes := #[]
  staticTypes := #[]
  resolved := Array.replicate 8 none
  statics := none }

/-- the primitive byte -/
def k6 : Class := { plain "byte" none with kind := .primitive 'B', accessFlags := 0x411 }
/-- [B -/
def k7 : Class := { plain "[B" (some 0) with kind := .array 6 .byte, interfaces := #[4, 5], accessFlags := 1041 }

/-- the primitive int -/
def k8 : Class := { plain "int" none with kind := .primitive 'I', accessFlags := 0x411 }
/-- [I -/
def k9 : Class := { plain "[I" (some 0) with kind := .array 8 .int, interfaces := #[4, 5], accessFlags := 1041 }

def heap : Heap := #[]
def classes : Array Class := #[k0, k1, k2, k3, k4, k5, k6, k7, k8, k9]
def interned : List (Array UInt16 × Addr) := []
def slotsUsed : Nat := 0
def theMethod : MethodId := ⟨1, 1⟩
def args0 : Array Value := #[.int 5, .int 3]
def aboutOver (below : List Frame) : State where
  vm := { classes := classes, interned := interned.toArray }
  heap := heap
  slotsUsed := slotsUsed
  threads := #[{ frames := .invoking theMethod args0 :: below }]
def below0 : List Frame := [.native { method := ⟨0, 0⟩, args := #[] }]
def about1 : State := aboutOver below0
def p0 : Program := .bare "" "" ""
def e0 : Env := launch0.env 0 0 0
theorem w_frames : about1.frames = Frame.invoking theMethod args0 :: below0 := rfl
set_option maxRecDepth 65536 in
theorem w_args : argsFit about1.vm theMethod args0 = true := by decide +kernel
set_option maxRecDepth 65536 in
theorem w_heap : heapFits about1 = true := by decide +kernel
set_option maxRecDepth 65536 in
theorem w_runnable : about1.curStatus? = some .runnable := by decide +kernel
set_option maxRecDepth 65536 in
theorem w_alone : about1.alone = true := by decide +kernel
set_option maxRecDepth 65536 in
theorem w_named : about1.methodNamed? x = some theMethod := by decide +kernel
set_option maxRecDepth 65536 in
theorem w_hears : about1.hears theMethod below0 = true := by decide +kernel
set_option maxRecDepth 65536 in
theorem w_ripe : about1.ripe theMethod args0 below0 = true := by decide +kernel
theorem w_running : about1.status = .running := rfl
set_option maxRecDepth 65536 in
theorem w_room : about1.hasRoom e0.platform room_1 = true :=
  launch0.hasRoom_least _ room_1 (by decide +kernel) (by decide +kernel) (by decide +kernel) (by decide +kernel) (by decide +kernel) (by decide +kernel)
theorem allAtoms_all (ts : List Jvm.Cond) (a : Array Jvm.Value) (st : Jvm.State) : (allAtoms ts).before a st = ts.all (fun c => c.before a st) := by
  induction ts with
  | nil => rfl
  | cons c t ih =>
    show (Jvm.Cond.and c (allAtoms t)).before a st = _
    rw [Jvm.Cond.before_and, ih, List.all_cons]
def words1 : List Jvm.Cond := Jvm.Cond.code x code maxLocals ret :: tables_1
/-- a 'code' word, met by the world's own term for the bytes: nothing is compared byte by byte -/
theorem code_word {y : MethodName} {bytes : ByteArray} {mx : Nat} {rt : Option FieldType} {a : Array Value} {s : State} {m : MethodId} {meth : Method} {c : Code} (h1 : s.methodNamed? y = some m) (h2 : s.vm.method? m = some meth) (h3 : meth.code = some c) (h4 : c.code = bytes)
    (h5 : (c.maxLocals == mx && c.exceptionTable.isEmpty && decide (c.maxStack ≤ mostOperands) && decide (meth.sig.returnType = rt) && !meth.locks && decide (parseMethodDescriptor y.desc = some meth.sig)) = true) : (Jvm.Cond.code y bytes mx rt).before a s = true := by
  simp only [Bool.and_eq_true, beq_iff_eq, Bool.not_eq_true', decide_eq_true_eq] at h5
  obtain ⟨⟨⟨⟨⟨g1, g2⟩, g3⟩, g4⟩, g5⟩, g6⟩ := h5
  simp [Cond.before, Cond.holds, Cond.value, h1, h2, h3, h4, g1, g2, g3, g4, g5, g6]
def isCode : Jvm.Cond → Bool
  | .code _ _ _ _ => true
  | _ => false
theorem all_split {L : List Jvm.Cond} {P : Jvm.Cond → Bool} (h1 : L.all (fun c => isCode c || P c) = true) (h2 : ∀ c ∈ L.filter isCode, P c = true) : L.all P = true := by
  refine List.all_eq_true.mpr fun c hc => ?_
  have h := List.all_eq_true.mp h1 c hc
  rcases Bool.eq_false_or_eq_true (isCode c) with hi | hi
  · exact h2 c (List.mem_filter.mpr ⟨hc, hi⟩)
  · simpa [hi] using h
set_option maxRecDepth 65536 in
theorem w_c0 : (Jvm.Cond.code x code maxLocals ret).before args0 about1 = true := code_word (m := ⟨1, 1⟩) (meth := k1m1) (c := k1c1) (by decide +kernel) rfl rfl rfl (by decide +kernel)
set_option maxRecDepth 65536 in
theorem w_c1 : (Jvm.Cond.code ({ cls := "com/example/sumac/sumac/RedBlackTreeMap$Node", name := "<init>", desc := "(Ljava/lang/Object;Ljava/lang/Object;Z)V" } : Jvm.MethodName) prog_6_method_1_code (4 : Nat) (Option.none : Option Jvm.ClassFile.FieldType)).before args0 about1 = true := code_word (m := ⟨3, 0⟩) (meth := k3m0) (c := k3c0) (by decide +kernel) rfl rfl rfl (by decide +kernel)
set_option maxRecDepth 65536 in
theorem w_c2 : (Jvm.Cond.code ({ cls := "java/lang/Object", name := "<init>", desc := "()V" } : Jvm.MethodName) object_method_1_code (1 : Nat) (Option.none : Option Jvm.ClassFile.FieldType)).before args0 about1 = true := code_word (m := ⟨0, 0⟩) (meth := k0m0) (c := k0c0) (by decide +kernel) rfl rfl rfl (by decide +kernel)
set_option maxRecDepth 65536 in
theorem w_c3 : (Jvm.Cond.code ({ cls := "com/example/sumac/sumac/RedBlackTreeMap$Node", name := "setSize", desc := "(I)V" } : Jvm.MethodName) prog_6_method_5_code (2 : Nat) (Option.none : Option Jvm.ClassFile.FieldType)).before args0 about1 = true := code_word (m := ⟨3, 4⟩) (meth := k3m4) (c := k3c4) (by decide +kernel) rfl rfl rfl (by decide +kernel)
set_option maxRecDepth 65536 in
theorem w_c4 : (Jvm.Cond.code ({ cls := "com/example/sumac/sumac/RedBlackTreeMap$Node", name := "setRed", desc := "(Z)V" } : Jvm.MethodName) prog_6_method_3_code (2 : Nat) (Option.none : Option Jvm.ClassFile.FieldType)).before args0 about1 = true := code_word (m := ⟨3, 2⟩) (meth := k3m2) (c := k3c2) (by decide +kernel) rfl rfl rfl (by decide +kernel)
set_option maxRecDepth 65536 in
theorem w_c5 : (Jvm.Cond.code ({ cls := "com/example/sumac/sumac/RedBlackTreeMap$Node", name := "isRed", desc := "()Z" } : Jvm.MethodName) prog_6_method_2_code (1 : Nat) (Option.some Jvm.ClassFile.FieldType.boolean)).before args0 about1 = true := code_word (m := ⟨3, 1⟩) (meth := k3m1) (c := k3c1) (by decide +kernel) rfl rfl rfl (by decide +kernel)
set_option maxRecDepth 65536 in
theorem w_c6 : (Jvm.Cond.code ({ cls := "com/example/sumac/sumac/RedBlackTreeMap$Node", name := "size", desc := "()I" } : Jvm.MethodName) prog_6_method_4_code (1 : Nat) (Option.some Jvm.ClassFile.FieldType.int)).before args0 about1 = true := code_word (m := ⟨3, 3⟩) (meth := k3m3) (c := k3c3) (by decide +kernel) rfl rfl rfl (by decide +kernel)
def codes1 : List Jvm.Cond := [Jvm.Cond.code x code maxLocals ret, Jvm.Cond.code ({ cls := "com/example/sumac/sumac/RedBlackTreeMap$Node", name := "<init>", desc := "(Ljava/lang/Object;Ljava/lang/Object;Z)V" } : Jvm.MethodName) prog_6_method_1_code (4 : Nat) (Option.none : Option Jvm.ClassFile.FieldType), Jvm.Cond.code ({ cls := "java/lang/Object", name := "<init>", desc := "()V" } : Jvm.MethodName) object_method_1_code (1 : Nat) (Option.none : Option Jvm.ClassFile.FieldType), Jvm.Cond.code ({ cls := "com/example/sumac/sumac/RedBlackTreeMap$Node", name := "setSize", desc := "(I)V" } : Jvm.MethodName) prog_6_method_5_code (2 : Nat) (Option.none : Option Jvm.ClassFile.FieldType), Jvm.Cond.code ({ cls := "com/example/sumac/sumac/RedBlackTreeMap$Node", name := "setRed", desc := "(Z)V" } : Jvm.MethodName) prog_6_method_3_code (2 : Nat) (Option.none : Option Jvm.ClassFile.FieldType), Jvm.Cond.code ({ cls := "com/example/sumac/sumac/RedBlackTreeMap$Node", name := "isRed", desc := "()Z" } : Jvm.MethodName) prog_6_method_2_code (1 : Nat) (Option.some Jvm.ClassFile.FieldType.boolean), Jvm.Cond.code ({ cls := "com/example/sumac/sumac/RedBlackTreeMap$Node", name := "size", desc := "()I" } : Jvm.MethodName) prog_6_method_4_code (1 : Nat) (Option.some Jvm.ClassFile.FieldType.int)]
set_option maxRecDepth 65536 in
theorem codes_eq : words1.filter isCode = codes1 := rfl
theorem w_codes : ∀ c ∈ words1.filter isCode, c.before args0 about1 = true := by
  rw [codes_eq]
  intro c hc
  simp only [codes1, List.mem_cons, List.not_mem_nil, or_false] at hc
  rcases hc with rfl | rfl | rfl | rfl | rfl | rfl | rfl
  · exact w_c0
  · exact w_c1
  · exact w_c2
  · exact w_c3
  · exact w_c4
  · exact w_c5
  · exact w_c6
set_option maxRecDepth 65536 in
theorem w_t1 : (words1.take 24).all (fun c => isCode c || c.before args0 about1) = true := by decide +kernel
set_option maxRecDepth 65536 in
theorem w_t2 : (words1.drop 24).all (fun c => isCode c || c.before args0 about1) = true := by decide +kernel
theorem w_tables : (allAtoms (Jvm.Cond.code x code maxLocals ret :: tables_1)).before args0 about1 = true := by
  rw [allAtoms_all]
  show words1.all (fun c => c.before args0 about1) = true
  refine all_split ?_ w_codes
  rw [← List.take_append_drop 24 words1, List.all_append, w_t1, w_t2]
  rfl
set_option maxRecDepth 65536 in
theorem w_case : (Jvm.Cond.and given_1 narrow_1).before args0 about1 = true := by decide +kernel
theorem w_applies : (headSpec (Jvm.Cond.code x code maxLocals ret :: tables_1) room_1).applies x e0.platform about1 = true :=
  (Spec.applies_iff w_frames).mpr ⟨w_running, w_runnable, w_alone, w_named, w_hears, w_ripe, w_room, w_tables⟩
theorem atStart : AtStart classFile x code maxLocals ret World_1 tables_1 room_1 Calls_1 rest_1 Pre_1 launch0 p0 e0 about1 theMethod args0 below0 :=
  ⟨lists_1, trivial, launch0.admits_env _ _ _, launch0.least_env, fairChoices_fair.cas, fairChoices_fair.clock, w_frames, w_args, w_heap, w_applies, trivial, trivial, w_case⟩
end start1
theorem witness_1 : WitnessClaimed_1 := ⟨start1.p0, start1.e0, start1.about1, start1.theMethod, start1.args0, start1.below0, start1.atStart⟩
end Jvm.Pilot.@@N@@
