import JvmDerived
import JvmDerived.Pilot.@@N@@Statement
import JvmDerived.Pilot.@@N@@Code
set_option linter.unusedVariables false
set_option linter.unusedSimpArgs false
namespace Jvm.RoadKit
open Sem ClassFile Op Lib Jvm.Stand Jvm.Free Jvm.LawKit
section OwnKit
variable {p : Program} {l : Launch} {e : Env} {R : Room} {s : State} {m : MethodId} {args : Array Value} {below : List Frame} {meth : Method} {c : Code} {T : State} {locs : List Loc} {cells slots : Nat}
/-- a run that stands in S comes to an end of the invocation, of which Q is said -/
def own_G (tb : Tables) (e : Env) (below : List Frame) (s : State) (Q : Option Value → Heap → List Loc → Prop) (k n : Nat) (S : State) : Prop :=
  ∃ s₂ o, Steps tb e below S s₂ ∧ s₂.status = .running ∧ Ended s₂ below o ∧ ∃ v L, o = .returned v ∧ Q v s₂.heap L ∧ FrameEnd s o s₂ L k n
variable {tb : Tables} {Q : Option Value → Heap → List Loc → Prop} {k n : Nat}
theorem own_go {A B : State} (st : ∀ t, Steps tb e below A t → Steps tb e below B t) (h : own_G tb e below s Q k n A) : own_G tb e below s Q k n B := by
  obtain ⟨s₂, o, h1, h2⟩ := h
  exact ⟨s₂, o, st _ h1, h2⟩
theorem own_ret (X : Stand p l e R s m args below meth c T locs cells slots) {v : Option Value} (hv : meth.sig.returnType = none → v = none) (hlk : meth.locks = false) (hQ : Q v T.heap locs) (hk : cells ≤ k) (hn : slots ≤ n) {S : State}
    (st : ∀ fs, (∀ (f : JFrame) (acts : List Action), f.method = m → f.locked = none → f.entered = [] → (doReturn e (T.setTop f) acts v).1 = T.setFrames fs) → Steps p.tables e below S (T.setFrames fs)) : own_G p.tables e below s Q k n S := by
  obtain ⟨fs, hr, hrun, hended, hW, hsame⟩ := X.leave hv hlk
  exact ⟨_, _, st fs hr, hrun, hended, _, _, rfl, hQ, ⟨_, rfl⟩, hW, hsame.mono hk hn⟩
variable {pc : Nat} {Ls : Array Slot} {rest : List Value}
theorem own_retN (X : Stand p l e R s m args below meth c T locs cells slots) (hx : p.tables.exec = Jvm.exec) (hlk : meth.locks = false) {t : FieldType} {z z' : Int32} (hret : meth.sig.returnType = some t) (ht : t = .boolean ∨ t = .byte ∨ t = .char ∨ t = .short) (hd : decode c.code pc = .ok (.ireturn, 1)) (hz : nar t z = z') (hQ : Q (some (.int z')) T.heap locs) (hk : cells ≤ k) (hn : slots ≤ n) :
    own_G p.tables e below s Q k n (T.setTop (mkF m pc Ls (.int z :: rest))) := by
  subst hz
  exact own_ret X (fun h => by rw [hret] at h; cases h) hlk hQ hk hn fun fs hr => retN X hx hret ht hd hr
theorem own_retI (X : Stand p l e R s m args below meth c T locs cells slots) (hx : p.tables.exec = Jvm.exec) (hlk : meth.locks = false) {z : Int32} (hret : meth.sig.returnType = some .int) (hd : decode c.code pc = .ok (.ireturn, 1)) (hQ : Q (some (.int z)) T.heap locs) (hk : cells ≤ k) (hn : slots ≤ n) :
    own_G p.tables e below s Q k n (T.setTop (mkF m pc Ls (.int z :: rest))) :=
  own_ret X (fun h => by rw [hret] at h; cases h) hlk hQ hk hn fun fs hr => retOut X hx hret rfl (Or.inl ⟨rfl, Or.inl rfl, _, rfl⟩) hd hr
theorem own_retJ (X : Stand p l e R s m args below meth c T locs cells slots) (hx : p.tables.exec = Jvm.exec) (hlk : meth.locks = false) {z : Int64} (hret : meth.sig.returnType = some .long) (hd : decode c.code pc = .ok (.lreturn, 1)) (hQ : Q (some (.long z)) T.heap locs) (hk : cells ≤ k) (hn : slots ≤ n) :
    own_G p.tables e below s Q k n (T.setTop (mkF m pc Ls (.long z :: rest))) :=
  own_ret X (fun h => by rw [hret] at h; cases h) hlk hQ hk hn fun fs hr => retOut X hx hret rfl (Or.inr (Or.inl ⟨rfl, rfl, _, rfl⟩)) hd hr
theorem own_retA (X : Stand p l e R s m args below meth c T locs cells slots) (hx : p.tables.exec = Jvm.exec) (hlk : meth.locks = false) {t : FieldType} {w : Value} (hret : meth.sig.returnType = some t) (ht : t.isReference = true) (hv : w.isRef = true) (hd : decode c.code pc = .ok (.areturn, 1)) (hQ : Q (some w) T.heap locs) (hk : cells ≤ k) (hn : slots ≤ n) :
    own_G p.tables e below s Q k n (T.setTop (mkF m pc Ls (w :: rest))) :=
  own_ret X (fun h => by rw [hret] at h; cases h) hlk hQ hk hn fun fs hr => retOut X hx hret (by rcases ref_cases hv with rfl | ⟨_, rfl⟩ <;> cases t <;> first | rfl | cases ht) (Or.inr (Or.inr (Or.inr (Or.inr ⟨rfl, ht, hv⟩)))) hd hr
theorem own_retV (X : Stand p l e R s m args below meth c T locs cells slots) (hx : p.tables.exec = Jvm.exec) (hlk : meth.locks = false) (hret : meth.sig.returnType = none) (hd : decode c.code pc = .ok (.return_, 1)) (hQ : Q none T.heap locs) (hk : cells ≤ k) (hn : slots ≤ n) :
    own_G p.tables e below s Q k n (T.setTop (mkF m pc Ls [])) :=
  own_ret X (fun _ => rfl) hlk hQ hk hn fun fs hr => X.returnOut hx hret hd hr
end OwnKit
end Jvm.RoadKit
namespace Jvm.Pilot.@@N@@
open Jvm Jvm.ClassFile Sem Op Lib Jvm.Free Jvm.Stand Jvm.LawKit Jvm.RoadKit Bundle Jvm.Pilot.@@N@@.Jvm.D
theorem own_narC (x : Int32) : nar .char (x.toUInt32.toUInt16.toUInt32.toInt32) = x.toUInt32.toUInt16.toUInt32.toInt32 := by
  simp only [nar, UInt32.toUInt32_toInt32, UInt16.toUInt16_toUInt32]
def own_e (c b : Int32) : Int32 := if c = 10 ∨ c = 13 ∨ (¬ b = 0 ∧ (c = 133 ∨ c = 8232)) then 1 else 0
theorem own_e0 {c b : Int32} (h1 : ¬ c = 10) (h2 : ¬ c = 13) (h3 : ¬ c = 133) (h4 : ¬ c = 8232) : own_e c b = 0 := by simp [own_e, h1, h2, h3, h4]
theorem d1_0 : decode method_3_code 0 = .ok (.iload_n 1, 1) := by decide +kernel
theorem d1_1 : decode method_3_code 1 = .ok (.bipush 7, 2) := by decide +kernel
theorem d1_3 : decode method_3_code 3 = .ok (.iand, 1) := by decide +kernel
theorem d1_4 : decode method_3_code 4 = .ok (.istore_n 2, 1) := by decide +kernel
theorem d1_5 : decode method_3_code 5 = .ok (.iload_n 2, 1) := by decide +kernel
theorem d1_6 : decode method_3_code 6 = .ok (.iconst 1, 1) := by decide +kernel
theorem d1_7 : decode method_3_code 7 = .ok (.if_icmp .ne 6, 3) := by decide +kernel
theorem d1_10 : decode method_3_code 10 = .ok (.bipush 10, 2) := by decide +kernel
theorem d1_12 : decode method_3_code 12 = .ok (.ireturn, 1) := by decide +kernel
theorem d1_13 : decode method_3_code 13 = .ok (.iload_n 2, 1) := by decide +kernel
theorem d1_14 : decode method_3_code 14 = .ok (.iconst 2, 1) := by decide +kernel
theorem d1_15 : decode method_3_code 15 = .ok (.if_icmp .ne 6, 3) := by decide +kernel
theorem d1_18 : decode method_3_code 18 = .ok (.bipush 13, 2) := by decide +kernel
theorem d1_20 : decode method_3_code 20 = .ok (.ireturn, 1) := by decide +kernel
theorem d1_21 : decode method_3_code 21 = .ok (.iload_n 2, 1) := by decide +kernel
theorem d1_22 : decode method_3_code 22 = .ok (.iconst 3, 1) := by decide +kernel
theorem d1_23 : decode method_3_code 23 = .ok (.if_icmp .ne 7, 3) := by decide +kernel
theorem d1_26 : decode method_3_code 26 = .ok (.sipush 133, 3) := by decide +kernel
theorem d1_29 : decode method_3_code 29 = .ok (.ireturn, 1) := by decide +kernel
theorem d1_30 : decode method_3_code 30 = .ok (.iload_n 2, 1) := by decide +kernel
theorem d1_31 : decode method_3_code 31 = .ok (.iconst 4, 1) := by decide +kernel
theorem d1_32 : decode method_3_code 32 = .ok (.if_icmp .ne 7, 3) := by decide +kernel
theorem d1_35 : decode method_3_code 35 = .ok (.sipush 8232, 3) := by decide +kernel
theorem d1_38 : decode method_3_code 38 = .ok (.ireturn, 1) := by decide +kernel
theorem d1_39 : decode method_3_code 39 = .ok (.iload_n 2, 1) := by decide +kernel
theorem d1_40 : decode method_3_code 40 = .ok (.iconst 5, 1) := by decide +kernel
theorem d1_41 : decode method_3_code 41 = .ok (.if_icmp .ne 7, 3) := by decide +kernel
theorem d1_44 : decode method_3_code 44 = .ok (.sipush 8233, 3) := by decide +kernel
theorem d1_47 : decode method_3_code 47 = .ok (.ireturn, 1) := by decide +kernel
theorem d1_48 : decode method_3_code 48 = .ok (.iload_n 2, 1) := by decide +kernel
theorem d1_49 : decode method_3_code 49 = .ok (.bipush 6, 2) := by decide +kernel
theorem d1_51 : decode method_3_code 51 = .ok (.if_icmp .ne 6, 3) := by decide +kernel
theorem d1_54 : decode method_3_code 54 = .ok (.bipush 12, 2) := by decide +kernel
theorem d1_56 : decode method_3_code 56 = .ok (.ireturn, 1) := by decide +kernel
theorem d1_57 : decode method_3_code 57 = .ok (.iload_n 2, 1) := by decide +kernel
theorem d1_58 : decode method_3_code 58 = .ok (.bipush 7, 2) := by decide +kernel
theorem d1_60 : decode method_3_code 60 = .ok (.if_icmp .ne 7, 3) := by decide +kernel
theorem d1_63 : decode method_3_code 63 = .ok (.sipush 132, 3) := by decide +kernel
theorem d1_66 : decode method_3_code 66 = .ok (.ireturn, 1) := by decide +kernel
theorem d1_67 : decode method_3_code 67 = .ok (.iload_n 0, 1) := by decide +kernel
theorem d1_68 : decode method_3_code 68 = .ok (.ldc 19, 2) := by decide +kernel
theorem d1_70 : decode method_3_code 70 = .ok (.iand, 1) := by decide +kernel
theorem d1_71 : decode method_3_code 71 = .ok (.i2c, 1) := by decide +kernel
theorem d1_72 : decode method_3_code 72 = .ok (.ireturn, 1) := by decide +kernel
theorem pn_com_example_kaava_kaava_io_DocumentPositionEndsLinePinLaw : plainName "com/example/kaava/kaava/io/DocumentPositionEndsLinePinLaw" = true := by first | (simp [plainName, overriddenIn]; done) | decide +kernel
theorem ef_1 (m : MethodId) (x0 : Int32) (x1 : Int32) : entryFrame m #[(.int x0), (.int x1)] 3 = mkF m 0 #[.val (.int x0), .val (.int x1), .unset] [] := by first | (simp [entryFrame, mkF, argsToLocals, Value.category]; done) | rfl
def Q1 (Z : State) (p1 p2 : Int32) (h0 : Heap) (n0 : Nat) (v : Option Value) (h : Heap) (L : List Loc) : Prop := (∃ z : Int32, v = some (.int z)) ∧ Fr n0 L ∧ h = h0
set_option maxRecDepth 65536 in
set_option maxHeartbeats 40000000 in
theorem rm1 (l : Launch) (Z : State) (a0 : Array Value) (hw : ∀ d ∈ tables_1, d.before a0 Z = true) (ws : List Jvm.Cond) (p1 p2 : Int32) (h0 : Heap) (n0 : Nat) (Z0 : n0 ≤ h0.size)  :
    MetFree l (⟨"com/example/kaava/kaava/io/DocumentPositionEndsLinePinLaw", "pick", "(II)C"⟩ : MethodName) (head1 (Jvm.Cond.code (⟨"com/example/kaava/kaava/io/DocumentPositionEndsLinePinLaw", "pick", "(II)C"⟩ : MethodName) method_3_code 3 (some .char) :: ws) ({ frames := 0, cells := 0, slots := 0, locals := 0 } : Room)) (fun a U => a = #[(.int p1), (.int p2)] ∧ Z.Warmed39 U.vm ∧ U.heap = h0) (fun _ _ _ _ _ => True) (fun _ U o U' => ∃ v L, o = .returned v ∧ Q1 Z p1 p2 h0 n0 v U'.heap L ∧ FrameEnd U o U' L ({ frames := 0, cells := 0, slots := 0, locals := 0 } : Room).cells ({ frames := 0, cells := 0, slots := 0, locals := 0 } : Room).slots) := by
  refine MetFree.of_bodySF (plainFor_of_name pn_com_example_kaava_kaava_io_DocumentPositionEndsLinePinLaw) hisR ?_
  intro p e s m args below meth c s₁ Bd hml0 hP hK
  obtain ⟨rfl, hZ, hh⟩ := hP
  have hx := Bd.exec
  have hby := Bd.bytes
  have hlk : meth.locks = false := BodyLoose.notSynchronized Bd
  have hml : c.maxLocals = 3 := hml0
  have hown : s.vm.findClass "com/example/kaava/kaava/io/DocumentPositionEndsLinePinLaw" = some m.cls := findClass_of_methodNamed Bd.named
  have hnm := (name_of_methodNamed Bd.named Bd.method).1
  have X0 : Stand p l e ({ frames := 0, cells := 0, slots := 0, locals := 0 } : Room) s m #[(.int p1), (.int p2)] below meth c s₁ [] 0 0 := Stand.of_body Bd
  have e0 : s₁.heap = h0 := by rw [← hh, Bd.state]; rfl
  have N0 := Fr.nil n0
  show own_G p.tables e below s (Q1 Z p1 p2 h0 n0) ({ frames := 0, cells := 0, slots := 0, locals := 0 } : Room).cells ({ frames := 0, cells := 0, slots := 0, locals := 0 } : Room).slots (s₁.setTop (entryFrame m #[(.int p1), (.int p2)] 3))
  refine own_go (fun t k => castTop (ef_1 m p1 p2) k) ?_
  show own_G p.tables e below s _ _ _ (s₁.setTop (mkF m 0 #[.val (.int p1), .val (.int p2), .unset] []))
  refine own_go (fun t k => XS.iloadN X0.here hx rfl (hb hby d1_0) rfl k) ?_
  show own_G p.tables e below s _ _ _ (s₁.setTop (mkF m 1 #[.val (.int p1), .val (.int p2), .unset] [(.int p2)]))
  refine own_go (fun t k => XS.bipush X0.here hx rfl (hb hby d1_1) k) ?_
  show own_G p.tables e below s _ _ _ (s₁.setTop (mkF m 3 #[.val (.int p1), .val (.int p2), .unset] [(.int (7 : Int32)), (.int p2)]))
  refine own_go (fun t k => XS.iand X0.here hx rfl (hb hby d1_3) rfl k) ?_
  show own_G p.tables e below s _ _ _ (s₁.setTop (mkF m 4 #[.val (.int p1), .val (.int p2), .unset] [(.int (p2 &&& (7 : Int32)))]))
  refine own_go (fun t k => XS.istoreN X0.here hx rfl (hb hby d1_4) rfl (l' := #[.val (.int p1), .val (.int p2), .val (.int (p2 &&& (7 : Int32)))]) rfl k) ?_
  show own_G p.tables e below s _ _ _ (s₁.setTop (mkF m 5 #[.val (.int p1), .val (.int p2), .val (.int (p2 &&& (7 : Int32)))] []))
  refine own_go (fun t k => XS.iloadN X0.here hx rfl (hb hby d1_5) rfl k) ?_
  show own_G p.tables e below s _ _ _ (s₁.setTop (mkF m 6 #[.val (.int p1), .val (.int p2), .val (.int (p2 &&& (7 : Int32)))] [(.int (p2 &&& (7 : Int32)))]))
  refine own_go (fun t k => XS.iconst X0.here hx rfl (hb hby d1_6) k) ?_
  show own_G p.tables e below s _ _ _ (s₁.setTop (mkF m 7 #[.val (.int p1), .val (.int p2), .val (.int (p2 &&& (7 : Int32)))] [(.int (1 : Int32)), (.int (p2 &&& (7 : Int32)))]))
  by_cases hk0 : (p2 &&& (7 : Int32)) = (1 : Int32)
  · refine own_go (fun t k => XS.icmpNo X0.here hx rfl (hb hby d1_7) rfl (Jvm.Free.XT.ii_ne_f hk0) k) ?_
    show own_G p.tables e below s _ _ _ (s₁.setTop (mkF m 10 #[.val (.int p1), .val (.int p2), .val (.int (p2 &&& (7 : Int32)))] []))
    refine own_go (fun t k => XS.bipush X0.here hx rfl (hb hby d1_10) k) ?_
    show own_G p.tables e below s _ _ _ (s₁.setTop (mkF m 12 #[.val (.int p1), .val (.int p2), .val (.int (p2 &&& (7 : Int32)))] [(.int (10 : Int32))]))
    exact own_retN X0 hx hlk (t := .char) Bd.returns (by simp) (hb hby d1_12) (rfl) (by rw [e0]; exact ⟨⟨_, rfl⟩, N0, rfl⟩) (by decide) (by decide)
  · refine own_go (fun t k => XS.icmpYes X0.here hx rfl (pc0 := 7) (pc' := 13) rfl (hb hby d1_7) rfl (Jvm.Free.XT.ii_ne_t hk0) (by decide) (by decide) k) ?_
    show own_G p.tables e below s _ _ _ (s₁.setTop (mkF m 13 #[.val (.int p1), .val (.int p2), .val (.int (p2 &&& (7 : Int32)))] []))
    refine own_go (fun t k => XS.iloadN X0.here hx rfl (hb hby d1_13) rfl k) ?_
    show own_G p.tables e below s _ _ _ (s₁.setTop (mkF m 14 #[.val (.int p1), .val (.int p2), .val (.int (p2 &&& (7 : Int32)))] [(.int (p2 &&& (7 : Int32)))]))
    refine own_go (fun t k => XS.iconst X0.here hx rfl (hb hby d1_14) k) ?_
    show own_G p.tables e below s _ _ _ (s₁.setTop (mkF m 15 #[.val (.int p1), .val (.int p2), .val (.int (p2 &&& (7 : Int32)))] [(.int (2 : Int32)), (.int (p2 &&& (7 : Int32)))]))
    by_cases hk1 : (p2 &&& (7 : Int32)) = (2 : Int32)
    · refine own_go (fun t k => XS.icmpNo X0.here hx rfl (hb hby d1_15) rfl (Jvm.Free.XT.ii_ne_f hk1) k) ?_
      show own_G p.tables e below s _ _ _ (s₁.setTop (mkF m 18 #[.val (.int p1), .val (.int p2), .val (.int (p2 &&& (7 : Int32)))] []))
      refine own_go (fun t k => XS.bipush X0.here hx rfl (hb hby d1_18) k) ?_
      show own_G p.tables e below s _ _ _ (s₁.setTop (mkF m 20 #[.val (.int p1), .val (.int p2), .val (.int (p2 &&& (7 : Int32)))] [(.int (13 : Int32))]))
      exact own_retN X0 hx hlk (t := .char) Bd.returns (by simp) (hb hby d1_20) (rfl) (by rw [e0]; exact ⟨⟨_, rfl⟩, N0, rfl⟩) (by decide) (by decide)
    · refine own_go (fun t k => XS.icmpYes X0.here hx rfl (pc0 := 15) (pc' := 21) rfl (hb hby d1_15) rfl (Jvm.Free.XT.ii_ne_t hk1) (by decide) (by decide) k) ?_
      show own_G p.tables e below s _ _ _ (s₁.setTop (mkF m 21 #[.val (.int p1), .val (.int p2), .val (.int (p2 &&& (7 : Int32)))] []))
      refine own_go (fun t k => XS.iloadN X0.here hx rfl (hb hby d1_21) rfl k) ?_
      show own_G p.tables e below s _ _ _ (s₁.setTop (mkF m 22 #[.val (.int p1), .val (.int p2), .val (.int (p2 &&& (7 : Int32)))] [(.int (p2 &&& (7 : Int32)))]))
      refine own_go (fun t k => XS.iconst X0.here hx rfl (hb hby d1_22) k) ?_
      show own_G p.tables e below s _ _ _ (s₁.setTop (mkF m 23 #[.val (.int p1), .val (.int p2), .val (.int (p2 &&& (7 : Int32)))] [(.int (3 : Int32)), (.int (p2 &&& (7 : Int32)))]))
      by_cases hk2 : (p2 &&& (7 : Int32)) = (3 : Int32)
      · refine own_go (fun t k => XS.icmpNo X0.here hx rfl (hb hby d1_23) rfl (Jvm.Free.XT.ii_ne_f hk2) k) ?_
        show own_G p.tables e below s _ _ _ (s₁.setTop (mkF m 26 #[.val (.int p1), .val (.int p2), .val (.int (p2 &&& (7 : Int32)))] []))
        refine own_go (fun t k => XS.sipush X0.here hx rfl (hb hby d1_26) k) ?_
        show own_G p.tables e below s _ _ _ (s₁.setTop (mkF m 29 #[.val (.int p1), .val (.int p2), .val (.int (p2 &&& (7 : Int32)))] [(.int (133 : Int32))]))
        exact own_retN X0 hx hlk (t := .char) Bd.returns (by simp) (hb hby d1_29) (rfl) (by rw [e0]; exact ⟨⟨_, rfl⟩, N0, rfl⟩) (by decide) (by decide)
      · refine own_go (fun t k => XS.icmpYes X0.here hx rfl (pc0 := 23) (pc' := 30) rfl (hb hby d1_23) rfl (Jvm.Free.XT.ii_ne_t hk2) (by decide) (by decide) k) ?_
        show own_G p.tables e below s _ _ _ (s₁.setTop (mkF m 30 #[.val (.int p1), .val (.int p2), .val (.int (p2 &&& (7 : Int32)))] []))
        refine own_go (fun t k => XS.iloadN X0.here hx rfl (hb hby d1_30) rfl k) ?_
        show own_G p.tables e below s _ _ _ (s₁.setTop (mkF m 31 #[.val (.int p1), .val (.int p2), .val (.int (p2 &&& (7 : Int32)))] [(.int (p2 &&& (7 : Int32)))]))
        refine own_go (fun t k => XS.iconst X0.here hx rfl (hb hby d1_31) k) ?_
        show own_G p.tables e below s _ _ _ (s₁.setTop (mkF m 32 #[.val (.int p1), .val (.int p2), .val (.int (p2 &&& (7 : Int32)))] [(.int (4 : Int32)), (.int (p2 &&& (7 : Int32)))]))
        by_cases hk3 : (p2 &&& (7 : Int32)) = (4 : Int32)
        · refine own_go (fun t k => XS.icmpNo X0.here hx rfl (hb hby d1_32) rfl (Jvm.Free.XT.ii_ne_f hk3) k) ?_
          show own_G p.tables e below s _ _ _ (s₁.setTop (mkF m 35 #[.val (.int p1), .val (.int p2), .val (.int (p2 &&& (7 : Int32)))] []))
          refine own_go (fun t k => XS.sipush X0.here hx rfl (hb hby d1_35) k) ?_
          show own_G p.tables e below s _ _ _ (s₁.setTop (mkF m 38 #[.val (.int p1), .val (.int p2), .val (.int (p2 &&& (7 : Int32)))] [(.int (8232 : Int32))]))
          exact own_retN X0 hx hlk (t := .char) Bd.returns (by simp) (hb hby d1_38) (rfl) (by rw [e0]; exact ⟨⟨_, rfl⟩, N0, rfl⟩) (by decide) (by decide)
        · refine own_go (fun t k => XS.icmpYes X0.here hx rfl (pc0 := 32) (pc' := 39) rfl (hb hby d1_32) rfl (Jvm.Free.XT.ii_ne_t hk3) (by decide) (by decide) k) ?_
          show own_G p.tables e below s _ _ _ (s₁.setTop (mkF m 39 #[.val (.int p1), .val (.int p2), .val (.int (p2 &&& (7 : Int32)))] []))
          refine own_go (fun t k => XS.iloadN X0.here hx rfl (hb hby d1_39) rfl k) ?_
          show own_G p.tables e below s _ _ _ (s₁.setTop (mkF m 40 #[.val (.int p1), .val (.int p2), .val (.int (p2 &&& (7 : Int32)))] [(.int (p2 &&& (7 : Int32)))]))
          refine own_go (fun t k => XS.iconst X0.here hx rfl (hb hby d1_40) k) ?_
          show own_G p.tables e below s _ _ _ (s₁.setTop (mkF m 41 #[.val (.int p1), .val (.int p2), .val (.int (p2 &&& (7 : Int32)))] [(.int (5 : Int32)), (.int (p2 &&& (7 : Int32)))]))
          by_cases hk4 : (p2 &&& (7 : Int32)) = (5 : Int32)
          · refine own_go (fun t k => XS.icmpNo X0.here hx rfl (hb hby d1_41) rfl (Jvm.Free.XT.ii_ne_f hk4) k) ?_
            show own_G p.tables e below s _ _ _ (s₁.setTop (mkF m 44 #[.val (.int p1), .val (.int p2), .val (.int (p2 &&& (7 : Int32)))] []))
            refine own_go (fun t k => XS.sipush X0.here hx rfl (hb hby d1_44) k) ?_
            show own_G p.tables e below s _ _ _ (s₁.setTop (mkF m 47 #[.val (.int p1), .val (.int p2), .val (.int (p2 &&& (7 : Int32)))] [(.int (8233 : Int32))]))
            exact own_retN X0 hx hlk (t := .char) Bd.returns (by simp) (hb hby d1_47) (rfl) (by rw [e0]; exact ⟨⟨_, rfl⟩, N0, rfl⟩) (by decide) (by decide)
          · refine own_go (fun t k => XS.icmpYes X0.here hx rfl (pc0 := 41) (pc' := 48) rfl (hb hby d1_41) rfl (Jvm.Free.XT.ii_ne_t hk4) (by decide) (by decide) k) ?_
            show own_G p.tables e below s _ _ _ (s₁.setTop (mkF m 48 #[.val (.int p1), .val (.int p2), .val (.int (p2 &&& (7 : Int32)))] []))
            refine own_go (fun t k => XS.iloadN X0.here hx rfl (hb hby d1_48) rfl k) ?_
            show own_G p.tables e below s _ _ _ (s₁.setTop (mkF m 49 #[.val (.int p1), .val (.int p2), .val (.int (p2 &&& (7 : Int32)))] [(.int (p2 &&& (7 : Int32)))]))
            refine own_go (fun t k => XS.bipush X0.here hx rfl (hb hby d1_49) k) ?_
            show own_G p.tables e below s _ _ _ (s₁.setTop (mkF m 51 #[.val (.int p1), .val (.int p2), .val (.int (p2 &&& (7 : Int32)))] [(.int (6 : Int32)), (.int (p2 &&& (7 : Int32)))]))
            by_cases hk5 : (p2 &&& (7 : Int32)) = (6 : Int32)
            · refine own_go (fun t k => XS.icmpNo X0.here hx rfl (hb hby d1_51) rfl (Jvm.Free.XT.ii_ne_f hk5) k) ?_
              show own_G p.tables e below s _ _ _ (s₁.setTop (mkF m 54 #[.val (.int p1), .val (.int p2), .val (.int (p2 &&& (7 : Int32)))] []))
              refine own_go (fun t k => XS.bipush X0.here hx rfl (hb hby d1_54) k) ?_
              show own_G p.tables e below s _ _ _ (s₁.setTop (mkF m 56 #[.val (.int p1), .val (.int p2), .val (.int (p2 &&& (7 : Int32)))] [(.int (12 : Int32))]))
              exact own_retN X0 hx hlk (t := .char) Bd.returns (by simp) (hb hby d1_56) (rfl) (by rw [e0]; exact ⟨⟨_, rfl⟩, N0, rfl⟩) (by decide) (by decide)
            · refine own_go (fun t k => XS.icmpYes X0.here hx rfl (pc0 := 51) (pc' := 57) rfl (hb hby d1_51) rfl (Jvm.Free.XT.ii_ne_t hk5) (by decide) (by decide) k) ?_
              show own_G p.tables e below s _ _ _ (s₁.setTop (mkF m 57 #[.val (.int p1), .val (.int p2), .val (.int (p2 &&& (7 : Int32)))] []))
              refine own_go (fun t k => XS.iloadN X0.here hx rfl (hb hby d1_57) rfl k) ?_
              show own_G p.tables e below s _ _ _ (s₁.setTop (mkF m 58 #[.val (.int p1), .val (.int p2), .val (.int (p2 &&& (7 : Int32)))] [(.int (p2 &&& (7 : Int32)))]))
              refine own_go (fun t k => XS.bipush X0.here hx rfl (hb hby d1_58) k) ?_
              show own_G p.tables e below s _ _ _ (s₁.setTop (mkF m 60 #[.val (.int p1), .val (.int p2), .val (.int (p2 &&& (7 : Int32)))] [(.int (7 : Int32)), (.int (p2 &&& (7 : Int32)))]))
              by_cases hk6 : (p2 &&& (7 : Int32)) = (7 : Int32)
              · refine own_go (fun t k => XS.icmpNo X0.here hx rfl (hb hby d1_60) rfl (Jvm.Free.XT.ii_ne_f hk6) k) ?_
                show own_G p.tables e below s _ _ _ (s₁.setTop (mkF m 63 #[.val (.int p1), .val (.int p2), .val (.int (p2 &&& (7 : Int32)))] []))
                refine own_go (fun t k => XS.sipush X0.here hx rfl (hb hby d1_63) k) ?_
                show own_G p.tables e below s _ _ _ (s₁.setTop (mkF m 66 #[.val (.int p1), .val (.int p2), .val (.int (p2 &&& (7 : Int32)))] [(.int (132 : Int32))]))
                exact own_retN X0 hx hlk (t := .char) Bd.returns (by simp) (hb hby d1_66) (rfl) (by rw [e0]; exact ⟨⟨_, rfl⟩, N0, rfl⟩) (by decide) (by decide)
              · refine own_go (fun t k => XS.icmpYes X0.here hx rfl (pc0 := 60) (pc' := 67) rfl (hb hby d1_60) rfl (Jvm.Free.XT.ii_ne_t hk6) (by decide) (by decide) k) ?_
                show own_G p.tables e below s _ _ _ (s₁.setTop (mkF m 67 #[.val (.int p1), .val (.int p2), .val (.int (p2 &&& (7 : Int32)))] []))
                refine own_go (fun t k => XS.iloadN X0.here hx rfl (hb hby d1_67) rfl k) ?_
                show own_G p.tables e below s _ _ _ (s₁.setTop (mkF m 68 #[.val (.int p1), .val (.int p2), .val (.int (p2 &&& (7 : Int32)))] [(.int p1)]))
                refine own_go (fun t k => X0.ldcInt hx hown (mvT hZ (hw _ (List.mem_of_getElem? (i := 8) rfl))) (g := (mkF m 68 #[.val (.int p1), .val (.int p2), .val (.int (p2 &&& (7 : Int32)))] [(.int p1)])) rfl (hb hby d1_68) _ k) ?_
                show own_G p.tables e below s _ _ _ (s₁.setTop (mkF m 70 #[.val (.int p1), .val (.int p2), .val (.int (p2 &&& (7 : Int32)))] [(.int (65535 : Int32)), (.int p1)]))
                refine own_go (fun t k => XS.iand X0.here hx rfl (hb hby d1_70) rfl k) ?_
                show own_G p.tables e below s _ _ _ (s₁.setTop (mkF m 71 #[.val (.int p1), .val (.int p2), .val (.int (p2 &&& (7 : Int32)))] [(.int (p1 &&& (65535 : Int32)))]))
                refine own_go (fun t k => XS.i2c X0.here hx rfl (hb hby d1_71) rfl k) ?_
                show own_G p.tables e below s _ _ _ (s₁.setTop (mkF m 72 #[.val (.int p1), .val (.int p2), .val (.int (p2 &&& (7 : Int32)))] [(.int ((p1 &&& (65535 : Int32)).toUInt32.toUInt16.toUInt32.toInt32))]))
                exact own_retN X0 hx hlk (t := .char) Bd.returns (by simp) (hb hby d1_72) (own_narC _) (by rw [e0]; exact ⟨⟨_, rfl⟩, N0, rfl⟩) (by decide) (by decide)
theorem d2_0 : decode prog_11_method_2_code 0 = .ok (.iload_n 0, 1) := by decide +kernel
theorem d2_1 : decode prog_11_method_2_code 1 = .ok (.bipush 10, 2) := by decide +kernel
theorem d2_3 : decode prog_11_method_2_code 3 = .ok (.if_icmp .eq 27, 3) := by decide +kernel
theorem d2_30 : decode prog_11_method_2_code 30 = .ok (.iconst 1, 1) := by decide +kernel
theorem d2_31 : decode prog_11_method_2_code 31 = .ok (.goto 4, 3) := by decide +kernel
theorem d2_35 : decode prog_11_method_2_code 35 = .ok (.ireturn, 1) := by decide +kernel
theorem d2_6 : decode prog_11_method_2_code 6 = .ok (.iload_n 0, 1) := by decide +kernel
theorem d2_7 : decode prog_11_method_2_code 7 = .ok (.bipush 13, 2) := by decide +kernel
theorem d2_9 : decode prog_11_method_2_code 9 = .ok (.if_icmp .eq 21, 3) := by decide +kernel
theorem d2_12 : decode prog_11_method_2_code 12 = .ok (.iload_n 1, 1) := by decide +kernel
theorem d2_13 : decode prog_11_method_2_code 13 = .ok (.ifCond .eq 21, 3) := by decide +kernel
theorem d2_34 : decode prog_11_method_2_code 34 = .ok (.iconst 0, 1) := by decide +kernel
theorem d2_16 : decode prog_11_method_2_code 16 = .ok (.iload_n 0, 1) := by decide +kernel
theorem d2_17 : decode prog_11_method_2_code 17 = .ok (.sipush 133, 3) := by decide +kernel
theorem d2_20 : decode prog_11_method_2_code 20 = .ok (.if_icmp .eq 10, 3) := by decide +kernel
theorem d2_23 : decode prog_11_method_2_code 23 = .ok (.iload_n 0, 1) := by decide +kernel
theorem d2_24 : decode prog_11_method_2_code 24 = .ok (.sipush 8232, 3) := by decide +kernel
theorem d2_27 : decode prog_11_method_2_code 27 = .ok (.if_icmp .ne 7, 3) := by decide +kernel
theorem pn_com_example_kaava_kaava_io_DocumentPosition : plainName "com/example/kaava/kaava/io/DocumentPosition" = true := by first | (simp [plainName, overriddenIn]; done) | decide +kernel
theorem ef_2 (m : MethodId) (x0 : Int32) (x1 : Int32) : entryFrame m #[(.int x0), (.int x1)] 2 = mkF m 0 #[.val (.int x0), .val (.int x1)] [] := by first | (simp [entryFrame, mkF, argsToLocals, Value.category]; done) | rfl
def Q2 (Z : State) (p1 p2 r : Int32) (h0 : Heap) (n0 : Nat) (v : Option Value) (h : Heap) (L : List Loc) : Prop := v = some (.int r) ∧ Fr n0 L ∧ h = h0
set_option maxRecDepth 65536 in
set_option maxHeartbeats 40000000 in
theorem rm2 (l : Launch) (Z : State) (a0 : Array Value) (hw : ∀ d ∈ tables_1, d.before a0 Z = true) (ws : List Jvm.Cond) (p1 p2 r : Int32) (h0 : Heap) (n0 : Nat) (Z0 : n0 ≤ h0.size) (hr : own_e p1 p2 = r) :
    MetFree l (⟨"com/example/kaava/kaava/io/DocumentPosition", "endsLine", "(CZ)Z"⟩ : MethodName) (head1 (Jvm.Cond.code (⟨"com/example/kaava/kaava/io/DocumentPosition", "endsLine", "(CZ)Z"⟩ : MethodName) prog_11_method_2_code 2 (some .boolean) :: ws) ({ frames := 0, cells := 0, slots := 0, locals := 0 } : Room)) (fun a U => a = #[(.int p1), (.int p2)] ∧ Z.Warmed39 U.vm ∧ U.heap = h0) (fun _ _ _ _ _ => True) (fun _ U o U' => ∃ v L, o = .returned v ∧ Q2 Z p1 p2 r h0 n0 v U'.heap L ∧ FrameEnd U o U' L ({ frames := 0, cells := 0, slots := 0, locals := 0 } : Room).cells ({ frames := 0, cells := 0, slots := 0, locals := 0 } : Room).slots) := by
  refine MetFree.of_bodySF (plainFor_of_name pn_com_example_kaava_kaava_io_DocumentPosition) hisR ?_
  intro p e s m args below meth c s₁ Bd hml0 hP hK
  obtain ⟨rfl, hZ, hh⟩ := hP
  have hx := Bd.exec
  have hby := Bd.bytes
  have hlk : meth.locks = false := BodyLoose.notSynchronized Bd
  have hml : c.maxLocals = 2 := hml0
  have hown : s.vm.findClass "com/example/kaava/kaava/io/DocumentPosition" = some m.cls := findClass_of_methodNamed Bd.named
  have hnm := (name_of_methodNamed Bd.named Bd.method).1
  have X0 : Stand p l e ({ frames := 0, cells := 0, slots := 0, locals := 0 } : Room) s m #[(.int p1), (.int p2)] below meth c s₁ [] 0 0 := Stand.of_body Bd
  have e0 : s₁.heap = h0 := by rw [← hh, Bd.state]; rfl
  have N0 := Fr.nil n0
  show own_G p.tables e below s (Q2 Z p1 p2 r h0 n0) ({ frames := 0, cells := 0, slots := 0, locals := 0 } : Room).cells ({ frames := 0, cells := 0, slots := 0, locals := 0 } : Room).slots (s₁.setTop (entryFrame m #[(.int p1), (.int p2)] 2))
  refine own_go (fun t k => castTop (ef_2 m p1 p2) k) ?_
  show own_G p.tables e below s _ _ _ (s₁.setTop (mkF m 0 #[.val (.int p1), .val (.int p2)] []))
  refine own_go (fun t k => XS.iloadN X0.here hx rfl (hb hby d2_0) rfl k) ?_
  show own_G p.tables e below s _ _ _ (s₁.setTop (mkF m 1 #[.val (.int p1), .val (.int p2)] [(.int p1)]))
  refine own_go (fun t k => XS.bipush X0.here hx rfl (hb hby d2_1) k) ?_
  show own_G p.tables e below s _ _ _ (s₁.setTop (mkF m 3 #[.val (.int p1), .val (.int p2)] [(.int (10 : Int32)), (.int p1)]))
  by_cases h3 : p1 = (10 : Int32)
  · refine own_go (fun t k => XS.icmpYes X0.here hx rfl (pc0 := 3) (pc' := 30) rfl (hb hby d2_3) rfl (Jvm.Free.XT.ii_eq_t h3) (by decide) (by decide) k) ?_
    show own_G p.tables e below s _ _ _ (s₁.setTop (mkF m 30 #[.val (.int p1), .val (.int p2)] []))
    refine own_go (fun t k => XS.iconst X0.here hx rfl (hb hby d2_30) k) ?_
    show own_G p.tables e below s _ _ _ (s₁.setTop (mkF m 31 #[.val (.int p1), .val (.int p2)] [(.int (1 : Int32))]))
    refine own_go (fun t k => XS.goto X0.here hx rfl (pc0 := 31) (pc' := 35) rfl (hb hby d2_31) (by decide) (by decide) k) ?_
    show own_G p.tables e below s _ _ _ (s₁.setTop (mkF m 35 #[.val (.int p1), .val (.int p2)] [(.int (1 : Int32))]))
    exact own_retN X0 hx hlk (t := .boolean) (z' := (1 : Int32)) Bd.returns (by simp) (hb hby d2_35) (rfl) (by rw [e0]; exact ⟨by rw [← hr]; simp [own_e, h3], N0, rfl⟩) (by decide) (by decide)
  · refine own_go (fun t k => XS.icmpNo X0.here hx rfl (hb hby d2_3) rfl (Jvm.Free.XT.ii_eq_f h3) k) ?_
    show own_G p.tables e below s _ _ _ (s₁.setTop (mkF m 6 #[.val (.int p1), .val (.int p2)] []))
    refine own_go (fun t k => XS.iloadN X0.here hx rfl (hb hby d2_6) rfl k) ?_
    show own_G p.tables e below s _ _ _ (s₁.setTop (mkF m 7 #[.val (.int p1), .val (.int p2)] [(.int p1)]))
    refine own_go (fun t k => XS.bipush X0.here hx rfl (hb hby d2_7) k) ?_
    show own_G p.tables e below s _ _ _ (s₁.setTop (mkF m 9 #[.val (.int p1), .val (.int p2)] [(.int (13 : Int32)), (.int p1)]))
    by_cases h9 : p1 = (13 : Int32)
    · refine own_go (fun t k => XS.icmpYes X0.here hx rfl (pc0 := 9) (pc' := 30) rfl (hb hby d2_9) rfl (Jvm.Free.XT.ii_eq_t h9) (by decide) (by decide) k) ?_
      show own_G p.tables e below s _ _ _ (s₁.setTop (mkF m 30 #[.val (.int p1), .val (.int p2)] []))
      refine own_go (fun t k => XS.iconst X0.here hx rfl (hb hby d2_30) k) ?_
      show own_G p.tables e below s _ _ _ (s₁.setTop (mkF m 31 #[.val (.int p1), .val (.int p2)] [(.int (1 : Int32))]))
      refine own_go (fun t k => XS.goto X0.here hx rfl (pc0 := 31) (pc' := 35) rfl (hb hby d2_31) (by decide) (by decide) k) ?_
      show own_G p.tables e below s _ _ _ (s₁.setTop (mkF m 35 #[.val (.int p1), .val (.int p2)] [(.int (1 : Int32))]))
      exact own_retN X0 hx hlk (t := .boolean) (z' := (1 : Int32)) Bd.returns (by simp) (hb hby d2_35) (rfl) (by rw [e0]; exact ⟨by rw [← hr]; simp [own_e, h3, h9], N0, rfl⟩) (by decide) (by decide)
    · refine own_go (fun t k => XS.icmpNo X0.here hx rfl (hb hby d2_9) rfl (Jvm.Free.XT.ii_eq_f h9) k) ?_
      show own_G p.tables e below s _ _ _ (s₁.setTop (mkF m 12 #[.val (.int p1), .val (.int p2)] []))
      refine own_go (fun t k => XS.iloadN X0.here hx rfl (hb hby d2_12) rfl k) ?_
      show own_G p.tables e below s _ _ _ (s₁.setTop (mkF m 13 #[.val (.int p1), .val (.int p2)] [(.int p2)]))
      by_cases h13 : p2 = (0 : Int32)
      · refine own_go (fun t k => XS.ifYes X0.here hx rfl (pc0 := 13) (pc' := 34) rfl (hb hby d2_13) rfl (Jvm.Free.XT.i0_eq_t h13) (by decide) (by decide) k) ?_
        show own_G p.tables e below s _ _ _ (s₁.setTop (mkF m 34 #[.val (.int p1), .val (.int p2)] []))
        refine own_go (fun t k => XS.iconst X0.here hx rfl (hb hby d2_34) k) ?_
        show own_G p.tables e below s _ _ _ (s₁.setTop (mkF m 35 #[.val (.int p1), .val (.int p2)] [(.int (0 : Int32))]))
        exact own_retN X0 hx hlk (t := .boolean) (z' := (0 : Int32)) Bd.returns (by simp) (hb hby d2_35) (rfl) (by rw [e0]; exact ⟨by rw [← hr]; simp [own_e, h3, h9, h13], N0, rfl⟩) (by decide) (by decide)
      · refine own_go (fun t k => XS.ifNo X0.here hx rfl (hb hby d2_13) rfl (Jvm.Free.XT.i0_eq_f h13) k) ?_
        show own_G p.tables e below s _ _ _ (s₁.setTop (mkF m 16 #[.val (.int p1), .val (.int p2)] []))
        refine own_go (fun t k => XS.iloadN X0.here hx rfl (hb hby d2_16) rfl k) ?_
        show own_G p.tables e below s _ _ _ (s₁.setTop (mkF m 17 #[.val (.int p1), .val (.int p2)] [(.int p1)]))
        refine own_go (fun t k => XS.sipush X0.here hx rfl (hb hby d2_17) k) ?_
        show own_G p.tables e below s _ _ _ (s₁.setTop (mkF m 20 #[.val (.int p1), .val (.int p2)] [(.int (133 : Int32)), (.int p1)]))
        by_cases h20 : p1 = (133 : Int32)
        · refine own_go (fun t k => XS.icmpYes X0.here hx rfl (pc0 := 20) (pc' := 30) rfl (hb hby d2_20) rfl (Jvm.Free.XT.ii_eq_t h20) (by decide) (by decide) k) ?_
          show own_G p.tables e below s _ _ _ (s₁.setTop (mkF m 30 #[.val (.int p1), .val (.int p2)] []))
          refine own_go (fun t k => XS.iconst X0.here hx rfl (hb hby d2_30) k) ?_
          show own_G p.tables e below s _ _ _ (s₁.setTop (mkF m 31 #[.val (.int p1), .val (.int p2)] [(.int (1 : Int32))]))
          refine own_go (fun t k => XS.goto X0.here hx rfl (pc0 := 31) (pc' := 35) rfl (hb hby d2_31) (by decide) (by decide) k) ?_
          show own_G p.tables e below s _ _ _ (s₁.setTop (mkF m 35 #[.val (.int p1), .val (.int p2)] [(.int (1 : Int32))]))
          exact own_retN X0 hx hlk (t := .boolean) (z' := (1 : Int32)) Bd.returns (by simp) (hb hby d2_35) (rfl) (by rw [e0]; exact ⟨by rw [← hr]; simp [own_e, h3, h9, h13, h20], N0, rfl⟩) (by decide) (by decide)
        · refine own_go (fun t k => XS.icmpNo X0.here hx rfl (hb hby d2_20) rfl (Jvm.Free.XT.ii_eq_f h20) k) ?_
          show own_G p.tables e below s _ _ _ (s₁.setTop (mkF m 23 #[.val (.int p1), .val (.int p2)] []))
          refine own_go (fun t k => XS.iloadN X0.here hx rfl (hb hby d2_23) rfl k) ?_
          show own_G p.tables e below s _ _ _ (s₁.setTop (mkF m 24 #[.val (.int p1), .val (.int p2)] [(.int p1)]))
          refine own_go (fun t k => XS.sipush X0.here hx rfl (hb hby d2_24) k) ?_
          show own_G p.tables e below s _ _ _ (s₁.setTop (mkF m 27 #[.val (.int p1), .val (.int p2)] [(.int (8232 : Int32)), (.int p1)]))
          by_cases h27 : p1 = (8232 : Int32)
          · refine own_go (fun t k => XS.icmpNo X0.here hx rfl (hb hby d2_27) rfl (Jvm.Free.XT.ii_ne_f h27) k) ?_
            show own_G p.tables e below s _ _ _ (s₁.setTop (mkF m 30 #[.val (.int p1), .val (.int p2)] []))
            refine own_go (fun t k => XS.iconst X0.here hx rfl (hb hby d2_30) k) ?_
            show own_G p.tables e below s _ _ _ (s₁.setTop (mkF m 31 #[.val (.int p1), .val (.int p2)] [(.int (1 : Int32))]))
            refine own_go (fun t k => XS.goto X0.here hx rfl (pc0 := 31) (pc' := 35) rfl (hb hby d2_31) (by decide) (by decide) k) ?_
            show own_G p.tables e below s _ _ _ (s₁.setTop (mkF m 35 #[.val (.int p1), .val (.int p2)] [(.int (1 : Int32))]))
            exact own_retN X0 hx hlk (t := .boolean) (z' := (1 : Int32)) Bd.returns (by simp) (hb hby d2_35) (rfl) (by rw [e0]; exact ⟨by rw [← hr]; simp [own_e, h3, h9, h13, h20, h27], N0, rfl⟩) (by decide) (by decide)
          · refine own_go (fun t k => XS.icmpYes X0.here hx rfl (pc0 := 27) (pc' := 34) rfl (hb hby d2_27) rfl (Jvm.Free.XT.ii_ne_t h27) (by decide) (by decide) k) ?_
            show own_G p.tables e below s _ _ _ (s₁.setTop (mkF m 34 #[.val (.int p1), .val (.int p2)] []))
            refine own_go (fun t k => XS.iconst X0.here hx rfl (hb hby d2_34) k) ?_
            show own_G p.tables e below s _ _ _ (s₁.setTop (mkF m 35 #[.val (.int p1), .val (.int p2)] [(.int (0 : Int32))]))
            exact own_retN X0 hx hlk (t := .boolean) (z' := (0 : Int32)) Bd.returns (by simp) (hb hby d2_35) (rfl) (by rw [e0]; exact ⟨by rw [← hr]; simp [own_e, h3, h9, h13, h20, h27], N0, rfl⟩) (by decide) (by decide)
theorem pd__II_C : parseMethodDescriptor "(II)C" = some ⟨[.int, .int], some .char⟩ := by decide +kernel
theorem pd__CZ_Z : parseMethodDescriptor "(CZ)Z" = some ⟨[.char, .boolean], some .boolean⟩ := by decide +kernel
theorem ef_0 (m : MethodId) (x0 : Int32) (x1 : Int32) : entryFrame m #[(.int x0), (.int x1)] maxLocals = mkF m 0 #[.val (.int x0), .val (.int x1), .unset, .unset, .unset, .unset, .unset, .unset] [] := by first | (simp [entryFrame, mkF, argsToLocals, Value.category, maxLocals]; done) | rfl
def Q0 (Z : State) (p1 p2 : Int32) (h0 : Heap) (n0 : Nat) (v : Option Value) (h : Heap) (L : List Loc) : Prop := v = some (.int 1) ∧ Fr n0 L
set_option maxRecDepth 65536 in
set_option maxHeartbeats 40000000 in
theorem rm0 (l : Launch) (Z : State) (a0 : Array Value) (hw : ∀ d ∈ tables_1, d.before a0 Z = true) (ws : List Jvm.Cond) (p1 p2 : Int32) (h0 : Heap) (n0 : Nat) (Z0 : n0 ≤ h0.size)  :
    MetFree l x (head1 (Jvm.Cond.code x code maxLocals ret :: ws) room_1) (fun a U => a = #[(.int p1), (.int p2)] ∧ Z.Warmed39 U.vm ∧ U.heap = h0) (fun _ _ _ _ _ => True) (fun _ U o U' => ∃ v L, o = .returned v ∧ Q0 Z p1 p2 h0 n0 v U'.heap L ∧ FrameEnd U o U' L room_1.cells room_1.slots) := by
  refine MetFree.of_bodySF (plainFor_of_name pn_com_example_kaava_kaava_io_DocumentPositionEndsLinePinLaw) hisR ?_
  intro p e s m args below meth c s₁ Bd hml0 hP hK
  obtain ⟨rfl, hZ, hh⟩ := hP
  have hx := Bd.exec
  have hby := Bd.bytes
  have hlk : meth.locks = false := BodyLoose.notSynchronized Bd
  have hml : c.maxLocals = 8 := hml0
  have hown : s.vm.findClass "com/example/kaava/kaava/io/DocumentPositionEndsLinePinLaw" = some m.cls := findClass_of_methodNamed Bd.named
  have hnm := (name_of_methodNamed Bd.named Bd.method).1
  have X0 : Stand p l e room_1 s m #[(.int p1), (.int p2)] below meth c s₁ [] 0 0 := Stand.of_body Bd
  have e0 : s₁.heap = h0 := by rw [← hh, Bd.state]; rfl
  have N0 := Fr.nil n0
  show own_G p.tables e below s (Q0 Z p1 p2 h0 n0) room_1.cells room_1.slots (s₁.setTop (entryFrame m #[(.int p1), (.int p2)] maxLocals))
  refine own_go (fun t k => castTop (ef_0 m p1 p2) k) ?_
  show own_G p.tables e below s _ _ _ (s₁.setTop (mkF m 0 #[.val (.int p1), .val (.int p2), .unset, .unset, .unset, .unset, .unset, .unset] []))
  refine own_go (fun t k => XS.iloadN X0.here hx rfl (hb hby at_0) rfl k) ?_
  show own_G p.tables e below s _ _ _ (s₁.setTop (mkF m 1 #[.val (.int p1), .val (.int p2), .unset, .unset, .unset, .unset, .unset, .unset] [(.int p1)]))
  refine own_go (fun t k => XS.iloadN X0.here hx rfl (hb hby at_1) rfl k) ?_
  show own_G p.tables e below s _ _ _ (s₁.setTop (mkF m 2 #[.val (.int p1), .val (.int p2), .unset, .unset, .unset, .unset, .unset, .unset] [(.int p2), (.int p1)]))
  obtain ⟨_, _, ⟨T1, L1, k1, n1⟩, -, X1, ⟨Lc1, hQ1, l1, y1, z1⟩, st1⟩ := Jvm.LawKit.callS X0 hx (y := (⟨"com/example/kaava/kaava/io/DocumentPositionEndsLinePinLaw", "pick", "(II)C"⟩ : MethodName)) hown (mvT hZ (hw _ (List.mem_of_getElem? (i := 0) rfl))) (mvT hZ (hw _ (List.mem_of_getElem? (i := 1) rfl))) (mvT hZ (hw _ (List.mem_of_getElem? (i := 2) rfl))) (mvT hZ (hw _ (List.mem_of_getElem? (i := 3) rfl))) (by decide) (backOf (W := 0) (rm1 l Z a0 hw [] p1 p2 h0 n0 Z0) hZ (hw _ (List.mem_of_getElem? (i := 3) rfl)) (hw _ (List.mem_of_getElem? (i := 2) rfl)) (by decide) (by decide)) (g := (mkF m 2 #[.val (.int p1), .val (.int p2), .unset, .unset, .unset, .unset, .unset, .unset] [(.int p2), (.int p1)])) rfl (by rw [hml]; rfl) (argsL := [(.int p1), (.int p2)]) (rest := []) (lenOf pd__II_C rfl) rfl (by show 2 * 0 + _ ≤ _; exact Nat.le_of_eq rfl) (hb hby at_2) (fun _ _ => ⟨rfl, e0, (by decide : 0 + 0 ≤ _), (by decide : 0 + 0 ≤ _)⟩)
  dsimp only [Pt.U, Pt.locs, Pt.cells, Pt.slots] at X1 l1 y1 z1 st1 hQ1
  subst l1 y1 z1
  obtain ⟨⟨c1, rfl⟩, N1q, hh1⟩ := hQ1
  have N1 := Fr.app N0 N1q
  refine own_go st1 ?_
  show own_G p.tables e below s _ _ _ (T1.setTop (mkF m 5 #[.val (.int p1), .val (.int p2), .unset, .unset, .unset, .unset, .unset, .unset] [(.int c1)]))
  by_cases h10 : c1 = (10 : Int32)
  · subst h10
    show own_G p.tables e below s _ _ _ (T1.setTop (mkF m 5 #[.val (.int p1), .val (.int p2), .unset, .unset, .unset, .unset, .unset, .unset] [(.int (10 : Int32))]))
    refine own_go (fun t k => XS.istoreN X1.here hx rfl (hb hby at_5) rfl (l' := #[.val (.int p1), .val (.int p2), .val (.int (10 : Int32)), .unset, .unset, .unset, .unset, .unset]) rfl k) ?_
    show own_G p.tables e below s _ _ _ (T1.setTop (mkF m 6 #[.val (.int p1), .val (.int p2), .val (.int (10 : Int32)), .unset, .unset, .unset, .unset, .unset] []))
    refine own_go (fun t k => XS.iloadN X1.here hx rfl (hb hby at_6) rfl k) ?_
    show own_G p.tables e below s _ _ _ (T1.setTop (mkF m 7 #[.val (.int p1), .val (.int p2), .val (.int (10 : Int32)), .unset, .unset, .unset, .unset, .unset] [(.int (10 : Int32))]))
    refine own_go (fun t k => XS.istoreN X1.here hx rfl (hb hby at_7) rfl (l' := #[.val (.int p1), .val (.int p2), .val (.int (10 : Int32)), .val (.int (10 : Int32)), .unset, .unset, .unset, .unset]) rfl k) ?_
    show own_G p.tables e below s _ _ _ (T1.setTop (mkF m 8 #[.val (.int p1), .val (.int p2), .val (.int (10 : Int32)), .val (.int (10 : Int32)), .unset, .unset, .unset, .unset] []))
    refine own_go (fun t k => XS.iloadN X1.here hx rfl (hb hby at_8) rfl k) ?_
    show own_G p.tables e below s _ _ _ (T1.setTop (mkF m 9 #[.val (.int p1), .val (.int p2), .val (.int (10 : Int32)), .val (.int (10 : Int32)), .unset, .unset, .unset, .unset] [(.int (10 : Int32))]))
    refine own_go (fun t k => XS.bipush X1.here hx rfl (hb hby at_9) k) ?_
    show own_G p.tables e below s _ _ _ (T1.setTop (mkF m 11 #[.val (.int p1), .val (.int p2), .val (.int (10 : Int32)), .val (.int (10 : Int32)), .unset, .unset, .unset, .unset] [(.int (10 : Int32)), (.int (10 : Int32))]))
    refine own_go (fun t k => XS.icmpYes X1.here hx rfl (pc0 := 11) (pc' := 20) rfl (hb hby at_11) rfl (by decide) (by decide) (by decide) k) ?_
    show own_G p.tables e below s _ _ _ (T1.setTop (mkF m 20 #[.val (.int p1), .val (.int p2), .val (.int (10 : Int32)), .val (.int (10 : Int32)), .unset, .unset, .unset, .unset] []))
    refine own_go (fun t k => XS.iconst X1.here hx rfl (hb hby at_20) k) ?_
    show own_G p.tables e below s _ _ _ (T1.setTop (mkF m 21 #[.val (.int p1), .val (.int p2), .val (.int (10 : Int32)), .val (.int (10 : Int32)), .unset, .unset, .unset, .unset] [(.int (1 : Int32))]))
    refine own_go (fun t k => XS.goto X1.here hx rfl (pc0 := 21) (pc' := 25) rfl (hb hby at_21) (by decide) (by decide) k) ?_
    show own_G p.tables e below s _ _ _ (T1.setTop (mkF m 25 #[.val (.int p1), .val (.int p2), .val (.int (10 : Int32)), .val (.int (10 : Int32)), .unset, .unset, .unset, .unset] [(.int (1 : Int32))]))
    refine own_go (fun t k => XS.istore X1.here hx rfl (hb hby at_25) rfl (l' := #[.val (.int p1), .val (.int p2), .val (.int (10 : Int32)), .val (.int (10 : Int32)), .val (.int (1 : Int32)), .unset, .unset, .unset]) rfl k) ?_
    show own_G p.tables e below s _ _ _ (T1.setTop (mkF m 27 #[.val (.int p1), .val (.int p2), .val (.int (10 : Int32)), .val (.int (10 : Int32)), .val (.int (1 : Int32)), .unset, .unset, .unset] []))
    refine own_go (fun t k => XS.iloadN X1.here hx rfl (hb hby at_27) rfl k) ?_
    show own_G p.tables e below s _ _ _ (T1.setTop (mkF m 28 #[.val (.int p1), .val (.int p2), .val (.int (10 : Int32)), .val (.int (10 : Int32)), .val (.int (1 : Int32)), .unset, .unset, .unset] [(.int (10 : Int32))]))
    refine own_go (fun t k => XS.sipush X1.here hx rfl (hb hby at_28) k) ?_
    show own_G p.tables e below s _ _ _ (T1.setTop (mkF m 31 #[.val (.int p1), .val (.int p2), .val (.int (10 : Int32)), .val (.int (10 : Int32)), .val (.int (1 : Int32)), .unset, .unset, .unset] [(.int (133 : Int32)), (.int (10 : Int32))]))
    refine own_go (fun t k => XS.icmpNo X1.here hx rfl (hb hby at_31) rfl (by decide) k) ?_
    show own_G p.tables e below s _ _ _ (T1.setTop (mkF m 34 #[.val (.int p1), .val (.int p2), .val (.int (10 : Int32)), .val (.int (10 : Int32)), .val (.int (1 : Int32)), .unset, .unset, .unset] []))
    refine own_go (fun t k => XS.iloadN X1.here hx rfl (hb hby at_34) rfl k) ?_
    show own_G p.tables e below s _ _ _ (T1.setTop (mkF m 35 #[.val (.int p1), .val (.int p2), .val (.int (10 : Int32)), .val (.int (10 : Int32)), .val (.int (1 : Int32)), .unset, .unset, .unset] [(.int (10 : Int32))]))
    refine own_go (fun t k => XS.sipush X1.here hx rfl (hb hby at_35) k) ?_
    show own_G p.tables e below s _ _ _ (T1.setTop (mkF m 38 #[.val (.int p1), .val (.int p2), .val (.int (10 : Int32)), .val (.int (10 : Int32)), .val (.int (1 : Int32)), .unset, .unset, .unset] [(.int (8232 : Int32)), (.int (10 : Int32))]))
    refine own_go (fun t k => XS.icmpYes X1.here hx rfl (pc0 := 38) (pc' := 45) rfl (hb hby at_38) rfl (by decide) (by decide) (by decide) k) ?_
    show own_G p.tables e below s _ _ _ (T1.setTop (mkF m 45 #[.val (.int p1), .val (.int p2), .val (.int (10 : Int32)), .val (.int (10 : Int32)), .val (.int (1 : Int32)), .unset, .unset, .unset] []))
    refine own_go (fun t k => XS.iconst X1.here hx rfl (hb hby at_45) k) ?_
    show own_G p.tables e below s _ _ _ (T1.setTop (mkF m 46 #[.val (.int p1), .val (.int p2), .val (.int (10 : Int32)), .val (.int (10 : Int32)), .val (.int (1 : Int32)), .unset, .unset, .unset] [(.int (0 : Int32))]))
    refine own_go (fun t k => XS.istore X1.here hx rfl (hb hby at_46) rfl (l' := #[.val (.int p1), .val (.int p2), .val (.int (10 : Int32)), .val (.int (10 : Int32)), .val (.int (1 : Int32)), .val (.int (0 : Int32)), .unset, .unset]) rfl k) ?_
    show own_G p.tables e below s _ _ _ (T1.setTop (mkF m 48 #[.val (.int p1), .val (.int p2), .val (.int (10 : Int32)), .val (.int (10 : Int32)), .val (.int (1 : Int32)), .val (.int (0 : Int32)), .unset, .unset] []))
    refine own_go (fun t k => XS.iloadN X1.here hx rfl (hb hby at_48) rfl k) ?_
    show own_G p.tables e below s _ _ _ (T1.setTop (mkF m 49 #[.val (.int p1), .val (.int p2), .val (.int (10 : Int32)), .val (.int (10 : Int32)), .val (.int (1 : Int32)), .val (.int (0 : Int32)), .unset, .unset] [(.int (10 : Int32))]))
    refine own_go (fun t k => XS.iconst X1.here hx rfl (hb hby at_49) k) ?_
    show own_G p.tables e below s _ _ _ (T1.setTop (mkF m 50 #[.val (.int p1), .val (.int p2), .val (.int (10 : Int32)), .val (.int (10 : Int32)), .val (.int (1 : Int32)), .val (.int (0 : Int32)), .unset, .unset] [(.int (0 : Int32)), (.int (10 : Int32))]))
    obtain ⟨_, _, ⟨T2, L2, k2, n2⟩, -, X2, ⟨Lc2, hQ2, l2, y2, z2⟩, st2⟩ := Jvm.LawKit.callS X1 hx (y := (⟨"com/example/kaava/kaava/io/DocumentPosition", "endsLine", "(CZ)Z"⟩ : MethodName)) hown (mvT hZ (hw _ (List.mem_of_getElem? (i := 4) rfl))) (mvT hZ (hw _ (List.mem_of_getElem? (i := 5) rfl))) (mvT hZ (hw _ (List.mem_of_getElem? (i := 6) rfl))) (mvT hZ (hw _ (List.mem_of_getElem? (i := 7) rfl))) (by decide) (backOf (W := 0) (rm2 l Z a0 hw [] (10 : Int32) (0 : Int32) (1 : Int32) h0 n0 Z0 (by decide)) hZ (hw _ (List.mem_of_getElem? (i := 7) rfl)) (hw _ (List.mem_of_getElem? (i := 6) rfl)) (by decide) (by decide)) (g := (mkF m 50 #[.val (.int p1), .val (.int p2), .val (.int (10 : Int32)), .val (.int (10 : Int32)), .val (.int (1 : Int32)), .val (.int (0 : Int32)), .unset, .unset] [(.int (0 : Int32)), (.int (10 : Int32))])) rfl (by rw [hml]; rfl) (argsL := [(.int (10 : Int32)), (.int (0 : Int32))]) (rest := []) (lenOf pd__CZ_Z rfl) rfl (by show 2 * 0 + _ ≤ _; exact Nat.le_of_eq rfl) (hb hby at_50) (fun _ _ => ⟨rfl, hh1, (by decide : 0 + 0 ≤ _), (by decide : 0 + 0 ≤ _)⟩)
    dsimp only [Pt.U, Pt.locs, Pt.cells, Pt.slots] at X2 l2 y2 z2 st2 hQ2
    subst l2 y2 z2
    obtain ⟨rfl, N2q, hh2⟩ := hQ2
    have N2 := Fr.app N1 N2q
    refine own_go st2 ?_
    show own_G p.tables e below s _ _ _ (T2.setTop (mkF m 53 #[.val (.int p1), .val (.int p2), .val (.int (10 : Int32)), .val (.int (10 : Int32)), .val (.int (1 : Int32)), .val (.int (0 : Int32)), .unset, .unset] [(.int (1 : Int32))]))
    refine own_go (fun t k => XS.istore X2.here hx rfl (hb hby at_53) rfl (l' := #[.val (.int p1), .val (.int p2), .val (.int (10 : Int32)), .val (.int (10 : Int32)), .val (.int (1 : Int32)), .val (.int (0 : Int32)), .val (.int (1 : Int32)), .unset]) rfl k) ?_
    show own_G p.tables e below s _ _ _ (T2.setTop (mkF m 55 #[.val (.int p1), .val (.int p2), .val (.int (10 : Int32)), .val (.int (10 : Int32)), .val (.int (1 : Int32)), .val (.int (0 : Int32)), .val (.int (1 : Int32)), .unset] []))
    refine own_go (fun t k => XS.iloadN X2.here hx rfl (hb hby at_55) rfl k) ?_
    show own_G p.tables e below s _ _ _ (T2.setTop (mkF m 56 #[.val (.int p1), .val (.int p2), .val (.int (10 : Int32)), .val (.int (10 : Int32)), .val (.int (1 : Int32)), .val (.int (0 : Int32)), .val (.int (1 : Int32)), .unset] [(.int (10 : Int32))]))
    refine own_go (fun t k => XS.iconst X2.here hx rfl (hb hby at_56) k) ?_
    show own_G p.tables e below s _ _ _ (T2.setTop (mkF m 57 #[.val (.int p1), .val (.int p2), .val (.int (10 : Int32)), .val (.int (10 : Int32)), .val (.int (1 : Int32)), .val (.int (0 : Int32)), .val (.int (1 : Int32)), .unset] [(.int (1 : Int32)), (.int (10 : Int32))]))
    obtain ⟨_, _, ⟨T3, L3, k3, n3⟩, -, X3, ⟨Lc3, hQ3, l3, y3, z3⟩, st3⟩ := Jvm.LawKit.callS X2 hx (y := (⟨"com/example/kaava/kaava/io/DocumentPosition", "endsLine", "(CZ)Z"⟩ : MethodName)) hown (mvT hZ (hw _ (List.mem_of_getElem? (i := 4) rfl))) (mvT hZ (hw _ (List.mem_of_getElem? (i := 5) rfl))) (mvT hZ (hw _ (List.mem_of_getElem? (i := 6) rfl))) (mvT hZ (hw _ (List.mem_of_getElem? (i := 7) rfl))) (by decide) (backOf (W := 0) (rm2 l Z a0 hw [] (10 : Int32) (1 : Int32) (1 : Int32) h0 n0 Z0 (by decide)) hZ (hw _ (List.mem_of_getElem? (i := 7) rfl)) (hw _ (List.mem_of_getElem? (i := 6) rfl)) (by decide) (by decide)) (g := (mkF m 57 #[.val (.int p1), .val (.int p2), .val (.int (10 : Int32)), .val (.int (10 : Int32)), .val (.int (1 : Int32)), .val (.int (0 : Int32)), .val (.int (1 : Int32)), .unset] [(.int (1 : Int32)), (.int (10 : Int32))])) rfl (by rw [hml]; rfl) (argsL := [(.int (10 : Int32)), (.int (1 : Int32))]) (rest := []) (lenOf pd__CZ_Z rfl) rfl (by show 2 * 0 + _ ≤ _; exact Nat.le_of_eq rfl) (hb hby at_57) (fun _ _ => ⟨rfl, hh2, (by decide : 0 + 0 ≤ _), (by decide : 0 + 0 ≤ _)⟩)
    dsimp only [Pt.U, Pt.locs, Pt.cells, Pt.slots] at X3 l3 y3 z3 st3 hQ3
    subst l3 y3 z3
    obtain ⟨rfl, N3q, hh3⟩ := hQ3
    have N3 := Fr.app N2 N3q
    refine own_go st3 ?_
    show own_G p.tables e below s _ _ _ (T3.setTop (mkF m 60 #[.val (.int p1), .val (.int p2), .val (.int (10 : Int32)), .val (.int (10 : Int32)), .val (.int (1 : Int32)), .val (.int (0 : Int32)), .val (.int (1 : Int32)), .unset] [(.int (1 : Int32))]))
    refine own_go (fun t k => XS.istore X3.here hx rfl (hb hby at_60) rfl (l' := #[.val (.int p1), .val (.int p2), .val (.int (10 : Int32)), .val (.int (10 : Int32)), .val (.int (1 : Int32)), .val (.int (0 : Int32)), .val (.int (1 : Int32)), .val (.int (1 : Int32))]) rfl k) ?_
    show own_G p.tables e below s _ _ _ (T3.setTop (mkF m 62 #[.val (.int p1), .val (.int p2), .val (.int (10 : Int32)), .val (.int (10 : Int32)), .val (.int (1 : Int32)), .val (.int (0 : Int32)), .val (.int (1 : Int32)), .val (.int (1 : Int32))] []))
    refine own_go (fun t k => XS.iload X3.here hx rfl (hb hby at_62) rfl k) ?_
    show own_G p.tables e below s _ _ _ (T3.setTop (mkF m 64 #[.val (.int p1), .val (.int p2), .val (.int (10 : Int32)), .val (.int (10 : Int32)), .val (.int (1 : Int32)), .val (.int (0 : Int32)), .val (.int (1 : Int32)), .val (.int (1 : Int32))] [(.int (1 : Int32))]))
    refine own_go (fun t k => XS.iload X3.here hx rfl (hb hby at_64) rfl k) ?_
    show own_G p.tables e below s _ _ _ (T3.setTop (mkF m 66 #[.val (.int p1), .val (.int p2), .val (.int (10 : Int32)), .val (.int (10 : Int32)), .val (.int (1 : Int32)), .val (.int (0 : Int32)), .val (.int (1 : Int32)), .val (.int (1 : Int32))] [(.int (1 : Int32)), (.int (1 : Int32))]))
    refine own_go (fun t k => XS.icmpNo X3.here hx rfl (hb hby at_66) rfl (by decide) k) ?_
    show own_G p.tables e below s _ _ _ (T3.setTop (mkF m 69 #[.val (.int p1), .val (.int p2), .val (.int (10 : Int32)), .val (.int (10 : Int32)), .val (.int (1 : Int32)), .val (.int (0 : Int32)), .val (.int (1 : Int32)), .val (.int (1 : Int32))] []))
    refine own_go (fun t k => XS.iload X3.here hx rfl (hb hby at_69) rfl k) ?_
    show own_G p.tables e below s _ _ _ (T3.setTop (mkF m 71 #[.val (.int p1), .val (.int p2), .val (.int (10 : Int32)), .val (.int (10 : Int32)), .val (.int (1 : Int32)), .val (.int (0 : Int32)), .val (.int (1 : Int32)), .val (.int (1 : Int32))] [(.int (1 : Int32))]))
    refine own_go (fun t k => XS.iload X3.here hx rfl (hb hby at_71) rfl k) ?_
    show own_G p.tables e below s _ _ _ (T3.setTop (mkF m 73 #[.val (.int p1), .val (.int p2), .val (.int (10 : Int32)), .val (.int (10 : Int32)), .val (.int (1 : Int32)), .val (.int (0 : Int32)), .val (.int (1 : Int32)), .val (.int (1 : Int32))] [(.int (1 : Int32)), (.int (1 : Int32))]))
    refine own_go (fun t k => XS.ifYes X3.here hx rfl (pc0 := 73) (pc' := 81) rfl (hb hby at_73) rfl (by decide) (by decide) (by decide) k) ?_
    show own_G p.tables e below s _ _ _ (T3.setTop (mkF m 81 #[.val (.int p1), .val (.int p2), .val (.int (10 : Int32)), .val (.int (10 : Int32)), .val (.int (1 : Int32)), .val (.int (0 : Int32)), .val (.int (1 : Int32)), .val (.int (1 : Int32))] [(.int (1 : Int32))]))
    refine own_go (fun t k => XS.iconst X3.here hx rfl (hb hby at_81) k) ?_
    show own_G p.tables e below s _ _ _ (T3.setTop (mkF m 82 #[.val (.int p1), .val (.int p2), .val (.int (10 : Int32)), .val (.int (10 : Int32)), .val (.int (1 : Int32)), .val (.int (0 : Int32)), .val (.int (1 : Int32)), .val (.int (1 : Int32))] [(.int (1 : Int32)), (.int (1 : Int32))]))
    refine own_go (fun t k => XS.goto X3.here hx rfl (pc0 := 82) (pc' := 86) rfl (hb hby at_82) (by decide) (by decide) k) ?_
    show own_G p.tables e below s _ _ _ (T3.setTop (mkF m 86 #[.val (.int p1), .val (.int p2), .val (.int (10 : Int32)), .val (.int (10 : Int32)), .val (.int (1 : Int32)), .val (.int (0 : Int32)), .val (.int (1 : Int32)), .val (.int (1 : Int32))] [(.int (1 : Int32)), (.int (1 : Int32))]))
    refine own_go (fun t k => XS.icmpNo X3.here hx rfl (hb hby at_86) rfl (by decide) k) ?_
    show own_G p.tables e below s _ _ _ (T3.setTop (mkF m 89 #[.val (.int p1), .val (.int p2), .val (.int (10 : Int32)), .val (.int (10 : Int32)), .val (.int (1 : Int32)), .val (.int (0 : Int32)), .val (.int (1 : Int32)), .val (.int (1 : Int32))] []))
    refine own_go (fun t k => XS.iload X3.here hx rfl (hb hby at_89) rfl k) ?_
    show own_G p.tables e below s _ _ _ (T3.setTop (mkF m 91 #[.val (.int p1), .val (.int p2), .val (.int (10 : Int32)), .val (.int (10 : Int32)), .val (.int (1 : Int32)), .val (.int (0 : Int32)), .val (.int (1 : Int32)), .val (.int (1 : Int32))] [(.int (1 : Int32))]))
    refine own_go (fun t k => XS.ifNo X3.here hx rfl (hb hby at_91) rfl (by decide) k) ?_
    show own_G p.tables e below s _ _ _ (T3.setTop (mkF m 94 #[.val (.int p1), .val (.int p2), .val (.int (10 : Int32)), .val (.int (10 : Int32)), .val (.int (1 : Int32)), .val (.int (0 : Int32)), .val (.int (1 : Int32)), .val (.int (1 : Int32))] []))
    refine own_go (fun t k => XS.iload X3.here hx rfl (hb hby at_94) rfl k) ?_
    show own_G p.tables e below s _ _ _ (T3.setTop (mkF m 96 #[.val (.int p1), .val (.int p2), .val (.int (10 : Int32)), .val (.int (10 : Int32)), .val (.int (1 : Int32)), .val (.int (0 : Int32)), .val (.int (1 : Int32)), .val (.int (1 : Int32))] [(.int (1 : Int32))]))
    refine own_go (fun t k => XS.ifNo X3.here hx rfl (hb hby at_96) rfl (by decide) k) ?_
    show own_G p.tables e below s _ _ _ (T3.setTop (mkF m 99 #[.val (.int p1), .val (.int p2), .val (.int (10 : Int32)), .val (.int (10 : Int32)), .val (.int (1 : Int32)), .val (.int (0 : Int32)), .val (.int (1 : Int32)), .val (.int (1 : Int32))] []))
    refine own_go (fun t k => XS.iconst X3.here hx rfl (hb hby at_99) k) ?_
    show own_G p.tables e below s _ _ _ (T3.setTop (mkF m 100 #[.val (.int p1), .val (.int p2), .val (.int (10 : Int32)), .val (.int (10 : Int32)), .val (.int (1 : Int32)), .val (.int (0 : Int32)), .val (.int (1 : Int32)), .val (.int (1 : Int32))] [(.int (1 : Int32))]))
    refine own_go (fun t k => XS.goto X3.here hx rfl (pc0 := 100) (pc' := 104) rfl (hb hby at_100) (by decide) (by decide) k) ?_
    show own_G p.tables e below s _ _ _ (T3.setTop (mkF m 104 #[.val (.int p1), .val (.int p2), .val (.int (10 : Int32)), .val (.int (10 : Int32)), .val (.int (1 : Int32)), .val (.int (0 : Int32)), .val (.int (1 : Int32)), .val (.int (1 : Int32))] [(.int (1 : Int32))]))
    exact own_retN X3 hx hlk (t := .boolean) (z' := (1 : Int32)) Bd.returns (by simp) (hb hby at_104) (rfl) (by rw [hh3]; exact ⟨rfl, N3⟩) (by decide) (by decide)
  · show own_G p.tables e below s _ _ _ (T1.setTop (mkF m 5 #[.val (.int p1), .val (.int p2), .unset, .unset, .unset, .unset, .unset, .unset] [(.int c1)]))
    by_cases h13 : c1 = (13 : Int32)
    · subst h13
      show own_G p.tables e below s _ _ _ (T1.setTop (mkF m 5 #[.val (.int p1), .val (.int p2), .unset, .unset, .unset, .unset, .unset, .unset] [(.int (13 : Int32))]))
      refine own_go (fun t k => XS.istoreN X1.here hx rfl (hb hby at_5) rfl (l' := #[.val (.int p1), .val (.int p2), .val (.int (13 : Int32)), .unset, .unset, .unset, .unset, .unset]) rfl k) ?_
      show own_G p.tables e below s _ _ _ (T1.setTop (mkF m 6 #[.val (.int p1), .val (.int p2), .val (.int (13 : Int32)), .unset, .unset, .unset, .unset, .unset] []))
      refine own_go (fun t k => XS.iloadN X1.here hx rfl (hb hby at_6) rfl k) ?_
      show own_G p.tables e below s _ _ _ (T1.setTop (mkF m 7 #[.val (.int p1), .val (.int p2), .val (.int (13 : Int32)), .unset, .unset, .unset, .unset, .unset] [(.int (13 : Int32))]))
      refine own_go (fun t k => XS.istoreN X1.here hx rfl (hb hby at_7) rfl (l' := #[.val (.int p1), .val (.int p2), .val (.int (13 : Int32)), .val (.int (13 : Int32)), .unset, .unset, .unset, .unset]) rfl k) ?_
      show own_G p.tables e below s _ _ _ (T1.setTop (mkF m 8 #[.val (.int p1), .val (.int p2), .val (.int (13 : Int32)), .val (.int (13 : Int32)), .unset, .unset, .unset, .unset] []))
      refine own_go (fun t k => XS.iloadN X1.here hx rfl (hb hby at_8) rfl k) ?_
      show own_G p.tables e below s _ _ _ (T1.setTop (mkF m 9 #[.val (.int p1), .val (.int p2), .val (.int (13 : Int32)), .val (.int (13 : Int32)), .unset, .unset, .unset, .unset] [(.int (13 : Int32))]))
      refine own_go (fun t k => XS.bipush X1.here hx rfl (hb hby at_9) k) ?_
      show own_G p.tables e below s _ _ _ (T1.setTop (mkF m 11 #[.val (.int p1), .val (.int p2), .val (.int (13 : Int32)), .val (.int (13 : Int32)), .unset, .unset, .unset, .unset] [(.int (10 : Int32)), (.int (13 : Int32))]))
      refine own_go (fun t k => XS.icmpNo X1.here hx rfl (hb hby at_11) rfl (by decide) k) ?_
      show own_G p.tables e below s _ _ _ (T1.setTop (mkF m 14 #[.val (.int p1), .val (.int p2), .val (.int (13 : Int32)), .val (.int (13 : Int32)), .unset, .unset, .unset, .unset] []))
      refine own_go (fun t k => XS.iloadN X1.here hx rfl (hb hby at_14) rfl k) ?_
      show own_G p.tables e below s _ _ _ (T1.setTop (mkF m 15 #[.val (.int p1), .val (.int p2), .val (.int (13 : Int32)), .val (.int (13 : Int32)), .unset, .unset, .unset, .unset] [(.int (13 : Int32))]))
      refine own_go (fun t k => XS.bipush X1.here hx rfl (hb hby at_15) k) ?_
      show own_G p.tables e below s _ _ _ (T1.setTop (mkF m 17 #[.val (.int p1), .val (.int p2), .val (.int (13 : Int32)), .val (.int (13 : Int32)), .unset, .unset, .unset, .unset] [(.int (13 : Int32)), (.int (13 : Int32))]))
      refine own_go (fun t k => XS.icmpNo X1.here hx rfl (hb hby at_17) rfl (by decide) k) ?_
      show own_G p.tables e below s _ _ _ (T1.setTop (mkF m 20 #[.val (.int p1), .val (.int p2), .val (.int (13 : Int32)), .val (.int (13 : Int32)), .unset, .unset, .unset, .unset] []))
      refine own_go (fun t k => XS.iconst X1.here hx rfl (hb hby at_20) k) ?_
      show own_G p.tables e below s _ _ _ (T1.setTop (mkF m 21 #[.val (.int p1), .val (.int p2), .val (.int (13 : Int32)), .val (.int (13 : Int32)), .unset, .unset, .unset, .unset] [(.int (1 : Int32))]))
      refine own_go (fun t k => XS.goto X1.here hx rfl (pc0 := 21) (pc' := 25) rfl (hb hby at_21) (by decide) (by decide) k) ?_
      show own_G p.tables e below s _ _ _ (T1.setTop (mkF m 25 #[.val (.int p1), .val (.int p2), .val (.int (13 : Int32)), .val (.int (13 : Int32)), .unset, .unset, .unset, .unset] [(.int (1 : Int32))]))
      refine own_go (fun t k => XS.istore X1.here hx rfl (hb hby at_25) rfl (l' := #[.val (.int p1), .val (.int p2), .val (.int (13 : Int32)), .val (.int (13 : Int32)), .val (.int (1 : Int32)), .unset, .unset, .unset]) rfl k) ?_
      show own_G p.tables e below s _ _ _ (T1.setTop (mkF m 27 #[.val (.int p1), .val (.int p2), .val (.int (13 : Int32)), .val (.int (13 : Int32)), .val (.int (1 : Int32)), .unset, .unset, .unset] []))
      refine own_go (fun t k => XS.iloadN X1.here hx rfl (hb hby at_27) rfl k) ?_
      show own_G p.tables e below s _ _ _ (T1.setTop (mkF m 28 #[.val (.int p1), .val (.int p2), .val (.int (13 : Int32)), .val (.int (13 : Int32)), .val (.int (1 : Int32)), .unset, .unset, .unset] [(.int (13 : Int32))]))
      refine own_go (fun t k => XS.sipush X1.here hx rfl (hb hby at_28) k) ?_
      show own_G p.tables e below s _ _ _ (T1.setTop (mkF m 31 #[.val (.int p1), .val (.int p2), .val (.int (13 : Int32)), .val (.int (13 : Int32)), .val (.int (1 : Int32)), .unset, .unset, .unset] [(.int (133 : Int32)), (.int (13 : Int32))]))
      refine own_go (fun t k => XS.icmpNo X1.here hx rfl (hb hby at_31) rfl (by decide) k) ?_
      show own_G p.tables e below s _ _ _ (T1.setTop (mkF m 34 #[.val (.int p1), .val (.int p2), .val (.int (13 : Int32)), .val (.int (13 : Int32)), .val (.int (1 : Int32)), .unset, .unset, .unset] []))
      refine own_go (fun t k => XS.iloadN X1.here hx rfl (hb hby at_34) rfl k) ?_
      show own_G p.tables e below s _ _ _ (T1.setTop (mkF m 35 #[.val (.int p1), .val (.int p2), .val (.int (13 : Int32)), .val (.int (13 : Int32)), .val (.int (1 : Int32)), .unset, .unset, .unset] [(.int (13 : Int32))]))
      refine own_go (fun t k => XS.sipush X1.here hx rfl (hb hby at_35) k) ?_
      show own_G p.tables e below s _ _ _ (T1.setTop (mkF m 38 #[.val (.int p1), .val (.int p2), .val (.int (13 : Int32)), .val (.int (13 : Int32)), .val (.int (1 : Int32)), .unset, .unset, .unset] [(.int (8232 : Int32)), (.int (13 : Int32))]))
      refine own_go (fun t k => XS.icmpYes X1.here hx rfl (pc0 := 38) (pc' := 45) rfl (hb hby at_38) rfl (by decide) (by decide) (by decide) k) ?_
      show own_G p.tables e below s _ _ _ (T1.setTop (mkF m 45 #[.val (.int p1), .val (.int p2), .val (.int (13 : Int32)), .val (.int (13 : Int32)), .val (.int (1 : Int32)), .unset, .unset, .unset] []))
      refine own_go (fun t k => XS.iconst X1.here hx rfl (hb hby at_45) k) ?_
      show own_G p.tables e below s _ _ _ (T1.setTop (mkF m 46 #[.val (.int p1), .val (.int p2), .val (.int (13 : Int32)), .val (.int (13 : Int32)), .val (.int (1 : Int32)), .unset, .unset, .unset] [(.int (0 : Int32))]))
      refine own_go (fun t k => XS.istore X1.here hx rfl (hb hby at_46) rfl (l' := #[.val (.int p1), .val (.int p2), .val (.int (13 : Int32)), .val (.int (13 : Int32)), .val (.int (1 : Int32)), .val (.int (0 : Int32)), .unset, .unset]) rfl k) ?_
      show own_G p.tables e below s _ _ _ (T1.setTop (mkF m 48 #[.val (.int p1), .val (.int p2), .val (.int (13 : Int32)), .val (.int (13 : Int32)), .val (.int (1 : Int32)), .val (.int (0 : Int32)), .unset, .unset] []))
      refine own_go (fun t k => XS.iloadN X1.here hx rfl (hb hby at_48) rfl k) ?_
      show own_G p.tables e below s _ _ _ (T1.setTop (mkF m 49 #[.val (.int p1), .val (.int p2), .val (.int (13 : Int32)), .val (.int (13 : Int32)), .val (.int (1 : Int32)), .val (.int (0 : Int32)), .unset, .unset] [(.int (13 : Int32))]))
      refine own_go (fun t k => XS.iconst X1.here hx rfl (hb hby at_49) k) ?_
      show own_G p.tables e below s _ _ _ (T1.setTop (mkF m 50 #[.val (.int p1), .val (.int p2), .val (.int (13 : Int32)), .val (.int (13 : Int32)), .val (.int (1 : Int32)), .val (.int (0 : Int32)), .unset, .unset] [(.int (0 : Int32)), (.int (13 : Int32))]))
      obtain ⟨_, _, ⟨T4, L4, k4, n4⟩, -, X4, ⟨Lc4, hQ4, l4, y4, z4⟩, st4⟩ := Jvm.LawKit.callS X1 hx (y := (⟨"com/example/kaava/kaava/io/DocumentPosition", "endsLine", "(CZ)Z"⟩ : MethodName)) hown (mvT hZ (hw _ (List.mem_of_getElem? (i := 4) rfl))) (mvT hZ (hw _ (List.mem_of_getElem? (i := 5) rfl))) (mvT hZ (hw _ (List.mem_of_getElem? (i := 6) rfl))) (mvT hZ (hw _ (List.mem_of_getElem? (i := 7) rfl))) (by decide) (backOf (W := 0) (rm2 l Z a0 hw [] (13 : Int32) (0 : Int32) (1 : Int32) h0 n0 Z0 (by decide)) hZ (hw _ (List.mem_of_getElem? (i := 7) rfl)) (hw _ (List.mem_of_getElem? (i := 6) rfl)) (by decide) (by decide)) (g := (mkF m 50 #[.val (.int p1), .val (.int p2), .val (.int (13 : Int32)), .val (.int (13 : Int32)), .val (.int (1 : Int32)), .val (.int (0 : Int32)), .unset, .unset] [(.int (0 : Int32)), (.int (13 : Int32))])) rfl (by rw [hml]; rfl) (argsL := [(.int (13 : Int32)), (.int (0 : Int32))]) (rest := []) (lenOf pd__CZ_Z rfl) rfl (by show 2 * 0 + _ ≤ _; exact Nat.le_of_eq rfl) (hb hby at_50) (fun _ _ => ⟨rfl, hh1, (by decide : 0 + 0 ≤ _), (by decide : 0 + 0 ≤ _)⟩)
      dsimp only [Pt.U, Pt.locs, Pt.cells, Pt.slots] at X4 l4 y4 z4 st4 hQ4
      subst l4 y4 z4
      obtain ⟨rfl, N4q, hh4⟩ := hQ4
      have N4 := Fr.app N1 N4q
      refine own_go st4 ?_
      show own_G p.tables e below s _ _ _ (T4.setTop (mkF m 53 #[.val (.int p1), .val (.int p2), .val (.int (13 : Int32)), .val (.int (13 : Int32)), .val (.int (1 : Int32)), .val (.int (0 : Int32)), .unset, .unset] [(.int (1 : Int32))]))
      refine own_go (fun t k => XS.istore X4.here hx rfl (hb hby at_53) rfl (l' := #[.val (.int p1), .val (.int p2), .val (.int (13 : Int32)), .val (.int (13 : Int32)), .val (.int (1 : Int32)), .val (.int (0 : Int32)), .val (.int (1 : Int32)), .unset]) rfl k) ?_
      show own_G p.tables e below s _ _ _ (T4.setTop (mkF m 55 #[.val (.int p1), .val (.int p2), .val (.int (13 : Int32)), .val (.int (13 : Int32)), .val (.int (1 : Int32)), .val (.int (0 : Int32)), .val (.int (1 : Int32)), .unset] []))
      refine own_go (fun t k => XS.iloadN X4.here hx rfl (hb hby at_55) rfl k) ?_
      show own_G p.tables e below s _ _ _ (T4.setTop (mkF m 56 #[.val (.int p1), .val (.int p2), .val (.int (13 : Int32)), .val (.int (13 : Int32)), .val (.int (1 : Int32)), .val (.int (0 : Int32)), .val (.int (1 : Int32)), .unset] [(.int (13 : Int32))]))
      refine own_go (fun t k => XS.iconst X4.here hx rfl (hb hby at_56) k) ?_
      show own_G p.tables e below s _ _ _ (T4.setTop (mkF m 57 #[.val (.int p1), .val (.int p2), .val (.int (13 : Int32)), .val (.int (13 : Int32)), .val (.int (1 : Int32)), .val (.int (0 : Int32)), .val (.int (1 : Int32)), .unset] [(.int (1 : Int32)), (.int (13 : Int32))]))
      obtain ⟨_, _, ⟨T5, L5, k5, n5⟩, -, X5, ⟨Lc5, hQ5, l5, y5, z5⟩, st5⟩ := Jvm.LawKit.callS X4 hx (y := (⟨"com/example/kaava/kaava/io/DocumentPosition", "endsLine", "(CZ)Z"⟩ : MethodName)) hown (mvT hZ (hw _ (List.mem_of_getElem? (i := 4) rfl))) (mvT hZ (hw _ (List.mem_of_getElem? (i := 5) rfl))) (mvT hZ (hw _ (List.mem_of_getElem? (i := 6) rfl))) (mvT hZ (hw _ (List.mem_of_getElem? (i := 7) rfl))) (by decide) (backOf (W := 0) (rm2 l Z a0 hw [] (13 : Int32) (1 : Int32) (1 : Int32) h0 n0 Z0 (by decide)) hZ (hw _ (List.mem_of_getElem? (i := 7) rfl)) (hw _ (List.mem_of_getElem? (i := 6) rfl)) (by decide) (by decide)) (g := (mkF m 57 #[.val (.int p1), .val (.int p2), .val (.int (13 : Int32)), .val (.int (13 : Int32)), .val (.int (1 : Int32)), .val (.int (0 : Int32)), .val (.int (1 : Int32)), .unset] [(.int (1 : Int32)), (.int (13 : Int32))])) rfl (by rw [hml]; rfl) (argsL := [(.int (13 : Int32)), (.int (1 : Int32))]) (rest := []) (lenOf pd__CZ_Z rfl) rfl (by show 2 * 0 + _ ≤ _; exact Nat.le_of_eq rfl) (hb hby at_57) (fun _ _ => ⟨rfl, hh4, (by decide : 0 + 0 ≤ _), (by decide : 0 + 0 ≤ _)⟩)
      dsimp only [Pt.U, Pt.locs, Pt.cells, Pt.slots] at X5 l5 y5 z5 st5 hQ5
      subst l5 y5 z5
      obtain ⟨rfl, N5q, hh5⟩ := hQ5
      have N5 := Fr.app N4 N5q
      refine own_go st5 ?_
      show own_G p.tables e below s _ _ _ (T5.setTop (mkF m 60 #[.val (.int p1), .val (.int p2), .val (.int (13 : Int32)), .val (.int (13 : Int32)), .val (.int (1 : Int32)), .val (.int (0 : Int32)), .val (.int (1 : Int32)), .unset] [(.int (1 : Int32))]))
      refine own_go (fun t k => XS.istore X5.here hx rfl (hb hby at_60) rfl (l' := #[.val (.int p1), .val (.int p2), .val (.int (13 : Int32)), .val (.int (13 : Int32)), .val (.int (1 : Int32)), .val (.int (0 : Int32)), .val (.int (1 : Int32)), .val (.int (1 : Int32))]) rfl k) ?_
      show own_G p.tables e below s _ _ _ (T5.setTop (mkF m 62 #[.val (.int p1), .val (.int p2), .val (.int (13 : Int32)), .val (.int (13 : Int32)), .val (.int (1 : Int32)), .val (.int (0 : Int32)), .val (.int (1 : Int32)), .val (.int (1 : Int32))] []))
      refine own_go (fun t k => XS.iload X5.here hx rfl (hb hby at_62) rfl k) ?_
      show own_G p.tables e below s _ _ _ (T5.setTop (mkF m 64 #[.val (.int p1), .val (.int p2), .val (.int (13 : Int32)), .val (.int (13 : Int32)), .val (.int (1 : Int32)), .val (.int (0 : Int32)), .val (.int (1 : Int32)), .val (.int (1 : Int32))] [(.int (1 : Int32))]))
      refine own_go (fun t k => XS.iload X5.here hx rfl (hb hby at_64) rfl k) ?_
      show own_G p.tables e below s _ _ _ (T5.setTop (mkF m 66 #[.val (.int p1), .val (.int p2), .val (.int (13 : Int32)), .val (.int (13 : Int32)), .val (.int (1 : Int32)), .val (.int (0 : Int32)), .val (.int (1 : Int32)), .val (.int (1 : Int32))] [(.int (1 : Int32)), (.int (1 : Int32))]))
      refine own_go (fun t k => XS.icmpNo X5.here hx rfl (hb hby at_66) rfl (by decide) k) ?_
      show own_G p.tables e below s _ _ _ (T5.setTop (mkF m 69 #[.val (.int p1), .val (.int p2), .val (.int (13 : Int32)), .val (.int (13 : Int32)), .val (.int (1 : Int32)), .val (.int (0 : Int32)), .val (.int (1 : Int32)), .val (.int (1 : Int32))] []))
      refine own_go (fun t k => XS.iload X5.here hx rfl (hb hby at_69) rfl k) ?_
      show own_G p.tables e below s _ _ _ (T5.setTop (mkF m 71 #[.val (.int p1), .val (.int p2), .val (.int (13 : Int32)), .val (.int (13 : Int32)), .val (.int (1 : Int32)), .val (.int (0 : Int32)), .val (.int (1 : Int32)), .val (.int (1 : Int32))] [(.int (1 : Int32))]))
      refine own_go (fun t k => XS.iload X5.here hx rfl (hb hby at_71) rfl k) ?_
      show own_G p.tables e below s _ _ _ (T5.setTop (mkF m 73 #[.val (.int p1), .val (.int p2), .val (.int (13 : Int32)), .val (.int (13 : Int32)), .val (.int (1 : Int32)), .val (.int (0 : Int32)), .val (.int (1 : Int32)), .val (.int (1 : Int32))] [(.int (1 : Int32)), (.int (1 : Int32))]))
      refine own_go (fun t k => XS.ifYes X5.here hx rfl (pc0 := 73) (pc' := 81) rfl (hb hby at_73) rfl (by decide) (by decide) (by decide) k) ?_
      show own_G p.tables e below s _ _ _ (T5.setTop (mkF m 81 #[.val (.int p1), .val (.int p2), .val (.int (13 : Int32)), .val (.int (13 : Int32)), .val (.int (1 : Int32)), .val (.int (0 : Int32)), .val (.int (1 : Int32)), .val (.int (1 : Int32))] [(.int (1 : Int32))]))
      refine own_go (fun t k => XS.iconst X5.here hx rfl (hb hby at_81) k) ?_
      show own_G p.tables e below s _ _ _ (T5.setTop (mkF m 82 #[.val (.int p1), .val (.int p2), .val (.int (13 : Int32)), .val (.int (13 : Int32)), .val (.int (1 : Int32)), .val (.int (0 : Int32)), .val (.int (1 : Int32)), .val (.int (1 : Int32))] [(.int (1 : Int32)), (.int (1 : Int32))]))
      refine own_go (fun t k => XS.goto X5.here hx rfl (pc0 := 82) (pc' := 86) rfl (hb hby at_82) (by decide) (by decide) k) ?_
      show own_G p.tables e below s _ _ _ (T5.setTop (mkF m 86 #[.val (.int p1), .val (.int p2), .val (.int (13 : Int32)), .val (.int (13 : Int32)), .val (.int (1 : Int32)), .val (.int (0 : Int32)), .val (.int (1 : Int32)), .val (.int (1 : Int32))] [(.int (1 : Int32)), (.int (1 : Int32))]))
      refine own_go (fun t k => XS.icmpNo X5.here hx rfl (hb hby at_86) rfl (by decide) k) ?_
      show own_G p.tables e below s _ _ _ (T5.setTop (mkF m 89 #[.val (.int p1), .val (.int p2), .val (.int (13 : Int32)), .val (.int (13 : Int32)), .val (.int (1 : Int32)), .val (.int (0 : Int32)), .val (.int (1 : Int32)), .val (.int (1 : Int32))] []))
      refine own_go (fun t k => XS.iload X5.here hx rfl (hb hby at_89) rfl k) ?_
      show own_G p.tables e below s _ _ _ (T5.setTop (mkF m 91 #[.val (.int p1), .val (.int p2), .val (.int (13 : Int32)), .val (.int (13 : Int32)), .val (.int (1 : Int32)), .val (.int (0 : Int32)), .val (.int (1 : Int32)), .val (.int (1 : Int32))] [(.int (1 : Int32))]))
      refine own_go (fun t k => XS.ifNo X5.here hx rfl (hb hby at_91) rfl (by decide) k) ?_
      show own_G p.tables e below s _ _ _ (T5.setTop (mkF m 94 #[.val (.int p1), .val (.int p2), .val (.int (13 : Int32)), .val (.int (13 : Int32)), .val (.int (1 : Int32)), .val (.int (0 : Int32)), .val (.int (1 : Int32)), .val (.int (1 : Int32))] []))
      refine own_go (fun t k => XS.iload X5.here hx rfl (hb hby at_94) rfl k) ?_
      show own_G p.tables e below s _ _ _ (T5.setTop (mkF m 96 #[.val (.int p1), .val (.int p2), .val (.int (13 : Int32)), .val (.int (13 : Int32)), .val (.int (1 : Int32)), .val (.int (0 : Int32)), .val (.int (1 : Int32)), .val (.int (1 : Int32))] [(.int (1 : Int32))]))
      refine own_go (fun t k => XS.ifNo X5.here hx rfl (hb hby at_96) rfl (by decide) k) ?_
      show own_G p.tables e below s _ _ _ (T5.setTop (mkF m 99 #[.val (.int p1), .val (.int p2), .val (.int (13 : Int32)), .val (.int (13 : Int32)), .val (.int (1 : Int32)), .val (.int (0 : Int32)), .val (.int (1 : Int32)), .val (.int (1 : Int32))] []))
      refine own_go (fun t k => XS.iconst X5.here hx rfl (hb hby at_99) k) ?_
      show own_G p.tables e below s _ _ _ (T5.setTop (mkF m 100 #[.val (.int p1), .val (.int p2), .val (.int (13 : Int32)), .val (.int (13 : Int32)), .val (.int (1 : Int32)), .val (.int (0 : Int32)), .val (.int (1 : Int32)), .val (.int (1 : Int32))] [(.int (1 : Int32))]))
      refine own_go (fun t k => XS.goto X5.here hx rfl (pc0 := 100) (pc' := 104) rfl (hb hby at_100) (by decide) (by decide) k) ?_
      show own_G p.tables e below s _ _ _ (T5.setTop (mkF m 104 #[.val (.int p1), .val (.int p2), .val (.int (13 : Int32)), .val (.int (13 : Int32)), .val (.int (1 : Int32)), .val (.int (0 : Int32)), .val (.int (1 : Int32)), .val (.int (1 : Int32))] [(.int (1 : Int32))]))
      exact own_retN X5 hx hlk (t := .boolean) (z' := (1 : Int32)) Bd.returns (by simp) (hb hby at_104) (rfl) (by rw [hh5]; exact ⟨rfl, N5⟩) (by decide) (by decide)
    · show own_G p.tables e below s _ _ _ (T1.setTop (mkF m 5 #[.val (.int p1), .val (.int p2), .unset, .unset, .unset, .unset, .unset, .unset] [(.int c1)]))
      by_cases h133 : c1 = (133 : Int32)
      · subst h133
        show own_G p.tables e below s _ _ _ (T1.setTop (mkF m 5 #[.val (.int p1), .val (.int p2), .unset, .unset, .unset, .unset, .unset, .unset] [(.int (133 : Int32))]))
        refine own_go (fun t k => XS.istoreN X1.here hx rfl (hb hby at_5) rfl (l' := #[.val (.int p1), .val (.int p2), .val (.int (133 : Int32)), .unset, .unset, .unset, .unset, .unset]) rfl k) ?_
        show own_G p.tables e below s _ _ _ (T1.setTop (mkF m 6 #[.val (.int p1), .val (.int p2), .val (.int (133 : Int32)), .unset, .unset, .unset, .unset, .unset] []))
        refine own_go (fun t k => XS.iloadN X1.here hx rfl (hb hby at_6) rfl k) ?_
        show own_G p.tables e below s _ _ _ (T1.setTop (mkF m 7 #[.val (.int p1), .val (.int p2), .val (.int (133 : Int32)), .unset, .unset, .unset, .unset, .unset] [(.int (133 : Int32))]))
        refine own_go (fun t k => XS.istoreN X1.here hx rfl (hb hby at_7) rfl (l' := #[.val (.int p1), .val (.int p2), .val (.int (133 : Int32)), .val (.int (133 : Int32)), .unset, .unset, .unset, .unset]) rfl k) ?_
        show own_G p.tables e below s _ _ _ (T1.setTop (mkF m 8 #[.val (.int p1), .val (.int p2), .val (.int (133 : Int32)), .val (.int (133 : Int32)), .unset, .unset, .unset, .unset] []))
        refine own_go (fun t k => XS.iloadN X1.here hx rfl (hb hby at_8) rfl k) ?_
        show own_G p.tables e below s _ _ _ (T1.setTop (mkF m 9 #[.val (.int p1), .val (.int p2), .val (.int (133 : Int32)), .val (.int (133 : Int32)), .unset, .unset, .unset, .unset] [(.int (133 : Int32))]))
        refine own_go (fun t k => XS.bipush X1.here hx rfl (hb hby at_9) k) ?_
        show own_G p.tables e below s _ _ _ (T1.setTop (mkF m 11 #[.val (.int p1), .val (.int p2), .val (.int (133 : Int32)), .val (.int (133 : Int32)), .unset, .unset, .unset, .unset] [(.int (10 : Int32)), (.int (133 : Int32))]))
        refine own_go (fun t k => XS.icmpNo X1.here hx rfl (hb hby at_11) rfl (by decide) k) ?_
        show own_G p.tables e below s _ _ _ (T1.setTop (mkF m 14 #[.val (.int p1), .val (.int p2), .val (.int (133 : Int32)), .val (.int (133 : Int32)), .unset, .unset, .unset, .unset] []))
        refine own_go (fun t k => XS.iloadN X1.here hx rfl (hb hby at_14) rfl k) ?_
        show own_G p.tables e below s _ _ _ (T1.setTop (mkF m 15 #[.val (.int p1), .val (.int p2), .val (.int (133 : Int32)), .val (.int (133 : Int32)), .unset, .unset, .unset, .unset] [(.int (133 : Int32))]))
        refine own_go (fun t k => XS.bipush X1.here hx rfl (hb hby at_15) k) ?_
        show own_G p.tables e below s _ _ _ (T1.setTop (mkF m 17 #[.val (.int p1), .val (.int p2), .val (.int (133 : Int32)), .val (.int (133 : Int32)), .unset, .unset, .unset, .unset] [(.int (13 : Int32)), (.int (133 : Int32))]))
        refine own_go (fun t k => XS.icmpYes X1.here hx rfl (pc0 := 17) (pc' := 24) rfl (hb hby at_17) rfl (by decide) (by decide) (by decide) k) ?_
        show own_G p.tables e below s _ _ _ (T1.setTop (mkF m 24 #[.val (.int p1), .val (.int p2), .val (.int (133 : Int32)), .val (.int (133 : Int32)), .unset, .unset, .unset, .unset] []))
        refine own_go (fun t k => XS.iconst X1.here hx rfl (hb hby at_24) k) ?_
        show own_G p.tables e below s _ _ _ (T1.setTop (mkF m 25 #[.val (.int p1), .val (.int p2), .val (.int (133 : Int32)), .val (.int (133 : Int32)), .unset, .unset, .unset, .unset] [(.int (0 : Int32))]))
        refine own_go (fun t k => XS.istore X1.here hx rfl (hb hby at_25) rfl (l' := #[.val (.int p1), .val (.int p2), .val (.int (133 : Int32)), .val (.int (133 : Int32)), .val (.int (0 : Int32)), .unset, .unset, .unset]) rfl k) ?_
        show own_G p.tables e below s _ _ _ (T1.setTop (mkF m 27 #[.val (.int p1), .val (.int p2), .val (.int (133 : Int32)), .val (.int (133 : Int32)), .val (.int (0 : Int32)), .unset, .unset, .unset] []))
        refine own_go (fun t k => XS.iloadN X1.here hx rfl (hb hby at_27) rfl k) ?_
        show own_G p.tables e below s _ _ _ (T1.setTop (mkF m 28 #[.val (.int p1), .val (.int p2), .val (.int (133 : Int32)), .val (.int (133 : Int32)), .val (.int (0 : Int32)), .unset, .unset, .unset] [(.int (133 : Int32))]))
        refine own_go (fun t k => XS.sipush X1.here hx rfl (hb hby at_28) k) ?_
        show own_G p.tables e below s _ _ _ (T1.setTop (mkF m 31 #[.val (.int p1), .val (.int p2), .val (.int (133 : Int32)), .val (.int (133 : Int32)), .val (.int (0 : Int32)), .unset, .unset, .unset] [(.int (133 : Int32)), (.int (133 : Int32))]))
        refine own_go (fun t k => XS.icmpYes X1.here hx rfl (pc0 := 31) (pc' := 41) rfl (hb hby at_31) rfl (by decide) (by decide) (by decide) k) ?_
        show own_G p.tables e below s _ _ _ (T1.setTop (mkF m 41 #[.val (.int p1), .val (.int p2), .val (.int (133 : Int32)), .val (.int (133 : Int32)), .val (.int (0 : Int32)), .unset, .unset, .unset] []))
        refine own_go (fun t k => XS.iconst X1.here hx rfl (hb hby at_41) k) ?_
        show own_G p.tables e below s _ _ _ (T1.setTop (mkF m 42 #[.val (.int p1), .val (.int p2), .val (.int (133 : Int32)), .val (.int (133 : Int32)), .val (.int (0 : Int32)), .unset, .unset, .unset] [(.int (1 : Int32))]))
        refine own_go (fun t k => XS.goto X1.here hx rfl (pc0 := 42) (pc' := 46) rfl (hb hby at_42) (by decide) (by decide) k) ?_
        show own_G p.tables e below s _ _ _ (T1.setTop (mkF m 46 #[.val (.int p1), .val (.int p2), .val (.int (133 : Int32)), .val (.int (133 : Int32)), .val (.int (0 : Int32)), .unset, .unset, .unset] [(.int (1 : Int32))]))
        refine own_go (fun t k => XS.istore X1.here hx rfl (hb hby at_46) rfl (l' := #[.val (.int p1), .val (.int p2), .val (.int (133 : Int32)), .val (.int (133 : Int32)), .val (.int (0 : Int32)), .val (.int (1 : Int32)), .unset, .unset]) rfl k) ?_
        show own_G p.tables e below s _ _ _ (T1.setTop (mkF m 48 #[.val (.int p1), .val (.int p2), .val (.int (133 : Int32)), .val (.int (133 : Int32)), .val (.int (0 : Int32)), .val (.int (1 : Int32)), .unset, .unset] []))
        refine own_go (fun t k => XS.iloadN X1.here hx rfl (hb hby at_48) rfl k) ?_
        show own_G p.tables e below s _ _ _ (T1.setTop (mkF m 49 #[.val (.int p1), .val (.int p2), .val (.int (133 : Int32)), .val (.int (133 : Int32)), .val (.int (0 : Int32)), .val (.int (1 : Int32)), .unset, .unset] [(.int (133 : Int32))]))
        refine own_go (fun t k => XS.iconst X1.here hx rfl (hb hby at_49) k) ?_
        show own_G p.tables e below s _ _ _ (T1.setTop (mkF m 50 #[.val (.int p1), .val (.int p2), .val (.int (133 : Int32)), .val (.int (133 : Int32)), .val (.int (0 : Int32)), .val (.int (1 : Int32)), .unset, .unset] [(.int (0 : Int32)), (.int (133 : Int32))]))
        obtain ⟨_, _, ⟨T6, L6, k6, n6⟩, -, X6, ⟨Lc6, hQ6, l6, y6, z6⟩, st6⟩ := Jvm.LawKit.callS X1 hx (y := (⟨"com/example/kaava/kaava/io/DocumentPosition", "endsLine", "(CZ)Z"⟩ : MethodName)) hown (mvT hZ (hw _ (List.mem_of_getElem? (i := 4) rfl))) (mvT hZ (hw _ (List.mem_of_getElem? (i := 5) rfl))) (mvT hZ (hw _ (List.mem_of_getElem? (i := 6) rfl))) (mvT hZ (hw _ (List.mem_of_getElem? (i := 7) rfl))) (by decide) (backOf (W := 0) (rm2 l Z a0 hw [] (133 : Int32) (0 : Int32) (0 : Int32) h0 n0 Z0 (by decide)) hZ (hw _ (List.mem_of_getElem? (i := 7) rfl)) (hw _ (List.mem_of_getElem? (i := 6) rfl)) (by decide) (by decide)) (g := (mkF m 50 #[.val (.int p1), .val (.int p2), .val (.int (133 : Int32)), .val (.int (133 : Int32)), .val (.int (0 : Int32)), .val (.int (1 : Int32)), .unset, .unset] [(.int (0 : Int32)), (.int (133 : Int32))])) rfl (by rw [hml]; rfl) (argsL := [(.int (133 : Int32)), (.int (0 : Int32))]) (rest := []) (lenOf pd__CZ_Z rfl) rfl (by show 2 * 0 + _ ≤ _; exact Nat.le_of_eq rfl) (hb hby at_50) (fun _ _ => ⟨rfl, hh1, (by decide : 0 + 0 ≤ _), (by decide : 0 + 0 ≤ _)⟩)
        dsimp only [Pt.U, Pt.locs, Pt.cells, Pt.slots] at X6 l6 y6 z6 st6 hQ6
        subst l6 y6 z6
        obtain ⟨rfl, N6q, hh6⟩ := hQ6
        have N6 := Fr.app N1 N6q
        refine own_go st6 ?_
        show own_G p.tables e below s _ _ _ (T6.setTop (mkF m 53 #[.val (.int p1), .val (.int p2), .val (.int (133 : Int32)), .val (.int (133 : Int32)), .val (.int (0 : Int32)), .val (.int (1 : Int32)), .unset, .unset] [(.int (0 : Int32))]))
        refine own_go (fun t k => XS.istore X6.here hx rfl (hb hby at_53) rfl (l' := #[.val (.int p1), .val (.int p2), .val (.int (133 : Int32)), .val (.int (133 : Int32)), .val (.int (0 : Int32)), .val (.int (1 : Int32)), .val (.int (0 : Int32)), .unset]) rfl k) ?_
        show own_G p.tables e below s _ _ _ (T6.setTop (mkF m 55 #[.val (.int p1), .val (.int p2), .val (.int (133 : Int32)), .val (.int (133 : Int32)), .val (.int (0 : Int32)), .val (.int (1 : Int32)), .val (.int (0 : Int32)), .unset] []))
        refine own_go (fun t k => XS.iloadN X6.here hx rfl (hb hby at_55) rfl k) ?_
        show own_G p.tables e below s _ _ _ (T6.setTop (mkF m 56 #[.val (.int p1), .val (.int p2), .val (.int (133 : Int32)), .val (.int (133 : Int32)), .val (.int (0 : Int32)), .val (.int (1 : Int32)), .val (.int (0 : Int32)), .unset] [(.int (133 : Int32))]))
        refine own_go (fun t k => XS.iconst X6.here hx rfl (hb hby at_56) k) ?_
        show own_G p.tables e below s _ _ _ (T6.setTop (mkF m 57 #[.val (.int p1), .val (.int p2), .val (.int (133 : Int32)), .val (.int (133 : Int32)), .val (.int (0 : Int32)), .val (.int (1 : Int32)), .val (.int (0 : Int32)), .unset] [(.int (1 : Int32)), (.int (133 : Int32))]))
        obtain ⟨_, _, ⟨T7, L7, k7, n7⟩, -, X7, ⟨Lc7, hQ7, l7, y7, z7⟩, st7⟩ := Jvm.LawKit.callS X6 hx (y := (⟨"com/example/kaava/kaava/io/DocumentPosition", "endsLine", "(CZ)Z"⟩ : MethodName)) hown (mvT hZ (hw _ (List.mem_of_getElem? (i := 4) rfl))) (mvT hZ (hw _ (List.mem_of_getElem? (i := 5) rfl))) (mvT hZ (hw _ (List.mem_of_getElem? (i := 6) rfl))) (mvT hZ (hw _ (List.mem_of_getElem? (i := 7) rfl))) (by decide) (backOf (W := 0) (rm2 l Z a0 hw [] (133 : Int32) (1 : Int32) (1 : Int32) h0 n0 Z0 (by decide)) hZ (hw _ (List.mem_of_getElem? (i := 7) rfl)) (hw _ (List.mem_of_getElem? (i := 6) rfl)) (by decide) (by decide)) (g := (mkF m 57 #[.val (.int p1), .val (.int p2), .val (.int (133 : Int32)), .val (.int (133 : Int32)), .val (.int (0 : Int32)), .val (.int (1 : Int32)), .val (.int (0 : Int32)), .unset] [(.int (1 : Int32)), (.int (133 : Int32))])) rfl (by rw [hml]; rfl) (argsL := [(.int (133 : Int32)), (.int (1 : Int32))]) (rest := []) (lenOf pd__CZ_Z rfl) rfl (by show 2 * 0 + _ ≤ _; exact Nat.le_of_eq rfl) (hb hby at_57) (fun _ _ => ⟨rfl, hh6, (by decide : 0 + 0 ≤ _), (by decide : 0 + 0 ≤ _)⟩)
        dsimp only [Pt.U, Pt.locs, Pt.cells, Pt.slots] at X7 l7 y7 z7 st7 hQ7
        subst l7 y7 z7
        obtain ⟨rfl, N7q, hh7⟩ := hQ7
        have N7 := Fr.app N6 N7q
        refine own_go st7 ?_
        show own_G p.tables e below s _ _ _ (T7.setTop (mkF m 60 #[.val (.int p1), .val (.int p2), .val (.int (133 : Int32)), .val (.int (133 : Int32)), .val (.int (0 : Int32)), .val (.int (1 : Int32)), .val (.int (0 : Int32)), .unset] [(.int (1 : Int32))]))
        refine own_go (fun t k => XS.istore X7.here hx rfl (hb hby at_60) rfl (l' := #[.val (.int p1), .val (.int p2), .val (.int (133 : Int32)), .val (.int (133 : Int32)), .val (.int (0 : Int32)), .val (.int (1 : Int32)), .val (.int (0 : Int32)), .val (.int (1 : Int32))]) rfl k) ?_
        show own_G p.tables e below s _ _ _ (T7.setTop (mkF m 62 #[.val (.int p1), .val (.int p2), .val (.int (133 : Int32)), .val (.int (133 : Int32)), .val (.int (0 : Int32)), .val (.int (1 : Int32)), .val (.int (0 : Int32)), .val (.int (1 : Int32))] []))
        refine own_go (fun t k => XS.iload X7.here hx rfl (hb hby at_62) rfl k) ?_
        show own_G p.tables e below s _ _ _ (T7.setTop (mkF m 64 #[.val (.int p1), .val (.int p2), .val (.int (133 : Int32)), .val (.int (133 : Int32)), .val (.int (0 : Int32)), .val (.int (1 : Int32)), .val (.int (0 : Int32)), .val (.int (1 : Int32))] [(.int (0 : Int32))]))
        refine own_go (fun t k => XS.iload X7.here hx rfl (hb hby at_64) rfl k) ?_
        show own_G p.tables e below s _ _ _ (T7.setTop (mkF m 66 #[.val (.int p1), .val (.int p2), .val (.int (133 : Int32)), .val (.int (133 : Int32)), .val (.int (0 : Int32)), .val (.int (1 : Int32)), .val (.int (0 : Int32)), .val (.int (1 : Int32))] [(.int (0 : Int32)), (.int (0 : Int32))]))
        refine own_go (fun t k => XS.icmpNo X7.here hx rfl (hb hby at_66) rfl (by decide) k) ?_
        show own_G p.tables e below s _ _ _ (T7.setTop (mkF m 69 #[.val (.int p1), .val (.int p2), .val (.int (133 : Int32)), .val (.int (133 : Int32)), .val (.int (0 : Int32)), .val (.int (1 : Int32)), .val (.int (0 : Int32)), .val (.int (1 : Int32))] []))
        refine own_go (fun t k => XS.iload X7.here hx rfl (hb hby at_69) rfl k) ?_
        show own_G p.tables e below s _ _ _ (T7.setTop (mkF m 71 #[.val (.int p1), .val (.int p2), .val (.int (133 : Int32)), .val (.int (133 : Int32)), .val (.int (0 : Int32)), .val (.int (1 : Int32)), .val (.int (0 : Int32)), .val (.int (1 : Int32))] [(.int (1 : Int32))]))
        refine own_go (fun t k => XS.iload X7.here hx rfl (hb hby at_71) rfl k) ?_
        show own_G p.tables e below s _ _ _ (T7.setTop (mkF m 73 #[.val (.int p1), .val (.int p2), .val (.int (133 : Int32)), .val (.int (133 : Int32)), .val (.int (0 : Int32)), .val (.int (1 : Int32)), .val (.int (0 : Int32)), .val (.int (1 : Int32))] [(.int (0 : Int32)), (.int (1 : Int32))]))
        refine own_go (fun t k => XS.ifNo X7.here hx rfl (hb hby at_73) rfl (by decide) k) ?_
        show own_G p.tables e below s _ _ _ (T7.setTop (mkF m 76 #[.val (.int p1), .val (.int p2), .val (.int (133 : Int32)), .val (.int (133 : Int32)), .val (.int (0 : Int32)), .val (.int (1 : Int32)), .val (.int (0 : Int32)), .val (.int (1 : Int32))] [(.int (1 : Int32))]))
        refine own_go (fun t k => XS.iload X7.here hx rfl (hb hby at_76) rfl k) ?_
        show own_G p.tables e below s _ _ _ (T7.setTop (mkF m 78 #[.val (.int p1), .val (.int p2), .val (.int (133 : Int32)), .val (.int (133 : Int32)), .val (.int (0 : Int32)), .val (.int (1 : Int32)), .val (.int (0 : Int32)), .val (.int (1 : Int32))] [(.int (1 : Int32)), (.int (1 : Int32))]))
        refine own_go (fun t k => XS.ifNo X7.here hx rfl (hb hby at_78) rfl (by decide) k) ?_
        show own_G p.tables e below s _ _ _ (T7.setTop (mkF m 81 #[.val (.int p1), .val (.int p2), .val (.int (133 : Int32)), .val (.int (133 : Int32)), .val (.int (0 : Int32)), .val (.int (1 : Int32)), .val (.int (0 : Int32)), .val (.int (1 : Int32))] [(.int (1 : Int32))]))
        refine own_go (fun t k => XS.iconst X7.here hx rfl (hb hby at_81) k) ?_
        show own_G p.tables e below s _ _ _ (T7.setTop (mkF m 82 #[.val (.int p1), .val (.int p2), .val (.int (133 : Int32)), .val (.int (133 : Int32)), .val (.int (0 : Int32)), .val (.int (1 : Int32)), .val (.int (0 : Int32)), .val (.int (1 : Int32))] [(.int (1 : Int32)), (.int (1 : Int32))]))
        refine own_go (fun t k => XS.goto X7.here hx rfl (pc0 := 82) (pc' := 86) rfl (hb hby at_82) (by decide) (by decide) k) ?_
        show own_G p.tables e below s _ _ _ (T7.setTop (mkF m 86 #[.val (.int p1), .val (.int p2), .val (.int (133 : Int32)), .val (.int (133 : Int32)), .val (.int (0 : Int32)), .val (.int (1 : Int32)), .val (.int (0 : Int32)), .val (.int (1 : Int32))] [(.int (1 : Int32)), (.int (1 : Int32))]))
        refine own_go (fun t k => XS.icmpNo X7.here hx rfl (hb hby at_86) rfl (by decide) k) ?_
        show own_G p.tables e below s _ _ _ (T7.setTop (mkF m 89 #[.val (.int p1), .val (.int p2), .val (.int (133 : Int32)), .val (.int (133 : Int32)), .val (.int (0 : Int32)), .val (.int (1 : Int32)), .val (.int (0 : Int32)), .val (.int (1 : Int32))] []))
        refine own_go (fun t k => XS.iload X7.here hx rfl (hb hby at_89) rfl k) ?_
        show own_G p.tables e below s _ _ _ (T7.setTop (mkF m 91 #[.val (.int p1), .val (.int p2), .val (.int (133 : Int32)), .val (.int (133 : Int32)), .val (.int (0 : Int32)), .val (.int (1 : Int32)), .val (.int (0 : Int32)), .val (.int (1 : Int32))] [(.int (0 : Int32))]))
        refine own_go (fun t k => XS.ifYes X7.here hx rfl (pc0 := 91) (pc' := 99) rfl (hb hby at_91) rfl (by decide) (by decide) (by decide) k) ?_
        show own_G p.tables e below s _ _ _ (T7.setTop (mkF m 99 #[.val (.int p1), .val (.int p2), .val (.int (133 : Int32)), .val (.int (133 : Int32)), .val (.int (0 : Int32)), .val (.int (1 : Int32)), .val (.int (0 : Int32)), .val (.int (1 : Int32))] []))
        refine own_go (fun t k => XS.iconst X7.here hx rfl (hb hby at_99) k) ?_
        show own_G p.tables e below s _ _ _ (T7.setTop (mkF m 100 #[.val (.int p1), .val (.int p2), .val (.int (133 : Int32)), .val (.int (133 : Int32)), .val (.int (0 : Int32)), .val (.int (1 : Int32)), .val (.int (0 : Int32)), .val (.int (1 : Int32))] [(.int (1 : Int32))]))
        refine own_go (fun t k => XS.goto X7.here hx rfl (pc0 := 100) (pc' := 104) rfl (hb hby at_100) (by decide) (by decide) k) ?_
        show own_G p.tables e below s _ _ _ (T7.setTop (mkF m 104 #[.val (.int p1), .val (.int p2), .val (.int (133 : Int32)), .val (.int (133 : Int32)), .val (.int (0 : Int32)), .val (.int (1 : Int32)), .val (.int (0 : Int32)), .val (.int (1 : Int32))] [(.int (1 : Int32))]))
        exact own_retN X7 hx hlk (t := .boolean) (z' := (1 : Int32)) Bd.returns (by simp) (hb hby at_104) (rfl) (by rw [hh7]; exact ⟨rfl, N7⟩) (by decide) (by decide)
      · show own_G p.tables e below s _ _ _ (T1.setTop (mkF m 5 #[.val (.int p1), .val (.int p2), .unset, .unset, .unset, .unset, .unset, .unset] [(.int c1)]))
        by_cases h8232 : c1 = (8232 : Int32)
        · subst h8232
          show own_G p.tables e below s _ _ _ (T1.setTop (mkF m 5 #[.val (.int p1), .val (.int p2), .unset, .unset, .unset, .unset, .unset, .unset] [(.int (8232 : Int32))]))
          refine own_go (fun t k => XS.istoreN X1.here hx rfl (hb hby at_5) rfl (l' := #[.val (.int p1), .val (.int p2), .val (.int (8232 : Int32)), .unset, .unset, .unset, .unset, .unset]) rfl k) ?_
          show own_G p.tables e below s _ _ _ (T1.setTop (mkF m 6 #[.val (.int p1), .val (.int p2), .val (.int (8232 : Int32)), .unset, .unset, .unset, .unset, .unset] []))
          refine own_go (fun t k => XS.iloadN X1.here hx rfl (hb hby at_6) rfl k) ?_
          show own_G p.tables e below s _ _ _ (T1.setTop (mkF m 7 #[.val (.int p1), .val (.int p2), .val (.int (8232 : Int32)), .unset, .unset, .unset, .unset, .unset] [(.int (8232 : Int32))]))
          refine own_go (fun t k => XS.istoreN X1.here hx rfl (hb hby at_7) rfl (l' := #[.val (.int p1), .val (.int p2), .val (.int (8232 : Int32)), .val (.int (8232 : Int32)), .unset, .unset, .unset, .unset]) rfl k) ?_
          show own_G p.tables e below s _ _ _ (T1.setTop (mkF m 8 #[.val (.int p1), .val (.int p2), .val (.int (8232 : Int32)), .val (.int (8232 : Int32)), .unset, .unset, .unset, .unset] []))
          refine own_go (fun t k => XS.iloadN X1.here hx rfl (hb hby at_8) rfl k) ?_
          show own_G p.tables e below s _ _ _ (T1.setTop (mkF m 9 #[.val (.int p1), .val (.int p2), .val (.int (8232 : Int32)), .val (.int (8232 : Int32)), .unset, .unset, .unset, .unset] [(.int (8232 : Int32))]))
          refine own_go (fun t k => XS.bipush X1.here hx rfl (hb hby at_9) k) ?_
          show own_G p.tables e below s _ _ _ (T1.setTop (mkF m 11 #[.val (.int p1), .val (.int p2), .val (.int (8232 : Int32)), .val (.int (8232 : Int32)), .unset, .unset, .unset, .unset] [(.int (10 : Int32)), (.int (8232 : Int32))]))
          refine own_go (fun t k => XS.icmpNo X1.here hx rfl (hb hby at_11) rfl (by decide) k) ?_
          show own_G p.tables e below s _ _ _ (T1.setTop (mkF m 14 #[.val (.int p1), .val (.int p2), .val (.int (8232 : Int32)), .val (.int (8232 : Int32)), .unset, .unset, .unset, .unset] []))
          refine own_go (fun t k => XS.iloadN X1.here hx rfl (hb hby at_14) rfl k) ?_
          show own_G p.tables e below s _ _ _ (T1.setTop (mkF m 15 #[.val (.int p1), .val (.int p2), .val (.int (8232 : Int32)), .val (.int (8232 : Int32)), .unset, .unset, .unset, .unset] [(.int (8232 : Int32))]))
          refine own_go (fun t k => XS.bipush X1.here hx rfl (hb hby at_15) k) ?_
          show own_G p.tables e below s _ _ _ (T1.setTop (mkF m 17 #[.val (.int p1), .val (.int p2), .val (.int (8232 : Int32)), .val (.int (8232 : Int32)), .unset, .unset, .unset, .unset] [(.int (13 : Int32)), (.int (8232 : Int32))]))
          refine own_go (fun t k => XS.icmpYes X1.here hx rfl (pc0 := 17) (pc' := 24) rfl (hb hby at_17) rfl (by decide) (by decide) (by decide) k) ?_
          show own_G p.tables e below s _ _ _ (T1.setTop (mkF m 24 #[.val (.int p1), .val (.int p2), .val (.int (8232 : Int32)), .val (.int (8232 : Int32)), .unset, .unset, .unset, .unset] []))
          refine own_go (fun t k => XS.iconst X1.here hx rfl (hb hby at_24) k) ?_
          show own_G p.tables e below s _ _ _ (T1.setTop (mkF m 25 #[.val (.int p1), .val (.int p2), .val (.int (8232 : Int32)), .val (.int (8232 : Int32)), .unset, .unset, .unset, .unset] [(.int (0 : Int32))]))
          refine own_go (fun t k => XS.istore X1.here hx rfl (hb hby at_25) rfl (l' := #[.val (.int p1), .val (.int p2), .val (.int (8232 : Int32)), .val (.int (8232 : Int32)), .val (.int (0 : Int32)), .unset, .unset, .unset]) rfl k) ?_
          show own_G p.tables e below s _ _ _ (T1.setTop (mkF m 27 #[.val (.int p1), .val (.int p2), .val (.int (8232 : Int32)), .val (.int (8232 : Int32)), .val (.int (0 : Int32)), .unset, .unset, .unset] []))
          refine own_go (fun t k => XS.iloadN X1.here hx rfl (hb hby at_27) rfl k) ?_
          show own_G p.tables e below s _ _ _ (T1.setTop (mkF m 28 #[.val (.int p1), .val (.int p2), .val (.int (8232 : Int32)), .val (.int (8232 : Int32)), .val (.int (0 : Int32)), .unset, .unset, .unset] [(.int (8232 : Int32))]))
          refine own_go (fun t k => XS.sipush X1.here hx rfl (hb hby at_28) k) ?_
          show own_G p.tables e below s _ _ _ (T1.setTop (mkF m 31 #[.val (.int p1), .val (.int p2), .val (.int (8232 : Int32)), .val (.int (8232 : Int32)), .val (.int (0 : Int32)), .unset, .unset, .unset] [(.int (133 : Int32)), (.int (8232 : Int32))]))
          refine own_go (fun t k => XS.icmpNo X1.here hx rfl (hb hby at_31) rfl (by decide) k) ?_
          show own_G p.tables e below s _ _ _ (T1.setTop (mkF m 34 #[.val (.int p1), .val (.int p2), .val (.int (8232 : Int32)), .val (.int (8232 : Int32)), .val (.int (0 : Int32)), .unset, .unset, .unset] []))
          refine own_go (fun t k => XS.iloadN X1.here hx rfl (hb hby at_34) rfl k) ?_
          show own_G p.tables e below s _ _ _ (T1.setTop (mkF m 35 #[.val (.int p1), .val (.int p2), .val (.int (8232 : Int32)), .val (.int (8232 : Int32)), .val (.int (0 : Int32)), .unset, .unset, .unset] [(.int (8232 : Int32))]))
          refine own_go (fun t k => XS.sipush X1.here hx rfl (hb hby at_35) k) ?_
          show own_G p.tables e below s _ _ _ (T1.setTop (mkF m 38 #[.val (.int p1), .val (.int p2), .val (.int (8232 : Int32)), .val (.int (8232 : Int32)), .val (.int (0 : Int32)), .unset, .unset, .unset] [(.int (8232 : Int32)), (.int (8232 : Int32))]))
          refine own_go (fun t k => XS.icmpNo X1.here hx rfl (hb hby at_38) rfl (by decide) k) ?_
          show own_G p.tables e below s _ _ _ (T1.setTop (mkF m 41 #[.val (.int p1), .val (.int p2), .val (.int (8232 : Int32)), .val (.int (8232 : Int32)), .val (.int (0 : Int32)), .unset, .unset, .unset] []))
          refine own_go (fun t k => XS.iconst X1.here hx rfl (hb hby at_41) k) ?_
          show own_G p.tables e below s _ _ _ (T1.setTop (mkF m 42 #[.val (.int p1), .val (.int p2), .val (.int (8232 : Int32)), .val (.int (8232 : Int32)), .val (.int (0 : Int32)), .unset, .unset, .unset] [(.int (1 : Int32))]))
          refine own_go (fun t k => XS.goto X1.here hx rfl (pc0 := 42) (pc' := 46) rfl (hb hby at_42) (by decide) (by decide) k) ?_
          show own_G p.tables e below s _ _ _ (T1.setTop (mkF m 46 #[.val (.int p1), .val (.int p2), .val (.int (8232 : Int32)), .val (.int (8232 : Int32)), .val (.int (0 : Int32)), .unset, .unset, .unset] [(.int (1 : Int32))]))
          refine own_go (fun t k => XS.istore X1.here hx rfl (hb hby at_46) rfl (l' := #[.val (.int p1), .val (.int p2), .val (.int (8232 : Int32)), .val (.int (8232 : Int32)), .val (.int (0 : Int32)), .val (.int (1 : Int32)), .unset, .unset]) rfl k) ?_
          show own_G p.tables e below s _ _ _ (T1.setTop (mkF m 48 #[.val (.int p1), .val (.int p2), .val (.int (8232 : Int32)), .val (.int (8232 : Int32)), .val (.int (0 : Int32)), .val (.int (1 : Int32)), .unset, .unset] []))
          refine own_go (fun t k => XS.iloadN X1.here hx rfl (hb hby at_48) rfl k) ?_
          show own_G p.tables e below s _ _ _ (T1.setTop (mkF m 49 #[.val (.int p1), .val (.int p2), .val (.int (8232 : Int32)), .val (.int (8232 : Int32)), .val (.int (0 : Int32)), .val (.int (1 : Int32)), .unset, .unset] [(.int (8232 : Int32))]))
          refine own_go (fun t k => XS.iconst X1.here hx rfl (hb hby at_49) k) ?_
          show own_G p.tables e below s _ _ _ (T1.setTop (mkF m 50 #[.val (.int p1), .val (.int p2), .val (.int (8232 : Int32)), .val (.int (8232 : Int32)), .val (.int (0 : Int32)), .val (.int (1 : Int32)), .unset, .unset] [(.int (0 : Int32)), (.int (8232 : Int32))]))
          obtain ⟨_, _, ⟨T8, L8, k8, n8⟩, -, X8, ⟨Lc8, hQ8, l8, y8, z8⟩, st8⟩ := Jvm.LawKit.callS X1 hx (y := (⟨"com/example/kaava/kaava/io/DocumentPosition", "endsLine", "(CZ)Z"⟩ : MethodName)) hown (mvT hZ (hw _ (List.mem_of_getElem? (i := 4) rfl))) (mvT hZ (hw _ (List.mem_of_getElem? (i := 5) rfl))) (mvT hZ (hw _ (List.mem_of_getElem? (i := 6) rfl))) (mvT hZ (hw _ (List.mem_of_getElem? (i := 7) rfl))) (by decide) (backOf (W := 0) (rm2 l Z a0 hw [] (8232 : Int32) (0 : Int32) (0 : Int32) h0 n0 Z0 (by decide)) hZ (hw _ (List.mem_of_getElem? (i := 7) rfl)) (hw _ (List.mem_of_getElem? (i := 6) rfl)) (by decide) (by decide)) (g := (mkF m 50 #[.val (.int p1), .val (.int p2), .val (.int (8232 : Int32)), .val (.int (8232 : Int32)), .val (.int (0 : Int32)), .val (.int (1 : Int32)), .unset, .unset] [(.int (0 : Int32)), (.int (8232 : Int32))])) rfl (by rw [hml]; rfl) (argsL := [(.int (8232 : Int32)), (.int (0 : Int32))]) (rest := []) (lenOf pd__CZ_Z rfl) rfl (by show 2 * 0 + _ ≤ _; exact Nat.le_of_eq rfl) (hb hby at_50) (fun _ _ => ⟨rfl, hh1, (by decide : 0 + 0 ≤ _), (by decide : 0 + 0 ≤ _)⟩)
          dsimp only [Pt.U, Pt.locs, Pt.cells, Pt.slots] at X8 l8 y8 z8 st8 hQ8
          subst l8 y8 z8
          obtain ⟨rfl, N8q, hh8⟩ := hQ8
          have N8 := Fr.app N1 N8q
          refine own_go st8 ?_
          show own_G p.tables e below s _ _ _ (T8.setTop (mkF m 53 #[.val (.int p1), .val (.int p2), .val (.int (8232 : Int32)), .val (.int (8232 : Int32)), .val (.int (0 : Int32)), .val (.int (1 : Int32)), .unset, .unset] [(.int (0 : Int32))]))
          refine own_go (fun t k => XS.istore X8.here hx rfl (hb hby at_53) rfl (l' := #[.val (.int p1), .val (.int p2), .val (.int (8232 : Int32)), .val (.int (8232 : Int32)), .val (.int (0 : Int32)), .val (.int (1 : Int32)), .val (.int (0 : Int32)), .unset]) rfl k) ?_
          show own_G p.tables e below s _ _ _ (T8.setTop (mkF m 55 #[.val (.int p1), .val (.int p2), .val (.int (8232 : Int32)), .val (.int (8232 : Int32)), .val (.int (0 : Int32)), .val (.int (1 : Int32)), .val (.int (0 : Int32)), .unset] []))
          refine own_go (fun t k => XS.iloadN X8.here hx rfl (hb hby at_55) rfl k) ?_
          show own_G p.tables e below s _ _ _ (T8.setTop (mkF m 56 #[.val (.int p1), .val (.int p2), .val (.int (8232 : Int32)), .val (.int (8232 : Int32)), .val (.int (0 : Int32)), .val (.int (1 : Int32)), .val (.int (0 : Int32)), .unset] [(.int (8232 : Int32))]))
          refine own_go (fun t k => XS.iconst X8.here hx rfl (hb hby at_56) k) ?_
          show own_G p.tables e below s _ _ _ (T8.setTop (mkF m 57 #[.val (.int p1), .val (.int p2), .val (.int (8232 : Int32)), .val (.int (8232 : Int32)), .val (.int (0 : Int32)), .val (.int (1 : Int32)), .val (.int (0 : Int32)), .unset] [(.int (1 : Int32)), (.int (8232 : Int32))]))
          obtain ⟨_, _, ⟨T9, L9, k9, n9⟩, -, X9, ⟨Lc9, hQ9, l9, y9, z9⟩, st9⟩ := Jvm.LawKit.callS X8 hx (y := (⟨"com/example/kaava/kaava/io/DocumentPosition", "endsLine", "(CZ)Z"⟩ : MethodName)) hown (mvT hZ (hw _ (List.mem_of_getElem? (i := 4) rfl))) (mvT hZ (hw _ (List.mem_of_getElem? (i := 5) rfl))) (mvT hZ (hw _ (List.mem_of_getElem? (i := 6) rfl))) (mvT hZ (hw _ (List.mem_of_getElem? (i := 7) rfl))) (by decide) (backOf (W := 0) (rm2 l Z a0 hw [] (8232 : Int32) (1 : Int32) (1 : Int32) h0 n0 Z0 (by decide)) hZ (hw _ (List.mem_of_getElem? (i := 7) rfl)) (hw _ (List.mem_of_getElem? (i := 6) rfl)) (by decide) (by decide)) (g := (mkF m 57 #[.val (.int p1), .val (.int p2), .val (.int (8232 : Int32)), .val (.int (8232 : Int32)), .val (.int (0 : Int32)), .val (.int (1 : Int32)), .val (.int (0 : Int32)), .unset] [(.int (1 : Int32)), (.int (8232 : Int32))])) rfl (by rw [hml]; rfl) (argsL := [(.int (8232 : Int32)), (.int (1 : Int32))]) (rest := []) (lenOf pd__CZ_Z rfl) rfl (by show 2 * 0 + _ ≤ _; exact Nat.le_of_eq rfl) (hb hby at_57) (fun _ _ => ⟨rfl, hh8, (by decide : 0 + 0 ≤ _), (by decide : 0 + 0 ≤ _)⟩)
          dsimp only [Pt.U, Pt.locs, Pt.cells, Pt.slots] at X9 l9 y9 z9 st9 hQ9
          subst l9 y9 z9
          obtain ⟨rfl, N9q, hh9⟩ := hQ9
          have N9 := Fr.app N8 N9q
          refine own_go st9 ?_
          show own_G p.tables e below s _ _ _ (T9.setTop (mkF m 60 #[.val (.int p1), .val (.int p2), .val (.int (8232 : Int32)), .val (.int (8232 : Int32)), .val (.int (0 : Int32)), .val (.int (1 : Int32)), .val (.int (0 : Int32)), .unset] [(.int (1 : Int32))]))
          refine own_go (fun t k => XS.istore X9.here hx rfl (hb hby at_60) rfl (l' := #[.val (.int p1), .val (.int p2), .val (.int (8232 : Int32)), .val (.int (8232 : Int32)), .val (.int (0 : Int32)), .val (.int (1 : Int32)), .val (.int (0 : Int32)), .val (.int (1 : Int32))]) rfl k) ?_
          show own_G p.tables e below s _ _ _ (T9.setTop (mkF m 62 #[.val (.int p1), .val (.int p2), .val (.int (8232 : Int32)), .val (.int (8232 : Int32)), .val (.int (0 : Int32)), .val (.int (1 : Int32)), .val (.int (0 : Int32)), .val (.int (1 : Int32))] []))
          refine own_go (fun t k => XS.iload X9.here hx rfl (hb hby at_62) rfl k) ?_
          show own_G p.tables e below s _ _ _ (T9.setTop (mkF m 64 #[.val (.int p1), .val (.int p2), .val (.int (8232 : Int32)), .val (.int (8232 : Int32)), .val (.int (0 : Int32)), .val (.int (1 : Int32)), .val (.int (0 : Int32)), .val (.int (1 : Int32))] [(.int (0 : Int32))]))
          refine own_go (fun t k => XS.iload X9.here hx rfl (hb hby at_64) rfl k) ?_
          show own_G p.tables e below s _ _ _ (T9.setTop (mkF m 66 #[.val (.int p1), .val (.int p2), .val (.int (8232 : Int32)), .val (.int (8232 : Int32)), .val (.int (0 : Int32)), .val (.int (1 : Int32)), .val (.int (0 : Int32)), .val (.int (1 : Int32))] [(.int (0 : Int32)), (.int (0 : Int32))]))
          refine own_go (fun t k => XS.icmpNo X9.here hx rfl (hb hby at_66) rfl (by decide) k) ?_
          show own_G p.tables e below s _ _ _ (T9.setTop (mkF m 69 #[.val (.int p1), .val (.int p2), .val (.int (8232 : Int32)), .val (.int (8232 : Int32)), .val (.int (0 : Int32)), .val (.int (1 : Int32)), .val (.int (0 : Int32)), .val (.int (1 : Int32))] []))
          refine own_go (fun t k => XS.iload X9.here hx rfl (hb hby at_69) rfl k) ?_
          show own_G p.tables e below s _ _ _ (T9.setTop (mkF m 71 #[.val (.int p1), .val (.int p2), .val (.int (8232 : Int32)), .val (.int (8232 : Int32)), .val (.int (0 : Int32)), .val (.int (1 : Int32)), .val (.int (0 : Int32)), .val (.int (1 : Int32))] [(.int (1 : Int32))]))
          refine own_go (fun t k => XS.iload X9.here hx rfl (hb hby at_71) rfl k) ?_
          show own_G p.tables e below s _ _ _ (T9.setTop (mkF m 73 #[.val (.int p1), .val (.int p2), .val (.int (8232 : Int32)), .val (.int (8232 : Int32)), .val (.int (0 : Int32)), .val (.int (1 : Int32)), .val (.int (0 : Int32)), .val (.int (1 : Int32))] [(.int (0 : Int32)), (.int (1 : Int32))]))
          refine own_go (fun t k => XS.ifNo X9.here hx rfl (hb hby at_73) rfl (by decide) k) ?_
          show own_G p.tables e below s _ _ _ (T9.setTop (mkF m 76 #[.val (.int p1), .val (.int p2), .val (.int (8232 : Int32)), .val (.int (8232 : Int32)), .val (.int (0 : Int32)), .val (.int (1 : Int32)), .val (.int (0 : Int32)), .val (.int (1 : Int32))] [(.int (1 : Int32))]))
          refine own_go (fun t k => XS.iload X9.here hx rfl (hb hby at_76) rfl k) ?_
          show own_G p.tables e below s _ _ _ (T9.setTop (mkF m 78 #[.val (.int p1), .val (.int p2), .val (.int (8232 : Int32)), .val (.int (8232 : Int32)), .val (.int (0 : Int32)), .val (.int (1 : Int32)), .val (.int (0 : Int32)), .val (.int (1 : Int32))] [(.int (1 : Int32)), (.int (1 : Int32))]))
          refine own_go (fun t k => XS.ifNo X9.here hx rfl (hb hby at_78) rfl (by decide) k) ?_
          show own_G p.tables e below s _ _ _ (T9.setTop (mkF m 81 #[.val (.int p1), .val (.int p2), .val (.int (8232 : Int32)), .val (.int (8232 : Int32)), .val (.int (0 : Int32)), .val (.int (1 : Int32)), .val (.int (0 : Int32)), .val (.int (1 : Int32))] [(.int (1 : Int32))]))
          refine own_go (fun t k => XS.iconst X9.here hx rfl (hb hby at_81) k) ?_
          show own_G p.tables e below s _ _ _ (T9.setTop (mkF m 82 #[.val (.int p1), .val (.int p2), .val (.int (8232 : Int32)), .val (.int (8232 : Int32)), .val (.int (0 : Int32)), .val (.int (1 : Int32)), .val (.int (0 : Int32)), .val (.int (1 : Int32))] [(.int (1 : Int32)), (.int (1 : Int32))]))
          refine own_go (fun t k => XS.goto X9.here hx rfl (pc0 := 82) (pc' := 86) rfl (hb hby at_82) (by decide) (by decide) k) ?_
          show own_G p.tables e below s _ _ _ (T9.setTop (mkF m 86 #[.val (.int p1), .val (.int p2), .val (.int (8232 : Int32)), .val (.int (8232 : Int32)), .val (.int (0 : Int32)), .val (.int (1 : Int32)), .val (.int (0 : Int32)), .val (.int (1 : Int32))] [(.int (1 : Int32)), (.int (1 : Int32))]))
          refine own_go (fun t k => XS.icmpNo X9.here hx rfl (hb hby at_86) rfl (by decide) k) ?_
          show own_G p.tables e below s _ _ _ (T9.setTop (mkF m 89 #[.val (.int p1), .val (.int p2), .val (.int (8232 : Int32)), .val (.int (8232 : Int32)), .val (.int (0 : Int32)), .val (.int (1 : Int32)), .val (.int (0 : Int32)), .val (.int (1 : Int32))] []))
          refine own_go (fun t k => XS.iload X9.here hx rfl (hb hby at_89) rfl k) ?_
          show own_G p.tables e below s _ _ _ (T9.setTop (mkF m 91 #[.val (.int p1), .val (.int p2), .val (.int (8232 : Int32)), .val (.int (8232 : Int32)), .val (.int (0 : Int32)), .val (.int (1 : Int32)), .val (.int (0 : Int32)), .val (.int (1 : Int32))] [(.int (0 : Int32))]))
          refine own_go (fun t k => XS.ifYes X9.here hx rfl (pc0 := 91) (pc' := 99) rfl (hb hby at_91) rfl (by decide) (by decide) (by decide) k) ?_
          show own_G p.tables e below s _ _ _ (T9.setTop (mkF m 99 #[.val (.int p1), .val (.int p2), .val (.int (8232 : Int32)), .val (.int (8232 : Int32)), .val (.int (0 : Int32)), .val (.int (1 : Int32)), .val (.int (0 : Int32)), .val (.int (1 : Int32))] []))
          refine own_go (fun t k => XS.iconst X9.here hx rfl (hb hby at_99) k) ?_
          show own_G p.tables e below s _ _ _ (T9.setTop (mkF m 100 #[.val (.int p1), .val (.int p2), .val (.int (8232 : Int32)), .val (.int (8232 : Int32)), .val (.int (0 : Int32)), .val (.int (1 : Int32)), .val (.int (0 : Int32)), .val (.int (1 : Int32))] [(.int (1 : Int32))]))
          refine own_go (fun t k => XS.goto X9.here hx rfl (pc0 := 100) (pc' := 104) rfl (hb hby at_100) (by decide) (by decide) k) ?_
          show own_G p.tables e below s _ _ _ (T9.setTop (mkF m 104 #[.val (.int p1), .val (.int p2), .val (.int (8232 : Int32)), .val (.int (8232 : Int32)), .val (.int (0 : Int32)), .val (.int (1 : Int32)), .val (.int (0 : Int32)), .val (.int (1 : Int32))] [(.int (1 : Int32))]))
          exact own_retN X9 hx hlk (t := .boolean) (z' := (1 : Int32)) Bd.returns (by simp) (hb hby at_104) (rfl) (by rw [hh9]; exact ⟨rfl, N9⟩) (by decide) (by decide)
        · show own_G p.tables e below s _ _ _ (T1.setTop (mkF m 5 #[.val (.int p1), .val (.int p2), .unset, .unset, .unset, .unset, .unset, .unset] [(.int c1)]))
          refine own_go (fun t k => XS.istoreN X1.here hx rfl (hb hby at_5) rfl (l' := #[.val (.int p1), .val (.int p2), .val (.int c1), .unset, .unset, .unset, .unset, .unset]) rfl k) ?_
          show own_G p.tables e below s _ _ _ (T1.setTop (mkF m 6 #[.val (.int p1), .val (.int p2), .val (.int c1), .unset, .unset, .unset, .unset, .unset] []))
          refine own_go (fun t k => XS.iloadN X1.here hx rfl (hb hby at_6) rfl k) ?_
          show own_G p.tables e below s _ _ _ (T1.setTop (mkF m 7 #[.val (.int p1), .val (.int p2), .val (.int c1), .unset, .unset, .unset, .unset, .unset] [(.int c1)]))
          refine own_go (fun t k => XS.istoreN X1.here hx rfl (hb hby at_7) rfl (l' := #[.val (.int p1), .val (.int p2), .val (.int c1), .val (.int c1), .unset, .unset, .unset, .unset]) rfl k) ?_
          show own_G p.tables e below s _ _ _ (T1.setTop (mkF m 8 #[.val (.int p1), .val (.int p2), .val (.int c1), .val (.int c1), .unset, .unset, .unset, .unset] []))
          refine own_go (fun t k => XS.iloadN X1.here hx rfl (hb hby at_8) rfl k) ?_
          show own_G p.tables e below s _ _ _ (T1.setTop (mkF m 9 #[.val (.int p1), .val (.int p2), .val (.int c1), .val (.int c1), .unset, .unset, .unset, .unset] [(.int c1)]))
          refine own_go (fun t k => XS.bipush X1.here hx rfl (hb hby at_9) k) ?_
          show own_G p.tables e below s _ _ _ (T1.setTop (mkF m 11 #[.val (.int p1), .val (.int p2), .val (.int c1), .val (.int c1), .unset, .unset, .unset, .unset] [(.int (10 : Int32)), (.int c1)]))
          refine own_go (fun t k => XS.icmpNo X1.here hx rfl (hb hby at_11) rfl (Jvm.Free.XT.ii_eq_f h10) k) ?_
          show own_G p.tables e below s _ _ _ (T1.setTop (mkF m 14 #[.val (.int p1), .val (.int p2), .val (.int c1), .val (.int c1), .unset, .unset, .unset, .unset] []))
          refine own_go (fun t k => XS.iloadN X1.here hx rfl (hb hby at_14) rfl k) ?_
          show own_G p.tables e below s _ _ _ (T1.setTop (mkF m 15 #[.val (.int p1), .val (.int p2), .val (.int c1), .val (.int c1), .unset, .unset, .unset, .unset] [(.int c1)]))
          refine own_go (fun t k => XS.bipush X1.here hx rfl (hb hby at_15) k) ?_
          show own_G p.tables e below s _ _ _ (T1.setTop (mkF m 17 #[.val (.int p1), .val (.int p2), .val (.int c1), .val (.int c1), .unset, .unset, .unset, .unset] [(.int (13 : Int32)), (.int c1)]))
          refine own_go (fun t k => XS.icmpYes X1.here hx rfl (pc0 := 17) (pc' := 24) rfl (hb hby at_17) rfl (Jvm.Free.XT.ii_ne_t h13) (by decide) (by decide) k) ?_
          show own_G p.tables e below s _ _ _ (T1.setTop (mkF m 24 #[.val (.int p1), .val (.int p2), .val (.int c1), .val (.int c1), .unset, .unset, .unset, .unset] []))
          refine own_go (fun t k => XS.iconst X1.here hx rfl (hb hby at_24) k) ?_
          show own_G p.tables e below s _ _ _ (T1.setTop (mkF m 25 #[.val (.int p1), .val (.int p2), .val (.int c1), .val (.int c1), .unset, .unset, .unset, .unset] [(.int (0 : Int32))]))
          refine own_go (fun t k => XS.istore X1.here hx rfl (hb hby at_25) rfl (l' := #[.val (.int p1), .val (.int p2), .val (.int c1), .val (.int c1), .val (.int (0 : Int32)), .unset, .unset, .unset]) rfl k) ?_
          show own_G p.tables e below s _ _ _ (T1.setTop (mkF m 27 #[.val (.int p1), .val (.int p2), .val (.int c1), .val (.int c1), .val (.int (0 : Int32)), .unset, .unset, .unset] []))
          refine own_go (fun t k => XS.iloadN X1.here hx rfl (hb hby at_27) rfl k) ?_
          show own_G p.tables e below s _ _ _ (T1.setTop (mkF m 28 #[.val (.int p1), .val (.int p2), .val (.int c1), .val (.int c1), .val (.int (0 : Int32)), .unset, .unset, .unset] [(.int c1)]))
          refine own_go (fun t k => XS.sipush X1.here hx rfl (hb hby at_28) k) ?_
          show own_G p.tables e below s _ _ _ (T1.setTop (mkF m 31 #[.val (.int p1), .val (.int p2), .val (.int c1), .val (.int c1), .val (.int (0 : Int32)), .unset, .unset, .unset] [(.int (133 : Int32)), (.int c1)]))
          refine own_go (fun t k => XS.icmpNo X1.here hx rfl (hb hby at_31) rfl (Jvm.Free.XT.ii_eq_f h133) k) ?_
          show own_G p.tables e below s _ _ _ (T1.setTop (mkF m 34 #[.val (.int p1), .val (.int p2), .val (.int c1), .val (.int c1), .val (.int (0 : Int32)), .unset, .unset, .unset] []))
          refine own_go (fun t k => XS.iloadN X1.here hx rfl (hb hby at_34) rfl k) ?_
          show own_G p.tables e below s _ _ _ (T1.setTop (mkF m 35 #[.val (.int p1), .val (.int p2), .val (.int c1), .val (.int c1), .val (.int (0 : Int32)), .unset, .unset, .unset] [(.int c1)]))
          refine own_go (fun t k => XS.sipush X1.here hx rfl (hb hby at_35) k) ?_
          show own_G p.tables e below s _ _ _ (T1.setTop (mkF m 38 #[.val (.int p1), .val (.int p2), .val (.int c1), .val (.int c1), .val (.int (0 : Int32)), .unset, .unset, .unset] [(.int (8232 : Int32)), (.int c1)]))
          refine own_go (fun t k => XS.icmpYes X1.here hx rfl (pc0 := 38) (pc' := 45) rfl (hb hby at_38) rfl (Jvm.Free.XT.ii_ne_t h8232) (by decide) (by decide) k) ?_
          show own_G p.tables e below s _ _ _ (T1.setTop (mkF m 45 #[.val (.int p1), .val (.int p2), .val (.int c1), .val (.int c1), .val (.int (0 : Int32)), .unset, .unset, .unset] []))
          refine own_go (fun t k => XS.iconst X1.here hx rfl (hb hby at_45) k) ?_
          show own_G p.tables e below s _ _ _ (T1.setTop (mkF m 46 #[.val (.int p1), .val (.int p2), .val (.int c1), .val (.int c1), .val (.int (0 : Int32)), .unset, .unset, .unset] [(.int (0 : Int32))]))
          refine own_go (fun t k => XS.istore X1.here hx rfl (hb hby at_46) rfl (l' := #[.val (.int p1), .val (.int p2), .val (.int c1), .val (.int c1), .val (.int (0 : Int32)), .val (.int (0 : Int32)), .unset, .unset]) rfl k) ?_
          show own_G p.tables e below s _ _ _ (T1.setTop (mkF m 48 #[.val (.int p1), .val (.int p2), .val (.int c1), .val (.int c1), .val (.int (0 : Int32)), .val (.int (0 : Int32)), .unset, .unset] []))
          refine own_go (fun t k => XS.iloadN X1.here hx rfl (hb hby at_48) rfl k) ?_
          show own_G p.tables e below s _ _ _ (T1.setTop (mkF m 49 #[.val (.int p1), .val (.int p2), .val (.int c1), .val (.int c1), .val (.int (0 : Int32)), .val (.int (0 : Int32)), .unset, .unset] [(.int c1)]))
          refine own_go (fun t k => XS.iconst X1.here hx rfl (hb hby at_49) k) ?_
          show own_G p.tables e below s _ _ _ (T1.setTop (mkF m 50 #[.val (.int p1), .val (.int p2), .val (.int c1), .val (.int c1), .val (.int (0 : Int32)), .val (.int (0 : Int32)), .unset, .unset] [(.int (0 : Int32)), (.int c1)]))
          obtain ⟨_, _, ⟨T10, L10, k10, n10⟩, -, X10, ⟨Lc10, hQ10, l10, y10, z10⟩, st10⟩ := Jvm.LawKit.callS X1 hx (y := (⟨"com/example/kaava/kaava/io/DocumentPosition", "endsLine", "(CZ)Z"⟩ : MethodName)) hown (mvT hZ (hw _ (List.mem_of_getElem? (i := 4) rfl))) (mvT hZ (hw _ (List.mem_of_getElem? (i := 5) rfl))) (mvT hZ (hw _ (List.mem_of_getElem? (i := 6) rfl))) (mvT hZ (hw _ (List.mem_of_getElem? (i := 7) rfl))) (by decide) (backOf (W := 0) (rm2 l Z a0 hw [] c1 (0 : Int32) (0 : Int32) h0 n0 Z0 (own_e0 h10 h13 h133 h8232)) hZ (hw _ (List.mem_of_getElem? (i := 7) rfl)) (hw _ (List.mem_of_getElem? (i := 6) rfl)) (by decide) (by decide)) (g := (mkF m 50 #[.val (.int p1), .val (.int p2), .val (.int c1), .val (.int c1), .val (.int (0 : Int32)), .val (.int (0 : Int32)), .unset, .unset] [(.int (0 : Int32)), (.int c1)])) rfl (by rw [hml]; rfl) (argsL := [(.int c1), (.int (0 : Int32))]) (rest := []) (lenOf pd__CZ_Z rfl) rfl (by show 2 * 0 + _ ≤ _; exact Nat.le_of_eq rfl) (hb hby at_50) (fun _ _ => ⟨rfl, hh1, (by decide : 0 + 0 ≤ _), (by decide : 0 + 0 ≤ _)⟩)
          dsimp only [Pt.U, Pt.locs, Pt.cells, Pt.slots] at X10 l10 y10 z10 st10 hQ10
          subst l10 y10 z10
          obtain ⟨rfl, N10q, hh10⟩ := hQ10
          have N10 := Fr.app N1 N10q
          refine own_go st10 ?_
          show own_G p.tables e below s _ _ _ (T10.setTop (mkF m 53 #[.val (.int p1), .val (.int p2), .val (.int c1), .val (.int c1), .val (.int (0 : Int32)), .val (.int (0 : Int32)), .unset, .unset] [(.int (0 : Int32))]))
          refine own_go (fun t k => XS.istore X10.here hx rfl (hb hby at_53) rfl (l' := #[.val (.int p1), .val (.int p2), .val (.int c1), .val (.int c1), .val (.int (0 : Int32)), .val (.int (0 : Int32)), .val (.int (0 : Int32)), .unset]) rfl k) ?_
          show own_G p.tables e below s _ _ _ (T10.setTop (mkF m 55 #[.val (.int p1), .val (.int p2), .val (.int c1), .val (.int c1), .val (.int (0 : Int32)), .val (.int (0 : Int32)), .val (.int (0 : Int32)), .unset] []))
          refine own_go (fun t k => XS.iloadN X10.here hx rfl (hb hby at_55) rfl k) ?_
          show own_G p.tables e below s _ _ _ (T10.setTop (mkF m 56 #[.val (.int p1), .val (.int p2), .val (.int c1), .val (.int c1), .val (.int (0 : Int32)), .val (.int (0 : Int32)), .val (.int (0 : Int32)), .unset] [(.int c1)]))
          refine own_go (fun t k => XS.iconst X10.here hx rfl (hb hby at_56) k) ?_
          show own_G p.tables e below s _ _ _ (T10.setTop (mkF m 57 #[.val (.int p1), .val (.int p2), .val (.int c1), .val (.int c1), .val (.int (0 : Int32)), .val (.int (0 : Int32)), .val (.int (0 : Int32)), .unset] [(.int (1 : Int32)), (.int c1)]))
          obtain ⟨_, _, ⟨T11, L11, k11, n11⟩, -, X11, ⟨Lc11, hQ11, l11, y11, z11⟩, st11⟩ := Jvm.LawKit.callS X10 hx (y := (⟨"com/example/kaava/kaava/io/DocumentPosition", "endsLine", "(CZ)Z"⟩ : MethodName)) hown (mvT hZ (hw _ (List.mem_of_getElem? (i := 4) rfl))) (mvT hZ (hw _ (List.mem_of_getElem? (i := 5) rfl))) (mvT hZ (hw _ (List.mem_of_getElem? (i := 6) rfl))) (mvT hZ (hw _ (List.mem_of_getElem? (i := 7) rfl))) (by decide) (backOf (W := 0) (rm2 l Z a0 hw [] c1 (1 : Int32) (0 : Int32) h0 n0 Z0 (own_e0 h10 h13 h133 h8232)) hZ (hw _ (List.mem_of_getElem? (i := 7) rfl)) (hw _ (List.mem_of_getElem? (i := 6) rfl)) (by decide) (by decide)) (g := (mkF m 57 #[.val (.int p1), .val (.int p2), .val (.int c1), .val (.int c1), .val (.int (0 : Int32)), .val (.int (0 : Int32)), .val (.int (0 : Int32)), .unset] [(.int (1 : Int32)), (.int c1)])) rfl (by rw [hml]; rfl) (argsL := [(.int c1), (.int (1 : Int32))]) (rest := []) (lenOf pd__CZ_Z rfl) rfl (by show 2 * 0 + _ ≤ _; exact Nat.le_of_eq rfl) (hb hby at_57) (fun _ _ => ⟨rfl, hh10, (by decide : 0 + 0 ≤ _), (by decide : 0 + 0 ≤ _)⟩)
          dsimp only [Pt.U, Pt.locs, Pt.cells, Pt.slots] at X11 l11 y11 z11 st11 hQ11
          subst l11 y11 z11
          obtain ⟨rfl, N11q, hh11⟩ := hQ11
          have N11 := Fr.app N10 N11q
          refine own_go st11 ?_
          show own_G p.tables e below s _ _ _ (T11.setTop (mkF m 60 #[.val (.int p1), .val (.int p2), .val (.int c1), .val (.int c1), .val (.int (0 : Int32)), .val (.int (0 : Int32)), .val (.int (0 : Int32)), .unset] [(.int (0 : Int32))]))
          refine own_go (fun t k => XS.istore X11.here hx rfl (hb hby at_60) rfl (l' := #[.val (.int p1), .val (.int p2), .val (.int c1), .val (.int c1), .val (.int (0 : Int32)), .val (.int (0 : Int32)), .val (.int (0 : Int32)), .val (.int (0 : Int32))]) rfl k) ?_
          show own_G p.tables e below s _ _ _ (T11.setTop (mkF m 62 #[.val (.int p1), .val (.int p2), .val (.int c1), .val (.int c1), .val (.int (0 : Int32)), .val (.int (0 : Int32)), .val (.int (0 : Int32)), .val (.int (0 : Int32))] []))
          refine own_go (fun t k => XS.iload X11.here hx rfl (hb hby at_62) rfl k) ?_
          show own_G p.tables e below s _ _ _ (T11.setTop (mkF m 64 #[.val (.int p1), .val (.int p2), .val (.int c1), .val (.int c1), .val (.int (0 : Int32)), .val (.int (0 : Int32)), .val (.int (0 : Int32)), .val (.int (0 : Int32))] [(.int (0 : Int32))]))
          refine own_go (fun t k => XS.iload X11.here hx rfl (hb hby at_64) rfl k) ?_
          show own_G p.tables e below s _ _ _ (T11.setTop (mkF m 66 #[.val (.int p1), .val (.int p2), .val (.int c1), .val (.int c1), .val (.int (0 : Int32)), .val (.int (0 : Int32)), .val (.int (0 : Int32)), .val (.int (0 : Int32))] [(.int (0 : Int32)), (.int (0 : Int32))]))
          refine own_go (fun t k => XS.icmpNo X11.here hx rfl (hb hby at_66) rfl (by decide) k) ?_
          show own_G p.tables e below s _ _ _ (T11.setTop (mkF m 69 #[.val (.int p1), .val (.int p2), .val (.int c1), .val (.int c1), .val (.int (0 : Int32)), .val (.int (0 : Int32)), .val (.int (0 : Int32)), .val (.int (0 : Int32))] []))
          refine own_go (fun t k => XS.iload X11.here hx rfl (hb hby at_69) rfl k) ?_
          show own_G p.tables e below s _ _ _ (T11.setTop (mkF m 71 #[.val (.int p1), .val (.int p2), .val (.int c1), .val (.int c1), .val (.int (0 : Int32)), .val (.int (0 : Int32)), .val (.int (0 : Int32)), .val (.int (0 : Int32))] [(.int (0 : Int32))]))
          refine own_go (fun t k => XS.iload X11.here hx rfl (hb hby at_71) rfl k) ?_
          show own_G p.tables e below s _ _ _ (T11.setTop (mkF m 73 #[.val (.int p1), .val (.int p2), .val (.int c1), .val (.int c1), .val (.int (0 : Int32)), .val (.int (0 : Int32)), .val (.int (0 : Int32)), .val (.int (0 : Int32))] [(.int (0 : Int32)), (.int (0 : Int32))]))
          refine own_go (fun t k => XS.ifNo X11.here hx rfl (hb hby at_73) rfl (by decide) k) ?_
          show own_G p.tables e below s _ _ _ (T11.setTop (mkF m 76 #[.val (.int p1), .val (.int p2), .val (.int c1), .val (.int c1), .val (.int (0 : Int32)), .val (.int (0 : Int32)), .val (.int (0 : Int32)), .val (.int (0 : Int32))] [(.int (0 : Int32))]))
          refine own_go (fun t k => XS.iload X11.here hx rfl (hb hby at_76) rfl k) ?_
          show own_G p.tables e below s _ _ _ (T11.setTop (mkF m 78 #[.val (.int p1), .val (.int p2), .val (.int c1), .val (.int c1), .val (.int (0 : Int32)), .val (.int (0 : Int32)), .val (.int (0 : Int32)), .val (.int (0 : Int32))] [(.int (0 : Int32)), (.int (0 : Int32))]))
          refine own_go (fun t k => XS.ifYes X11.here hx rfl (pc0 := 78) (pc' := 85) rfl (hb hby at_78) rfl (by decide) (by decide) (by decide) k) ?_
          show own_G p.tables e below s _ _ _ (T11.setTop (mkF m 85 #[.val (.int p1), .val (.int p2), .val (.int c1), .val (.int c1), .val (.int (0 : Int32)), .val (.int (0 : Int32)), .val (.int (0 : Int32)), .val (.int (0 : Int32))] [(.int (0 : Int32))]))
          refine own_go (fun t k => XS.iconst X11.here hx rfl (hb hby at_85) k) ?_
          show own_G p.tables e below s _ _ _ (T11.setTop (mkF m 86 #[.val (.int p1), .val (.int p2), .val (.int c1), .val (.int c1), .val (.int (0 : Int32)), .val (.int (0 : Int32)), .val (.int (0 : Int32)), .val (.int (0 : Int32))] [(.int (0 : Int32)), (.int (0 : Int32))]))
          refine own_go (fun t k => XS.icmpNo X11.here hx rfl (hb hby at_86) rfl (by decide) k) ?_
          show own_G p.tables e below s _ _ _ (T11.setTop (mkF m 89 #[.val (.int p1), .val (.int p2), .val (.int c1), .val (.int c1), .val (.int (0 : Int32)), .val (.int (0 : Int32)), .val (.int (0 : Int32)), .val (.int (0 : Int32))] []))
          refine own_go (fun t k => XS.iload X11.here hx rfl (hb hby at_89) rfl k) ?_
          show own_G p.tables e below s _ _ _ (T11.setTop (mkF m 91 #[.val (.int p1), .val (.int p2), .val (.int c1), .val (.int c1), .val (.int (0 : Int32)), .val (.int (0 : Int32)), .val (.int (0 : Int32)), .val (.int (0 : Int32))] [(.int (0 : Int32))]))
          refine own_go (fun t k => XS.ifYes X11.here hx rfl (pc0 := 91) (pc' := 99) rfl (hb hby at_91) rfl (by decide) (by decide) (by decide) k) ?_
          show own_G p.tables e below s _ _ _ (T11.setTop (mkF m 99 #[.val (.int p1), .val (.int p2), .val (.int c1), .val (.int c1), .val (.int (0 : Int32)), .val (.int (0 : Int32)), .val (.int (0 : Int32)), .val (.int (0 : Int32))] []))
          refine own_go (fun t k => XS.iconst X11.here hx rfl (hb hby at_99) k) ?_
          show own_G p.tables e below s _ _ _ (T11.setTop (mkF m 100 #[.val (.int p1), .val (.int p2), .val (.int c1), .val (.int c1), .val (.int (0 : Int32)), .val (.int (0 : Int32)), .val (.int (0 : Int32)), .val (.int (0 : Int32))] [(.int (1 : Int32))]))
          refine own_go (fun t k => XS.goto X11.here hx rfl (pc0 := 100) (pc' := 104) rfl (hb hby at_100) (by decide) (by decide) k) ?_
          show own_G p.tables e below s _ _ _ (T11.setTop (mkF m 104 #[.val (.int p1), .val (.int p2), .val (.int c1), .val (.int c1), .val (.int (0 : Int32)), .val (.int (0 : Int32)), .val (.int (0 : Int32)), .val (.int (0 : Int32))] [(.int (1 : Int32))]))
          exact own_retN X11 hx hlk (t := .boolean) (z' := (1 : Int32)) Bd.returns (by simp) (hb hby at_104) (rfl) (by rw [hh11]; exact ⟨rfl, N11⟩) (by decide) (by decide)
set_option maxRecDepth 65536 in
set_option maxHeartbeats 40000000 in
theorem comes_1 {Post : Tables → Env → Array Value → State → Outcome → State → Prop} (hpost : ∀ tb e args s v u, (limb_1_1.after args s (.returned v) u = true ∧ limb_1_2.after args s (.returned v) u = true ∧ True) → FrameEnd s (.returned v) u (Jvm.fieldLocs frame_1_writes args s ++ Jvm.arrayLocs frame_1_arrays args s ++ Jvm.staticLocs frame_1_statics s) 0 0 → Post tb e args s (.returned v) u) :
    ArmFor flags0 classFile x code maxLocals ret World_1 tables_1 room_1 Calls_1 rest_1 Pre_1 Post := by
  intro l hfl _ _ p e ha hc hk s m args below hf hA hF happ hP
  obtain ⟨hcalls, hrest, hpre⟩ := hP
  obtain ⟨-, -, -, hnamed, -, -, -, hat⟩ := (Spec.applies_iff hf).mp happ
  obtain ⟨hg, hn⟩ := and_e (Cond.before_iff.mp (show (Jvm.Cond.and given_1 narrow_1).before args s = true from hpre))
  obtain ⟨gc, g0'⟩ := and_e hg
  obtain ⟨ga0, g1'⟩ := and_e g0'
  have ga1 := g1'
  obtain ⟨w0, w1, rfl⟩ : ∃ w0 w1 : Value, args = #[w0, w1] := by
    have hs : args.size = 2 := by simpa [Cond.value, given_1] using gc
    obtain ⟨L⟩ := args
    match L, hs with
    | [w0, w1], _ => exact ⟨w0, w1, rfl⟩
  have hw := fun d (hd : d ∈ tables_1) => atoms_spec (ws := Jvm.Cond.code x code maxLocals ret :: tables_1) hat d (List.mem_cons_of_mem _ hd)
  have hfit : Fit s := fun {y c} hc i hi => by
    obtain ⟨ha, rfl⟩ := Array.getElem?_eq_some_iff.mp hc
    have q := List.all_eq_true.mp ((Array.all_eq_true_iff_forall_mem.mp hF) _ (Array.getElem_mem ha)) i (List.mem_range.mpr hi)
    simpa [Array.getElem?_eq_getElem hi] using q
  obtain ⟨i0, ei0⟩ := is_v ga0
  obtain rfl : w0 = (.int i0) := Option.some.inj ei0
  obtain ⟨i1, ei1⟩ := is_v ga1
  obtain rfl : w1 = (.int i1) := Option.some.inj ei1
  obtain ⟨n, o, h1, h2, h3, _, L, rfl, ⟨rfl, N⟩, hq⟩ := rm0 l s _ hw tables_1 i0 i1 s.heap s.heap.size (Nat.le_refl _) p e ha hc hk s m _ below hf ((Spec.applies_iff_loose hf).mp happ).1 ⟨rfl, State.Warmed39.refl s, rfl⟩ trivial
  refine ⟨n, _, h1, h2, h3, hpost _ _ _ _ _ _ ⟨Cond.after_iff.mpr rfl, Cond.after_iff.mpr (eq_i res_at (Term.int_eval (1)) rfl), trivial⟩ ⟨hq.1, hq.2.1, (hq.2.2.sift fun y hy => Or.inr (N y hy)).mono (by decide) (by decide)⟩⟩
theorem main_1_1 : Claimed_1_1 := comes_1 fun _ _ _ _ _ _ h hF => ⟨h.1, hF⟩
theorem main_1_2 : Claimed_1_2 := comes_1 fun _ _ _ _ _ _ h hF => ⟨h.2.1, hF⟩
end Jvm.Pilot.@@N@@
namespace Jvm.Pilot.@@N@@
open Jvm Jvm.ClassFile Sem Op Lib Jvm.Free Jvm.Stand Jvm.Pilot.@@N@@.Jvm.D
/-! MADE BY PROGRAM (witnessworld.py) out of the Statement's table words and the real class files: 9 classes; the members and pool entries that the words name. The judged class is class 1, her method 1. -/
namespace start1
open Jvm.ClassFile
def u (s : String) : CpInfo := .utf8 (stringToUtf16 s)
/-- a pool by its gaps: so many unusable entries, then the entry; so many at the end -/
def gap : Nat → List CpInfo → List CpInfo
  | 0, r => r
  | n + 1, r => .unusable :: gap n r
def poolList (es : List (Nat × CpInfo)) (last : Nat) : List CpInfo := es.foldr (fun e r => gap e.1 (e.2 :: r)) (gap last [])
def pool (es : List (Nat × CpInfo)) (last : Nat) : Array CpInfo := ⟨poolList es last⟩
def fileOf (pool : Array CpInfo) (this : Nat) (attrs : Array Attribute := #[]) (ms : Array MethodInfo := #[]) (fl : Nat := 33) (sup : Nat := 0) (ifs : Array Nat := #[]) (fds : Array FieldInfo := #[]) : ClassFile where
  minorVersion := 0
  majorVersion := 65
  constantPool := pool
  accessFlags := fl
  thisClass := this
  superClass := sup
  interfaces := ifs
  fields := fds
  methods := ms
  attributes := attrs
def plain (name : String) (sup : Option ClassId) : Class where
  name := name
  kind := .ordinary
  loader := none
  accessFlags := 33
  super := sup
  interfaces := #[]
  cf := none
  fields := #[]
  methods := #[]
  instanceTypes := #[]
  staticTypes := #[]
  resolved := #[]
  callSites := []
  init := .initialized
  statics := none
  mirror := none

def pool0 : Array CpInfo := pool [(5, u "<init>"), (0, u "()V"), (1, .class_ 10), (1, u "java/lang/Object")] 113

def k0m0 : Method := { name := "<init>", desc := "()V", sig := { parameters := [], returnType := none }, accessFlags := 1, code := none }
/-- java/lang/Object -/
def k0 : Class := { plain "java/lang/Object" none with
  accessFlags := 33
  interfaces := #[]
  cf := some (fileOf pool0 8 #[] #[{ accessFlags := 1, nameIndex := 5, descriptorIndex := 6, attributes := #[] }] 33 0 #[] #[])
  fields := #[]
  methods := #[k0m0]
  instanceTypes := #[]
  staticTypes := #[]
  resolved := Array.replicate 124 none
  statics := none }

def pool1 : Array CpInfo := pool [(2, .class_ 4), (1, u "java/lang/Object"), (0, u "<init>"), (0, u "()V"), (0, .methodref 8 9), (0, .class_ 10), (0, .nameAndType 11 12), (0, u "com/example/kaava/kaava/io/DocumentPositionEndsLinePinLaw"), (0, u "pick"), (0, u "(II)C"), (0, .methodref 14 15), (0, .class_ 16), (0, .nameAndType 17 18), (0, u "com/example/kaava/kaava/io/DocumentPosition"), (0, u "endsLine"), (0, u "(CZ)Z"), (0, .integer 65535), (2, u "law"), (0, u "(II)Z")] 3

def k1m0 : Method := { name := "<init>", desc := "()V", sig := { parameters := [], returnType := none }, accessFlags := 1, code := none }
def k1c1 : Code := { maxStack := 2, maxLocals := 8, code := code, exceptionTable := #[], attributes := #[] }
def k1m1 : Method := { name := "law", desc := "(II)Z", sig := { parameters := [.int, .int], returnType := some .boolean }, accessFlags := 9, code := some k1c1 }
def k1c2 : Code := { maxStack := 2, maxLocals := 3, code := method_3_code, exceptionTable := #[], attributes := #[] }
def k1m2 : Method := { name := "pick", desc := "(II)C", sig := { parameters := [.int, .int], returnType := some .char }, accessFlags := 10, code := some k1c2 }
/-- com/example/kaava/kaava/io/DocumentPositionEndsLinePinLaw -/
def k1 : Class := { plain "com/example/kaava/kaava/io/DocumentPositionEndsLinePinLaw" (some 0) with
  accessFlags := 49
  interfaces := #[]
  cf := some (fileOf pool1 8 #[] #[{ accessFlags := 1, nameIndex := 5, descriptorIndex := 6, attributes := #[] }, { accessFlags := 9, nameIndex := 22, descriptorIndex := 23, attributes := #[] }, { accessFlags := 10, nameIndex := 11, descriptorIndex := 12, attributes := #[] }] 49 2 #[] #[])
  fields := #[]
  methods := #[k1m0, k1m1, k1m2]
  instanceTypes := #[]
  staticTypes := #[]
  resolved := Array.replicate 27 none
  statics := none }

def pool2 : Array CpInfo := pool [(2, .class_ 4), (1, u "java/lang/Object"), (3, .class_ 10), (1, u "com/example/kaava/kaava/io/DocumentPosition"), (0, u "line"), (0, u "I"), (2, u "column"), (2, u "xml11"), (0, u "Z"), (2, u "endsLine"), (0, u "(CZ)Z"), (2, u "afterCarriageReturn"), (3, u "NEXT_LINE"), (0, u "C"), (2, u "LINE_SEPARATOR")] 14

def k2c0 : Code := { maxStack := 2, maxLocals := 2, code := prog_11_method_2_code, exceptionTable := #[], attributes := #[] }
def k2m0 : Method := { name := "endsLine", desc := "(CZ)Z", sig := { parameters := [.char, .boolean], returnType := some .boolean }, accessFlags := 8, code := some k2c0 }
/-- com/example/kaava/kaava/io/DocumentPosition -/
def k2 : Class := { plain "com/example/kaava/kaava/io/DocumentPosition" (some 0) with
  accessFlags := 32
  interfaces := #[]
  cf := some (fileOf pool2 8 #[] #[{ accessFlags := 8, nameIndex := 22, descriptorIndex := 23, attributes := #[] }] 32 2 #[] #[{ accessFlags := 26, nameIndex := 30, descriptorIndex := 31, attributes := #[] }, { accessFlags := 26, nameIndex := 34, descriptorIndex := 31, attributes := #[] }, { accessFlags := 18, nameIndex := 18, descriptorIndex := 19, attributes := #[] }, { accessFlags := 2, nameIndex := 11, descriptorIndex := 12, attributes := #[] }, { accessFlags := 2, nameIndex := 15, descriptorIndex := 12, attributes := #[] }, { accessFlags := 2, nameIndex := 26, descriptorIndex := 19, attributes := #[] }])
  fields := #[{ name := "NEXT_LINE", type := .char, accessFlags := 26, slot := 0, constantValue := 0 }, { name := "LINE_SEPARATOR", type := .char, accessFlags := 26, slot := 1, constantValue := 0 }, { name := "xml11", type := .boolean, accessFlags := 18, slot := 0, constantValue := 0 }, { name := "line", type := .int, accessFlags := 2, slot := 1, constantValue := 0 }, { name := "column", type := .int, accessFlags := 2, slot := 2, constantValue := 0 }, { name := "afterCarriageReturn", type := .boolean, accessFlags := 2, slot := 3, constantValue := 0 }]
  methods := #[k2m0]
  instanceTypes := #[.boolean, .int, .int, .boolean]
  staticTypes := #[.char, .char]
  resolved := Array.replicate 49 none
  statics := none }

def pool3 : Array CpInfo := pool [(1, u "java/lang/Cloneable"), (0, .class_ 1), (0, u "java/lang/Object"), (0, .class_ 3)] 3

/-- java/lang/Cloneable -/
def k3 : Class := { plain "java/lang/Cloneable" (some 0) with
  accessFlags := 1537
  interfaces := #[]
  cf := some (fileOf pool3 2 #[] #[] 1537 4 #[] #[])
  fields := #[]
  methods := #[]
  instanceTypes := #[]
  staticTypes := #[]
  resolved := Array.replicate 8 none
  statics := none }

def pool4 : Array CpInfo := pool [(1, u "java/io/Serializable"), (0, .class_ 1), (0, u "java/lang/Object"), (0, .class_ 3)] 3

/-- java/io/Serializable -/
def k4 : Class := { plain "java/io/Serializable" (some 0) with
  accessFlags := 1537
  interfaces := #[]
  cf := some (fileOf pool4 2 #[] #[] 1537 4 #[] #[])
  fields := #[]
  methods := #[]
  instanceTypes := #[]
  staticTypes := #[]
  resolved := Array.replicate 8 none
  statics := none }

/-- the primitive byte -/
def k5 : Class := { plain "byte" none with kind := .primitive 'B', accessFlags := 0x411 }
/-- [B -/
def k6 : Class := { plain "[B" (some 0) with kind := .array 5 .byte, interfaces := #[3, 4], accessFlags := 1041 }

/-- the primitive int -/
def k7 : Class := { plain "int" none with kind := .primitive 'I', accessFlags := 0x411 }
/-- [I -/
def k8 : Class := { plain "[I" (some 0) with kind := .array 7 .int, interfaces := #[3, 4], accessFlags := 1041 }

def heap : Heap := #[]
def classes : Array Class := #[k0, k1, k2, k3, k4, k5, k6, k7, k8]
def interned : List (Array UInt16 × Addr) := []
def slotsUsed : Nat := 0
def theMethod : MethodId := ⟨1, 1⟩
def args0 : Array Value := #[.int 5, .int 3]
def aboutOver (below : List Frame) : State where
  vm := { classes := classes, interned := interned.toArray }
  heap := heap
  slotsUsed := slotsUsed
  threads := #[{ frames := .invoking theMethod args0 :: below }]
def below0 : List Frame := [.native { method := ⟨0, 0⟩, args := #[] }]
def about1 : State := aboutOver below0
def p0 : Program := .bare "" "" ""
def e0 : Env := launch0.env 0 0 0
theorem w_frames : about1.frames = Frame.invoking theMethod args0 :: below0 := rfl
set_option maxRecDepth 65536 in
theorem w_args : argsFit about1.vm theMethod args0 = true := by decide +kernel
set_option maxRecDepth 65536 in
theorem w_heap : heapFits about1 = true := by decide +kernel
set_option maxRecDepth 65536 in
theorem w_runnable : about1.curStatus? = some .runnable := by decide +kernel
set_option maxRecDepth 65536 in
theorem w_alone : about1.alone = true := by decide +kernel
set_option maxRecDepth 65536 in
theorem w_named : about1.methodNamed? x = some theMethod := by decide +kernel
set_option maxRecDepth 65536 in
theorem w_hears : about1.hears theMethod below0 = true := by decide +kernel
set_option maxRecDepth 65536 in
theorem w_ripe : about1.ripe theMethod args0 below0 = true := by decide +kernel
theorem w_running : about1.status = .running := rfl
set_option maxRecDepth 65536 in
theorem w_room : about1.hasRoom e0.platform room_1 = true :=
  launch0.hasRoom_least _ room_1 (by decide +kernel) (by decide +kernel) (by decide +kernel) (by decide +kernel) (by decide +kernel) (by decide +kernel)
theorem allAtoms_all (ts : List Jvm.Cond) (a : Array Jvm.Value) (st : Jvm.State) : (allAtoms ts).before a st = ts.all (fun c => c.before a st) := by
  induction ts with
  | nil => rfl
  | cons c t ih =>
    show (Jvm.Cond.and c (allAtoms t)).before a st = _
    rw [Jvm.Cond.before_and, ih, List.all_cons]
def words1 : List Jvm.Cond := Jvm.Cond.code x code maxLocals ret :: tables_1
/-- a 'code' word, met by the world's own term for the bytes: nothing is compared byte by byte -/
theorem code_word {y : MethodName} {bytes : ByteArray} {mx : Nat} {rt : Option FieldType} {a : Array Value} {s : State} {m : MethodId} {meth : Method} {c : Code} (h1 : s.methodNamed? y = some m) (h2 : s.vm.method? m = some meth) (h3 : meth.code = some c) (h4 : c.code = bytes)
    (h5 : (c.maxLocals == mx && c.exceptionTable.isEmpty && decide (c.maxStack ≤ mostOperands) && decide (meth.sig.returnType = rt) && !meth.locks && decide (parseMethodDescriptor y.desc = some meth.sig)) = true) : (Jvm.Cond.code y bytes mx rt).before a s = true := by
  simp only [Bool.and_eq_true, beq_iff_eq, Bool.not_eq_true', decide_eq_true_eq] at h5
  obtain ⟨⟨⟨⟨⟨g1, g2⟩, g3⟩, g4⟩, g5⟩, g6⟩ := h5
  simp [Cond.before, Cond.holds, Cond.value, h1, h2, h3, h4, g1, g2, g3, g4, g5, g6]
def isCode : Jvm.Cond → Bool
  | .code _ _ _ _ => true
  | _ => false
theorem all_split {L : List Jvm.Cond} {P : Jvm.Cond → Bool} (h1 : L.all (fun c => isCode c || P c) = true) (h2 : ∀ c ∈ L.filter isCode, P c = true) : L.all P = true := by
  refine List.all_eq_true.mpr fun c hc => ?_
  have h := List.all_eq_true.mp h1 c hc
  rcases Bool.eq_false_or_eq_true (isCode c) with hi | hi
  · exact h2 c (List.mem_filter.mpr ⟨hc, hi⟩)
  · simpa [hi] using h
set_option maxRecDepth 65536 in
theorem w_c0 : (Jvm.Cond.code x code maxLocals ret).before args0 about1 = true := code_word (m := ⟨1, 1⟩) (meth := k1m1) (c := k1c1) (by decide +kernel) rfl rfl rfl (by decide +kernel)
set_option maxRecDepth 65536 in
theorem w_c1 : (Jvm.Cond.code ({ cls := "com/example/kaava/kaava/io/DocumentPositionEndsLinePinLaw", name := "pick", desc := "(II)C" } : Jvm.MethodName) method_3_code (3 : Nat) (Option.some Jvm.ClassFile.FieldType.char)).before args0 about1 = true := code_word (m := ⟨1, 2⟩) (meth := k1m2) (c := k1c2) (by decide +kernel) rfl rfl rfl (by decide +kernel)
set_option maxRecDepth 65536 in
theorem w_c2 : (Jvm.Cond.code ({ cls := "com/example/kaava/kaava/io/DocumentPosition", name := "endsLine", desc := "(CZ)Z" } : Jvm.MethodName) prog_11_method_2_code (2 : Nat) (Option.some Jvm.ClassFile.FieldType.boolean)).before args0 about1 = true := code_word (m := ⟨2, 0⟩) (meth := k2m0) (c := k2c0) (by decide +kernel) rfl rfl rfl (by decide +kernel)
def codes1 : List Jvm.Cond := [Jvm.Cond.code x code maxLocals ret, Jvm.Cond.code ({ cls := "com/example/kaava/kaava/io/DocumentPositionEndsLinePinLaw", name := "pick", desc := "(II)C" } : Jvm.MethodName) method_3_code (3 : Nat) (Option.some Jvm.ClassFile.FieldType.char), Jvm.Cond.code ({ cls := "com/example/kaava/kaava/io/DocumentPosition", name := "endsLine", desc := "(CZ)Z" } : Jvm.MethodName) prog_11_method_2_code (2 : Nat) (Option.some Jvm.ClassFile.FieldType.boolean)]
set_option maxRecDepth 65536 in
theorem codes_eq : words1.filter isCode = codes1 := rfl
theorem w_codes : ∀ c ∈ words1.filter isCode, c.before args0 about1 = true := by
  rw [codes_eq]
  intro c hc
  simp only [codes1, List.mem_cons, List.not_mem_nil, or_false] at hc
  rcases hc with rfl | rfl | rfl
  · exact w_c0
  · exact w_c1
  · exact w_c2
set_option maxRecDepth 65536 in
theorem w_t1 : words1.all (fun c => isCode c || c.before args0 about1) = true := by decide +kernel
theorem w_tables : (allAtoms (Jvm.Cond.code x code maxLocals ret :: tables_1)).before args0 about1 = true := by
  rw [allAtoms_all]
  show words1.all (fun c => c.before args0 about1) = true
  refine all_split ?_ w_codes
  rw [w_t1]
set_option maxRecDepth 65536 in
theorem w_case : (Jvm.Cond.and given_1 narrow_1).before args0 about1 = true := by decide +kernel
theorem w_applies : (headSpec (Jvm.Cond.code x code maxLocals ret :: tables_1) room_1).applies x e0.platform about1 = true :=
  (Spec.applies_iff w_frames).mpr ⟨w_running, w_runnable, w_alone, w_named, w_hears, w_ripe, w_room, w_tables⟩
theorem atStart : AtStart classFile x code maxLocals ret World_1 tables_1 room_1 Calls_1 rest_1 Pre_1 launch0 p0 e0 about1 theMethod args0 below0 :=
  ⟨lists_1, trivial, launch0.admits_env _ _ _, launch0.least_env, fairChoices_fair.cas, fairChoices_fair.clock, w_frames, w_args, w_heap, w_applies, trivial, trivial, w_case⟩
end start1
theorem witness_1 : WitnessClaimed_1 := ⟨start1.p0, start1.e0, start1.about1, start1.theMethod, start1.args0, start1.below0, start1.atStart⟩
end Jvm.Pilot.@@N@@
