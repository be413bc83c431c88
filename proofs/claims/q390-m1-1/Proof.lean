import JvmDerived
import JvmDerived.Pilot.@@N@@Statement
import JvmDerived.Pilot.@@N@@Code
set_option linter.unusedVariables false
set_option linter.unusedSimpArgs false
namespace Jvm.RoadKit
open Sem ClassFile Op Lib Jvm.Stand Jvm.Free Jvm.LawKit
section OwnKit
variable {p : Program} {l : Launch} {e : Env} {R : Room} {s : State} {m : MethodId} {args : Array Value} {below : List Frame} {meth : Method} {c : Code} {T : State} {locs : List Loc} {cells slots : Nat}
/-- a run that stands in S comes to an end of the invocation, of which Q is said -/
def own_G (tb : Tables) (e : Env) (below : List Frame) (s : State) (Q : Option Value → Heap → List Loc → Prop) (k n : Nat) (S : State) : Prop :=
  ∃ s₂ o, Steps tb e below S s₂ ∧ s₂.status = .running ∧ Ended s₂ below o ∧ ∃ v L, o = .returned v ∧ Q v s₂.heap L ∧ FrameEnd s o s₂ L k n
variable {tb : Tables} {Q : Option Value → Heap → List Loc → Prop} {k n : Nat}
theorem own_go {A B : State} (st : ∀ t, Steps tb e below A t → Steps tb e below B t) (h : own_G tb e below s Q k n A) : own_G tb e below s Q k n B := by
  obtain ⟨s₂, o, h1, h2⟩ := h
  exact ⟨s₂, o, st _ h1, h2⟩
theorem own_ret (X : Stand p l e R s m args below meth c T locs cells slots) {v : Option Value} (hv : meth.sig.returnType = none → v = none) (hlk : meth.locks = false) (hQ : Q v T.heap locs) (hk : cells ≤ k) (hn : slots ≤ n) {S : State}
    (st : ∀ fs, (∀ (f : JFrame) (acts : List Action), f.method = m → f.locked = none → f.entered = [] → (doReturn e (T.setTop f) acts v).1 = T.setFrames fs) → Steps p.tables e below S (T.setFrames fs)) : own_G p.tables e below s Q k n S := by
  obtain ⟨fs, hr, hrun, hended, hW, hsame⟩ := X.leave hv hlk
  exact ⟨_, _, st fs hr, hrun, hended, _, _, rfl, hQ, ⟨_, rfl⟩, hW, hsame.mono hk hn⟩
variable {pc : Nat} {Ls : Array Slot} {rest : List Value}
theorem own_retN (X : Stand p l e R s m args below meth c T locs cells slots) (hx : p.tables.exec = Jvm.exec) (hlk : meth.locks = false) {t : FieldType} {z z' : Int32} (hret : meth.sig.returnType = some t) (ht : t = .boolean ∨ t = .byte ∨ t = .char ∨ t = .short) (hd : decode c.code pc = .ok (.ireturn, 1)) (hz : nar t z = z') (hQ : Q (some (.int z')) T.heap locs) (hk : cells ≤ k) (hn : slots ≤ n) :
    own_G p.tables e below s Q k n (T.setTop (mkF m pc Ls (.int z :: rest))) := by
  subst hz
  exact own_ret X (fun h => by rw [hret] at h; cases h) hlk hQ hk hn fun fs hr => retN X hx hret ht hd hr
theorem own_retI (X : Stand p l e R s m args below meth c T locs cells slots) (hx : p.tables.exec = Jvm.exec) (hlk : meth.locks = false) {z : Int32} (hret : meth.sig.returnType = some .int) (hd : decode c.code pc = .ok (.ireturn, 1)) (hQ : Q (some (.int z)) T.heap locs) (hk : cells ≤ k) (hn : slots ≤ n) :
    own_G p.tables e below s Q k n (T.setTop (mkF m pc Ls (.int z :: rest))) :=
  own_ret X (fun h => by rw [hret] at h; cases h) hlk hQ hk hn fun fs hr => retOut X hx hret rfl (Or.inl ⟨rfl, Or.inl rfl, _, rfl⟩) hd hr
theorem own_retJ (X : Stand p l e R s m args below meth c T locs cells slots) (hx : p.tables.exec = Jvm.exec) (hlk : meth.locks = false) {z : Int64} (hret : meth.sig.returnType = some .long) (hd : decode c.code pc = .ok (.lreturn, 1)) (hQ : Q (some (.long z)) T.heap locs) (hk : cells ≤ k) (hn : slots ≤ n) :
    own_G p.tables e below s Q k n (T.setTop (mkF m pc Ls (.long z :: rest))) :=
  own_ret X (fun h => by rw [hret] at h; cases h) hlk hQ hk hn fun fs hr => retOut X hx hret rfl (Or.inr (Or.inl ⟨rfl, rfl, _, rfl⟩)) hd hr
theorem own_retA (X : Stand p l e R s m args below meth c T locs cells slots) (hx : p.tables.exec = Jvm.exec) (hlk : meth.locks = false) {t : FieldType} {w : Value} (hret : meth.sig.returnType = some t) (ht : t.isReference = true) (hv : w.isRef = true) (hd : decode c.code pc = .ok (.areturn, 1)) (hQ : Q (some w) T.heap locs) (hk : cells ≤ k) (hn : slots ≤ n) :
    own_G p.tables e below s Q k n (T.setTop (mkF m pc Ls (w :: rest))) :=
  own_ret X (fun h => by rw [hret] at h; cases h) hlk hQ hk hn fun fs hr => retOut X hx hret (by rcases ref_cases hv with rfl | ⟨_, rfl⟩ <;> cases t <;> first | rfl | cases ht) (Or.inr (Or.inr (Or.inr (Or.inr ⟨rfl, ht, hv⟩)))) hd hr
theorem own_retV (X : Stand p l e R s m args below meth c T locs cells slots) (hx : p.tables.exec = Jvm.exec) (hlk : meth.locks = false) (hret : meth.sig.returnType = none) (hd : decode c.code pc = .ok (.return_, 1)) (hQ : Q none T.heap locs) (hk : cells ≤ k) (hn : slots ≤ n) :
    own_G p.tables e below s Q k n (T.setTop (mkF m pc Ls [])) :=
  own_ret X (fun _ => rfl) hlk hQ hk hn fun fs hr => X.returnOut hx hret hd hr
end OwnKit
end Jvm.RoadKit
namespace Jvm.Pilot.@@N@@
open Jvm Jvm.ClassFile Sem Op Lib Jvm.Free Jvm.Stand Jvm.LawKit Jvm.RoadKit Bundle Jvm.Pilot.@@N@@.Jvm.D
theorem own_byte (x : Int32) : ¬ ((255 : Int32) < (x &&& (255 : Int32)).toUInt32.toUInt16.toUInt32.toInt32) := by
  have h : (x &&& (255 : Int32)).toUInt32.toUInt16.toUInt32.toInt32 = x &&& (255 : Int32) := by
    have h2 : (x &&& (255 : Int32)).toBitVec.toNat ≤ 255 := by
      rw [Int32.toBitVec_and, BitVec.toNat_and]
      exact Nat.and_le_right
    apply Int32.toBitVec_inj.mp
    apply BitVec.eq_of_toNat_eq
    show ((x &&& (255 : Int32)).toUInt32.toUInt16.toUInt32).toNat = ((x &&& (255 : Int32)).toUInt32).toNat
    have h3 : ((x &&& (255 : Int32)).toUInt32).toNat ≤ 255 := h2
    rw [UInt16.toNat_toUInt32, UInt32.toNat_toUInt16]
    omega
  rw [h, Int32.lt_iff_toInt_lt]
  have e : (255 : Int32).toInt = 255 := rfl
  have m : (x &&& (255 : Int32)).toInt ≤ 255 := by
    have h1 : ¬ ((x &&& (255 : Int32)) < 0) := fun h => absurd ((Jvm.Free.XT.and_neg32 _ _).mp h).2 (by decide)
    have h2 : (x &&& (255 : Int32)).toBitVec.toNat ≤ 255 := by
      rw [Int32.toBitVec_and, BitVec.toNat_and]
      exact Nat.and_le_right
    have h3 : (x &&& (255 : Int32)).toInt = ((x &&& (255 : Int32)).toBitVec.toNat : Int) := by
      show (x &&& (255 : Int32)).toBitVec.toInt = _
      rw [BitVec.toInt_eq_toNat_of_lt (by omega)]
    omega
  omega
theorem own_rel {a b ra rb : Int32} (hra : (if (0 : Int32) < a then (1 : Int32) else 0) = ra) (hrb : (if (0 : Int32) < b then (1 : Int32) else 0) = rb) (h : ¬ b < a) (h1 : ¬ ra = 0) : ¬ rb = 0 := by
  have p : (0 : Int32) < a := by
    rcases Decidable.em ((0 : Int32) < a) with q | q
    · exact q
    · rw [if_neg q] at hra; exact absurd hra.symm h1
  have q : (0 : Int32) < b := by
    rw [Int32.lt_iff_toInt_lt] at *
    omega
  rw [if_pos q] at hrb
  rw [← hrb]; decide
theorem dc_0 : decode jdk_43_method_3_code 0 = .ok (.iload_n 0, 1) := by decide +kernel
theorem dc_1 : decode jdk_43_method_3_code 1 = .ok (.sipush 255, 3) := by decide +kernel
theorem dc_4 : decode jdk_43_method_3_code 4 = .ok (.if_icmp .gt 7, 3) := by decide +kernel
theorem dc_7 : decode jdk_43_method_3_code 7 = .ok (.iconst 1, 1) := by decide +kernel
theorem dc_8 : decode jdk_43_method_3_code 8 = .ok (.goto 4, 3) := by decide +kernel
theorem dc_12 : decode jdk_43_method_3_code 12 = .ok (.ireturn, 1) := by decide +kernel
theorem pn_java_lang_StringLatin1 : plainName "java/lang/StringLatin1" = true := by first | (simp [plainName, overriddenIn]; done) | decide +kernel
theorem ef_c (m : MethodId) (x0 : Int32) : entryFrame m #[(.int x0)] 1 = mkF m 0 #[.val (.int x0)] [] := by first | (simp [entryFrame, mkF, argsToLocals, Value.category]; done) | rfl
def Qc (Z : State) (p1 : Int32) (h0 : Heap) (n0 : Nat) (v : Option Value) (h : Heap) (L : List Loc) : Prop := v = some (.int 1) ∧ Fr n0 L ∧ h = h0
set_option maxRecDepth 65536 in
set_option maxHeartbeats 40000000 in
theorem rmc (l : Launch) (Z : State) (a0 : Array Value) (hw : ∀ d ∈ tables_1, d.before a0 Z = true) (ws : List Jvm.Cond) (p1 : Int32) (h0 : Heap) (n0 : Nat) (Z0 : n0 ≤ h0.size) (hp : ¬ ((255 : Int32) < p1)) :
    MetFree l (⟨"java/lang/StringLatin1", "canEncode", "(C)Z"⟩ : MethodName) (head1 (Jvm.Cond.code (⟨"java/lang/StringLatin1", "canEncode", "(C)Z"⟩ : MethodName) jdk_43_method_3_code 1 (some .boolean) :: ws) ({ frames := 0, cells := 0, slots := 0, locals := 0 } : Room)) (fun a U => a = #[(.int p1)] ∧ Z.Warmed39 U.vm ∧ U.heap = h0) (fun _ _ _ _ _ => True) (fun _ U o U' => ∃ v L, o = .returned v ∧ Qc Z p1 h0 n0 v U'.heap L ∧ FrameEnd U o U' L ({ frames := 0, cells := 0, slots := 0, locals := 0 } : Room).cells ({ frames := 0, cells := 0, slots := 0, locals := 0 } : Room).slots) := by
  refine MetFree.of_bodySF (plainFor_of_name pn_java_lang_StringLatin1) hisR ?_
  intro p e s m args below meth c s₁ Bd hml0 hP hK
  obtain ⟨rfl, hZ, hh⟩ := hP
  have hx := Bd.exec
  have hby := Bd.bytes
  have hlk : meth.locks = false := BodyLoose.notSynchronized Bd
  have hml : c.maxLocals = 1 := hml0
  have hown : s.vm.findClass "java/lang/StringLatin1" = some m.cls := findClass_of_methodNamed Bd.named
  have hnm := (name_of_methodNamed Bd.named Bd.method).1
  have X0 : Stand p l e ({ frames := 0, cells := 0, slots := 0, locals := 0 } : Room) s m #[(.int p1)] below meth c s₁ [] 0 0 := Stand.of_body Bd
  have e0 : s₁.heap = h0 := by rw [← hh, Bd.state]; rfl
  have N0 := Fr.nil n0
  show own_G p.tables e below s (Qc Z p1 h0 n0) ({ frames := 0, cells := 0, slots := 0, locals := 0 } : Room).cells ({ frames := 0, cells := 0, slots := 0, locals := 0 } : Room).slots (s₁.setTop (entryFrame m #[(.int p1)] 1))
  refine own_go (fun t k => castTop (ef_c m p1) k) ?_
  show own_G p.tables e below s _ _ _ (s₁.setTop (mkF m 0 #[.val (.int p1)] []))
  refine own_go (fun t k => XS.iloadN X0.here hx rfl (hb hby dc_0) rfl k) ?_
  show own_G p.tables e below s _ _ _ (s₁.setTop (mkF m 1 #[.val (.int p1)] [(.int p1)]))
  refine own_go (fun t k => XS.sipush X0.here hx rfl (hb hby dc_1) k) ?_
  show own_G p.tables e below s _ _ _ (s₁.setTop (mkF m 4 #[.val (.int p1)] [(.int (255 : Int32)), (.int p1)]))
  refine own_go (fun t k => XS.icmpNo X0.here hx rfl (hb hby dc_4) rfl (Jvm.Free.XT.ii_gt_f hp) k) ?_
  show own_G p.tables e below s _ _ _ (s₁.setTop (mkF m 7 #[.val (.int p1)] []))
  refine own_go (fun t k => XS.iconst X0.here hx rfl (hb hby dc_7) k) ?_
  show own_G p.tables e below s _ _ _ (s₁.setTop (mkF m 8 #[.val (.int p1)] [(.int (1 : Int32))]))
  refine own_go (fun t k => XS.goto X0.here hx rfl (pc0 := 8) (pc' := 12) rfl (hb hby dc_8) (by decide) (by decide) k) ?_
  show own_G p.tables e below s _ _ _ (s₁.setTop (mkF m 12 #[.val (.int p1)] [(.int (1 : Int32))]))
  exact own_retN X0 hx hlk (t := .boolean) (z' := (1 : Int32)) Bd.returns (by simp) (hb hby dc_12) (rfl) (by rw [e0]; exact ⟨rfl, N0, rfl⟩) (by decide) (by decide)
theorem dt_0 : decode jdk_43_method_46_code 0 = .ok (.iconst 1, 1) := by decide +kernel
theorem dt_1 : decode jdk_43_method_46_code 1 = .ok (.newarray .byte, 2) := by decide +kernel
theorem dt_3 : decode jdk_43_method_46_code 3 = .ok (.dup, 1) := by decide +kernel
theorem dt_4 : decode jdk_43_method_46_code 4 = .ok (.iconst 0, 1) := by decide +kernel
theorem dt_5 : decode jdk_43_method_46_code 5 = .ok (.iload_n 0, 1) := by decide +kernel
theorem dt_6 : decode jdk_43_method_46_code 6 = .ok (.i2b, 1) := by decide +kernel
theorem dt_7 : decode jdk_43_method_46_code 7 = .ok (.bastore, 1) := by decide +kernel
theorem dt_8 : decode jdk_43_method_46_code 8 = .ok (.areturn, 1) := by decide +kernel
theorem ef_t (m : MethodId) (x0 : Int32) : entryFrame m #[(.int x0)] 1 = mkF m 0 #[.val (.int x0)] [] := by first | (simp [entryFrame, mkF, argsToLocals, Value.category]; done) | rfl
def Qt (Z : State) (p1 : Int32) (h0 : Heap) (n0 : Nat) (v : Option Value) (h : Heap) (L : List Loc) : Prop := (∃ b : Addr, v = some (.ref b)) ∧ Fr n0 L ∧ Keep h0 h []
set_option maxRecDepth 65536 in
set_option maxHeartbeats 40000000 in
theorem rmt (l : Launch) (Z : State) (a0 : Array Value) (hw : ∀ d ∈ tables_1, d.before a0 Z = true) (ws : List Jvm.Cond) (p1 : Int32) (h0 : Heap) (n0 : Nat) (Z0 : n0 ≤ h0.size)  :
    MetFree l (⟨"java/lang/StringLatin1", "toBytes", "(C)[B"⟩ : MethodName) (head1 (Jvm.Cond.code (⟨"java/lang/StringLatin1", "toBytes", "(C)[B"⟩ : MethodName) jdk_43_method_46_code 1 (some (.array .byte)) :: ws) ({ frames := 0, cells := 1, slots := 1, locals := 0 } : Room)) (fun a U => a = #[(.int p1)] ∧ Z.Warmed39 U.vm ∧ U.heap = h0) (fun _ _ _ _ _ => True) (fun _ U o U' => ∃ v L, o = .returned v ∧ Qt Z p1 h0 n0 v U'.heap L ∧ FrameEnd U o U' L ({ frames := 0, cells := 1, slots := 1, locals := 0 } : Room).cells ({ frames := 0, cells := 1, slots := 1, locals := 0 } : Room).slots) := by
  refine MetFree.of_bodySF (plainFor_of_name pn_java_lang_StringLatin1) hisR ?_
  intro p e s m args below meth c s₁ Bd hml0 hP hK
  obtain ⟨rfl, hZ, hh⟩ := hP
  have hx := Bd.exec
  have hby := Bd.bytes
  have hlk : meth.locks = false := BodyLoose.notSynchronized Bd
  have hml : c.maxLocals = 1 := hml0
  have hown : s.vm.findClass "java/lang/StringLatin1" = some m.cls := findClass_of_methodNamed Bd.named
  have hnm := (name_of_methodNamed Bd.named Bd.method).1
  have X0 : Stand p l e ({ frames := 0, cells := 1, slots := 1, locals := 0 } : Room) s m #[(.int p1)] below meth c s₁ [] 0 0 := Stand.of_body Bd
  have e0 : s₁.heap = h0 := by rw [← hh, Bd.state]; rfl
  have N0 := Fr.nil n0
  show own_G p.tables e below s (Qt Z p1 h0 n0) ({ frames := 0, cells := 1, slots := 1, locals := 0 } : Room).cells ({ frames := 0, cells := 1, slots := 1, locals := 0 } : Room).slots (s₁.setTop (entryFrame m #[(.int p1)] 1))
  refine own_go (fun t k => castTop (ef_t m p1) k) ?_
  show own_G p.tables e below s _ _ _ (s₁.setTop (mkF m 0 #[.val (.int p1)] []))
  refine own_go (fun t k => XS.iconst X0.here hx rfl (hb hby dt_0) k) ?_
  show own_G p.tables e below s _ _ _ (s₁.setTop (mkF m 1 #[.val (.int p1)] [(.int (1 : Int32))]))
  obtain ⟨T1, h1, k1, X1, e1, E1, A1, st1⟩ := newP X0 hx hZ (hw _ (List.mem_of_getElem? (i := 14) rfl)) e0 (g := (mkF m 1 #[.val (.int p1)] [(.int (1 : Int32))])) rfl (hb hby dt_1) rfl (by decide) (cap := 1) (by decide) (by decide) (by decide) (by decide)
  obtain ⟨b1, g1⟩ : ∃ z, z = h0.size := ⟨_, rfl⟩
  rw [← g1] at A1 st1
  refine own_go st1 ?_
  have g2 := Nat.le_trans Z0 (Nat.le_of_eq g1.symm)
  have s3 := Nat.le_trans (Keep.refl h0 []).1 (Nat.le_of_eq g1.symm)
  have z4 := Nat.le_trans Z0 E1.1
  have k5 := (Keep.refl h0 []).ext E1
  have v6 : Arv Z h1 b1 k1 .byte (1 : Int32) [(.int (0 : Int32))] (.int (0 : Int32)) := (Arv.new A1 (by decide)).pad (pad_rep [] (.int (0 : Int32)) 1)
  show own_G p.tables e below s _ _ _ (T1.setTop (mkF m 3 #[.val (.int p1)] [(.ref b1)]))
  refine own_go (fun t k => XS.dup X1.here hx rfl (hb hby dt_3) rfl rfl k) ?_
  show own_G p.tables e below s _ _ _ (T1.setTop (mkF m 4 #[.val (.int p1)] [(.ref b1), (.ref b1)]))
  refine own_go (fun t k => XS.iconst X1.here hx rfl (hb hby dt_4) k) ?_
  show own_G p.tables e below s _ _ _ (T1.setTop (mkF m 5 #[.val (.int p1)] [(.int (0 : Int32)), (.ref b1), (.ref b1)]))
  refine own_go (fun t k => XS.iloadN X1.here hx rfl (hb hby dt_5) rfl k) ?_
  show own_G p.tables e below s _ _ _ (T1.setTop (mkF m 6 #[.val (.int p1)] [(.int p1), (.int (0 : Int32)), (.ref b1), (.ref b1)]))
  refine own_go (fun t k => XS.i2b X1.here hx rfl (hb hby dt_6) rfl k) ?_
  show own_G p.tables e below s _ _ _ (T1.setTop (mkF m 7 #[.val (.int p1)] [(.int (p1.toInt8.toInt32)), (.int (0 : Int32)), (.ref b1), (.ref b1)]))
  obtain ⟨cl7, Ar7, q7, S7, NN7, HH7, GG7⟩ := v6
  have hin7 : ¬ ((0 : Int32) < 0 ∨ cl7.slots.size ≤ ((0 : Int32)).toNatClampNeg) := inb_of S7 ⟨by decide, by decide⟩
  obtain ⟨T7, h7, X7, e7, W7, st7⟩ := stB X1 hx hZ e1 Ar7 (j := (0 : Int32)) hin7 (g := (mkF m 7 #[.val (.int p1)] [(.int (p1.toInt8.toInt32)), (.int (0 : Int32)), (.ref b1), (.ref b1)])) rfl rfl (hb hby dt_7)
  refine own_go st7 ?_
  have v8 : Arv Z h7 b1 k1 .byte (1 : Int32) [(.int (nar .byte (p1.toInt8.toInt32)))] (.int (0 : Int32)) := Arv.set Ar7 q7 S7 NN7 HH7 GG7 (fits_nar_byte _) W7 0 rfl (Nat.le_of_ble_eq_true rfl)
  have z9 := Nat.le_trans z4 (Keep.of_wr W7).1
  have k10 := k5.wr W7 (Or.inr s3)
  have N7 := Fr.snoc X7 N0 g2
  show own_G p.tables e below s _ _ _ (T7.setTop (mkF m 8 #[.val (.int p1)] [(.ref b1)]))
  exact own_retA X7 hx hlk Bd.returns rfl rfl (hb hby dt_8) (by rw [e7]; exact ⟨⟨_, rfl⟩, N7, k10⟩) (by decide) (by decide)
theorem ds_0 : decode jdk_42_method_151_code 0 = .ok (.aload_n 0, 1) := by decide +kernel
theorem ds_1 : decode jdk_42_method_151_code 1 = .ok (.invokespecial 1, 3) := by decide +kernel
theorem ds_4 : decode jdk_42_method_151_code 4 = .ok (.aload_n 0, 1) := by decide +kernel
theorem ds_5 : decode jdk_42_method_151_code 5 = .ok (.aload_n 1, 1) := by decide +kernel
theorem ds_6 : decode jdk_42_method_151_code 6 = .ok (.putfield 9, 3) := by decide +kernel
theorem ds_9 : decode jdk_42_method_151_code 9 = .ok (.aload_n 0, 1) := by decide +kernel
theorem ds_10 : decode jdk_42_method_151_code 10 = .ok (.iload_n 2, 1) := by decide +kernel
theorem ds_11 : decode jdk_42_method_151_code 11 = .ok (.putfield 15, 3) := by decide +kernel
theorem ds_14 : decode jdk_42_method_151_code 14 = .ok (.return_, 1) := by decide +kernel
theorem pn_java_lang_String : plainName "java/lang/String" = true := by first | (simp [plainName, overriddenIn]; done) | decide +kernel
theorem ef_s (m : MethodId) (x0 : Addr) (x1 : Addr) (x2 : Int32) : entryFrame m #[(.ref x0), (.ref x1), (.int x2)] 3 = mkF m 0 #[.val (.ref x0), .val (.ref x1), .val (.int x2)] [] := by first | (simp [entryFrame, mkF, argsToLocals, Value.category]; done) | rfl
def Qs (Z : State) (a1 a2 : Addr) (h0 : Heap) (n0 : Nat) (v : Option Value) (h : Heap) (L : List Loc) : Prop := v = none ∧ Fr n0 L ∧ Keep h0 h [a1]
set_option maxRecDepth 65536 in
set_option maxHeartbeats 40000000 in
theorem rms (l : Launch) (Z : State) (a0 : Array Value) (hw : ∀ d ∈ tables_1, d.before a0 Z = true) (ws : List Jvm.Cond) (a1 a2 : Addr) (h0 : Heap) (n0 : Nat) (Z0 : n0 ≤ h0.size) (E1 : Exa Z h0 a1 "java/lang/String") (Fv : Fld Z h0 a1 "java/lang/String" "value" "[B" .null) (Fc : Fld Z h0 a1 "java/lang/String" "coder" "B" (.int (0 : Int32))) (g1 : n0 ≤ a1) :
    MetFree l (⟨"java/lang/String", "<init>", "([BB)V"⟩ : MethodName) (head1 (Jvm.Cond.code (⟨"java/lang/String", "<init>", "([BB)V"⟩ : MethodName) jdk_42_method_151_code 3 none :: ws) ({ frames := 1, cells := 0, slots := 0, locals := 12 } : Room)) (fun a U => a = #[(.ref a1), (.ref a2), (.int (0 : Int32))] ∧ Z.Warmed39 U.vm ∧ U.heap = h0) (fun _ _ _ _ _ => True) (fun _ U o U' => ∃ v L, o = .returned v ∧ Qs Z a1 a2 h0 n0 v U'.heap L ∧ FrameEnd U o U' L ({ frames := 1, cells := 0, slots := 0, locals := 12 } : Room).cells ({ frames := 1, cells := 0, slots := 0, locals := 12 } : Room).slots) := by
  refine MetFree.of_bodySF (plainFor_of_name pn_java_lang_String) hisR ?_
  intro p e s m args below meth c s₁ Bd hml0 hP hK
  obtain ⟨rfl, hZ, hh⟩ := hP
  have hx := Bd.exec
  have hby := Bd.bytes
  have hlk : meth.locks = false := BodyLoose.notSynchronized Bd
  have hml : c.maxLocals = 3 := hml0
  have hown : s.vm.findClass "java/lang/String" = some m.cls := findClass_of_methodNamed Bd.named
  have hnm := (name_of_methodNamed Bd.named Bd.method).1
  have X0 : Stand p l e ({ frames := 1, cells := 0, slots := 0, locals := 12 } : Room) s m #[(.ref a1), (.ref a2), (.int (0 : Int32))] below meth c s₁ [] 0 0 := Stand.of_body Bd
  have e0 : s₁.heap = h0 := by rw [← hh, Bd.state]; rfl
  have N0 := Fr.nil n0
  show own_G p.tables e below s (Qs Z a1 a2 h0 n0) ({ frames := 1, cells := 0, slots := 0, locals := 12 } : Room).cells ({ frames := 1, cells := 0, slots := 0, locals := 12 } : Room).slots (s₁.setTop (entryFrame m #[(.ref a1), (.ref a2), (.int (0 : Int32))] 3))
  refine own_go (fun t k => castTop (ef_s m a1 a2 (0 : Int32)) k) ?_
  show own_G p.tables e below s _ _ _ (s₁.setTop (mkF m 0 #[.val (.ref a1), .val (.ref a2), .val (.int (0 : Int32))] []))
  refine own_go (fun t k => XS.aloadN X0.here hx rfl (hb hby ds_0) rfl rfl k) ?_
  show own_G p.tables e below s _ _ _ (s₁.setTop (mkF m 1 #[.val (.ref a1), .val (.ref a2), .val (.int (0 : Int32))] [(.ref a1)]))
  obtain ⟨T11, X11, e11, st11⟩ := initO X0 hx hZ hown (hw _ (List.mem_of_getElem? (i := 19) rfl)) (hw _ (List.mem_of_getElem? (i := 20) rfl)) (hw _ (List.mem_of_getElem? (i := 21) rfl)) e0 (g := (mkF m 1 #[.val (.ref a1), .val (.ref a2), .val (.int (0 : Int32))] [(.ref a1)])) rfl (by rw [hml]; rfl) rfl (hb hby ds_1) (by decide) (W := 0) (by show 2 * 0 + _ ≤ _; exact Nat.le_of_eq rfl) (by decide)
  refine own_go st11 ?_
  show own_G p.tables e below s _ _ _ (T11.setTop (mkF m 4 #[.val (.ref a1), .val (.ref a2), .val (.int (0 : Int32))] []))
  refine own_go (fun t k => XS.aloadN X11.here hx rfl (hb hby ds_4) rfl rfl k) ?_
  show own_G p.tables e below s _ _ _ (T11.setTop (mkF m 5 #[.val (.ref a1), .val (.ref a2), .val (.int (0 : Int32))] [(.ref a1)]))
  refine own_go (fun t k => XS.aloadN X11.here hx rfl (hb hby ds_5) rfl rfl k) ?_
  show own_G p.tables e below s _ _ _ (T11.setTop (mkF m 6 #[.val (.ref a1), .val (.ref a2), .val (.int (0 : Int32))] [(.ref a2), (.ref a1)]))
  obtain ⟨T12, h12, X12, e12, W12, st12⟩ := putF X11 hx hZ hown (host := "") (Or.inl (hw _ (List.mem_of_getElem? (i := 22) rfl))) Via.refl e11 Fv E1 (Or.inr ⟨(hw _ (List.mem_of_getElem? (i := 23) rfl)), rfl, hnm⟩) (hw _ (List.mem_of_getElem? (i := 10) rfl)) (ty := (.array .byte)) (by decide) rfl rfl (g := (mkF m 6 #[.val (.ref a1), .val (.ref a2), .val (.int (0 : Int32))] [(.ref a2), (.ref a1)])) rfl rfl (hb hby ds_6)
  have N12 := Fr.snoc X12 N0 g1
  refine own_go st12 ?_
  have f13 := Fld.same W12 Fv
  have f14 := Exa.wr W12 E1
  have f15 := Fld.other W12 Fc (Or.inr (slot_ne (Or.inr (hw _ (List.mem_of_getElem? (i := 25) rfl))) (Or.inr (hw _ (List.mem_of_getElem? (i := 23) rfl))) (by decide) (t := .byte) (t' := (.array .byte)) (by decide) (by decide)))
  have z16 := Nat.le_trans Z0 (Keep.of_wr W12).1
  have k17 := (Keep.refl h0 [a1]).wr W12 (Or.inl (List.mem_of_getElem? (i := 0) rfl))
  show own_G p.tables e below s _ _ _ (T12.setTop (mkF m 9 #[.val (.ref a1), .val (.ref a2), .val (.int (0 : Int32))] []))
  refine own_go (fun t k => XS.aloadN X12.here hx rfl (hb hby ds_9) rfl rfl k) ?_
  show own_G p.tables e below s _ _ _ (T12.setTop (mkF m 10 #[.val (.ref a1), .val (.ref a2), .val (.int (0 : Int32))] [(.ref a1)]))
  refine own_go (fun t k => XS.iloadN X12.here hx rfl (hb hby ds_10) rfl k) ?_
  show own_G p.tables e below s _ _ _ (T12.setTop (mkF m 11 #[.val (.ref a1), .val (.ref a2), .val (.int (0 : Int32))] [(.int (0 : Int32)), (.ref a1)]))
  obtain ⟨T18, h18, X18, e18, W18, st18⟩ := putF X12 hx hZ hown (host := "") (Or.inl (hw _ (List.mem_of_getElem? (i := 24) rfl))) Via.refl e12 f15 f14 (Or.inr ⟨(hw _ (List.mem_of_getElem? (i := 25) rfl)), rfl, hnm⟩) (hw _ (List.mem_of_getElem? (i := 10) rfl)) (ty := .byte) (by decide) rfl rfl (g := (mkF m 11 #[.val (.ref a1), .val (.ref a2), .val (.int (0 : Int32))] [(.int (0 : Int32)), (.ref a1)])) rfl rfl (hb hby ds_11)
  have N18 := Fr.snoc X18 N12 g1
  refine own_go st18 ?_
  have f19 := Fld.same W18 f15
  have f20 := Exa.wr W18 f14
  have f21 := Fld.other W18 f13 (Or.inr (slot_ne (Or.inr (hw _ (List.mem_of_getElem? (i := 23) rfl))) (Or.inr (hw _ (List.mem_of_getElem? (i := 25) rfl))) (by decide) (t := (.array .byte)) (t' := .byte) (by decide) (by decide)))
  have z22 := Nat.le_trans z16 (Keep.of_wr W18).1
  have k23 := k17.wr W18 (Or.inl (List.mem_of_getElem? (i := 0) rfl))
  show own_G p.tables e below s _ _ _ (T18.setTop (mkF m 14 #[.val (.ref a1), .val (.ref a2), .val (.int (0 : Int32))] []))
  exact own_retV X18 hx hlk Bd.returns (hb hby ds_14) (by rw [e18]; exact ⟨rfl, N18, k23⟩) (by decide) (by decide)
theorem dv_0 : decode jdk_42_method_139_code 0 = .ok (.getstatic 38, 3) := by decide +kernel
theorem dv_3 : decode jdk_42_method_139_code 3 = .ok (.ifCond .eq 23, 3) := by decide +kernel
theorem dv_6 : decode jdk_42_method_139_code 6 = .ok (.iload_n 0, 1) := by decide +kernel
theorem pd__C_Z : parseMethodDescriptor "(C)Z" = some ⟨[.char], some .boolean⟩ := by decide +kernel
theorem dv_7 : decode jdk_42_method_139_code 7 = .ok (.invokestatic 1015, 3) := by decide +kernel
theorem dv_10 : decode jdk_42_method_139_code 10 = .ok (.ifCond .eq 16, 3) := by decide +kernel
theorem dv_13 : decode jdk_42_method_139_code 13 = .ok (.new 10, 3) := by decide +kernel
theorem dv_16 : decode jdk_42_method_139_code 16 = .ok (.dup, 1) := by decide +kernel
theorem dv_17 : decode jdk_42_method_139_code 17 = .ok (.iload_n 0, 1) := by decide +kernel
theorem pd__C__B : parseMethodDescriptor "(C)[B" = some ⟨[.char], some (.array .byte)⟩ := by decide +kernel
theorem dv_18 : decode jdk_42_method_139_code 18 = .ok (.invokestatic 1018, 3) := by decide +kernel
theorem dv_21 : decode jdk_42_method_139_code 21 = .ok (.iconst 0, 1) := by decide +kernel
theorem pd___BB_V : parseMethodDescriptor "([BB)V" = some ⟨[(.array .byte), .byte], none⟩ := by decide +kernel
theorem dv_22 : decode jdk_42_method_139_code 22 = .ok (.invokespecial 209, 3) := by decide +kernel
theorem dv_25 : decode jdk_42_method_139_code 25 = .ok (.areturn, 1) := by decide +kernel
theorem ef_v (m : MethodId) (x0 : Int32) : entryFrame m #[(.int x0)] 1 = mkF m 0 #[.val (.int x0)] [] := by first | (simp [entryFrame, mkF, argsToLocals, Value.category]; done) | rfl
def Qv (Z : State) (p1 w1 : Int32) (h0 : Heap) (n0 : Nat) (v : Option Value) (h : Heap) (L : List Loc) : Prop := (∃ b : Addr, v = some (.ref b)) ∧ Fr n0 L ∧ Keep h0 h []
set_option maxRecDepth 65536 in
set_option maxHeartbeats 40000000 in
theorem rmv (l : Launch) (Z : State) (a0 : Array Value) (hw : ∀ d ∈ tables_1, d.before a0 Z = true) (ws : List Jvm.Cond) (p1 w1 : Int32) (h0 : Heap) (n0 : Nat) (Z0 : n0 ≤ h0.size) (S1 : Sta Z h0 "java/lang/String" "COMPACT_STRINGS" "Z" (.int w1)) (hw1 : ¬ w1 = 0) (hp : ¬ ((255 : Int32) < p1)) :
    MetFree l (⟨"java/lang/String", "valueOf", "(C)Ljava/lang/String;"⟩ : MethodName) (head1 (Jvm.Cond.code (⟨"java/lang/String", "valueOf", "(C)Ljava/lang/String;"⟩ : MethodName) jdk_42_method_139_code 1 (some (.object "java/lang/String")) :: ws) ({ frames := 2, cells := 2, slots := 5, locals := 27 } : Room)) (fun a U => a = #[(.int p1)] ∧ Z.Warmed39 U.vm ∧ U.heap = h0) (fun _ _ _ _ _ => True) (fun _ U o U' => ∃ v L, o = .returned v ∧ Qv Z p1 w1 h0 n0 v U'.heap L ∧ FrameEnd U o U' L ({ frames := 2, cells := 2, slots := 5, locals := 27 } : Room).cells ({ frames := 2, cells := 2, slots := 5, locals := 27 } : Room).slots) := by
  refine MetFree.of_bodySF (plainFor_of_name pn_java_lang_String) hisR ?_
  intro p e s m args below meth c s₁ Bd hml0 hP hK
  obtain ⟨rfl, hZ, hh⟩ := hP
  have hx := Bd.exec
  have hby := Bd.bytes
  have hlk : meth.locks = false := BodyLoose.notSynchronized Bd
  have hml : c.maxLocals = 1 := hml0
  have hown : s.vm.findClass "java/lang/String" = some m.cls := findClass_of_methodNamed Bd.named
  have hnm := (name_of_methodNamed Bd.named Bd.method).1
  have X0 : Stand p l e ({ frames := 2, cells := 2, slots := 5, locals := 27 } : Room) s m #[(.int p1)] below meth c s₁ [] 0 0 := Stand.of_body Bd
  have e0 : s₁.heap = h0 := by rw [← hh, Bd.state]; rfl
  have N0 := Fr.nil n0
  show own_G p.tables e below s (Qv Z p1 w1 h0 n0) ({ frames := 2, cells := 2, slots := 5, locals := 27 } : Room).cells ({ frames := 2, cells := 2, slots := 5, locals := 27 } : Room).slots (s₁.setTop (entryFrame m #[(.int p1)] 1))
  refine own_go (fun t k => castTop (ef_v m p1) k) ?_
  show own_G p.tables e below s _ _ _ (s₁.setTop (mkF m 0 #[.val (.int p1)] []))
  obtain ⟨T24, X24, e24, st24⟩ := getS X0 hx hZ hown (host := "") (hw _ (List.mem_of_getElem? (i := 4) rfl)) Via.refl e0 S1 (g := (mkF m 0 #[.val (.int p1)] [])) rfl (hb hby dv_0)
  refine own_go st24 ?_
  show own_G p.tables e below s _ _ _ (T24.setTop (mkF m 3 #[.val (.int p1)] [(.int w1)]))
  refine own_go (fun t k => XS.ifNo X24.here hx rfl (hb hby dv_3) rfl (Jvm.Free.XT.i0_eq_f hw1) k) ?_
  show own_G p.tables e below s _ _ _ (T24.setTop (mkF m 6 #[.val (.int p1)] []))
  refine own_go (fun t k => XS.iloadN X24.here hx rfl (hb hby dv_6) rfl k) ?_
  show own_G p.tables e below s _ _ _ (T24.setTop (mkF m 7 #[.val (.int p1)] [(.int p1)]))
  obtain ⟨_, _, ⟨T25, L25, k25, n25⟩, -, X25, ⟨Lc25, hQ25, l25, y25, z25⟩, st25⟩ := Jvm.LawKit.callS X24 hx (y := (⟨"java/lang/StringLatin1", "canEncode", "(C)Z"⟩ : MethodName)) hown (mvT hZ (hw _ (List.mem_of_getElem? (i := 5) rfl))) (mvT hZ (hw _ (List.mem_of_getElem? (i := 6) rfl))) (mvT hZ (hw _ (List.mem_of_getElem? (i := 7) rfl))) (mvT hZ (hw _ (List.mem_of_getElem? (i := 8) rfl))) (by decide) (backOf (W := 0) (rmc l Z a0 hw [] p1 h0 n0 Z0 hp) hZ (hw _ (List.mem_of_getElem? (i := 8) rfl)) (hw _ (List.mem_of_getElem? (i := 7) rfl)) (by decide) (by decide)) (g := (mkF m 7 #[.val (.int p1)] [(.int p1)])) rfl (by rw [hml]; rfl) (argsL := [(.int p1)]) (rest := []) (lenOf pd__C_Z rfl) rfl (by show 2 * 0 + _ ≤ _; exact Nat.le_of_eq rfl) (hb hby dv_7) (fun _ _ => ⟨rfl, e24, (by decide : 0 + 0 ≤ _), (by decide : 0 + 0 ≤ _)⟩)
  dsimp only [Pt.U, Pt.locs, Pt.cells, Pt.slots] at X25 l25 y25 z25 st25 hQ25
  subst l25 y25 z25
  obtain ⟨rfl, N25q, hh25⟩ := hQ25
  have N25 := Fr.app N0 N25q
  refine own_go st25 ?_
  show own_G p.tables e below s _ _ _ (T25.setTop (mkF m 10 #[.val (.int p1)] [(.int (1 : Int32))]))
  refine own_go (fun t k => XS.ifNo X25.here hx rfl (hb hby dv_10) rfl (by decide) k) ?_
  show own_G p.tables e below s _ _ _ (T25.setTop (mkF m 13 #[.val (.int p1)] []))
  obtain ⟨T26, h26, X26, e26, E26, A26, D26, -, st26⟩ := newO X25 hx hZ hown (hw _ (List.mem_of_getElem? (i := 9) rfl)) (hw _ (List.mem_of_getElem? (i := 10) rfl)) (hw _ (List.mem_of_getElem? (i := 2) rfl)) hh25 (g := (mkF m 13 #[.val (.int p1)] [])) rfl (hb hby dv_13) (by decide) (by decide)
  obtain ⟨b26, g26⟩ : ∃ z, z = h0.size := ⟨_, rfl⟩
  rw [← g26] at A26 D26 st26
  refine own_go st26 ?_
  have g27 := Nat.le_trans Z0 (Nat.le_of_eq g26.symm)
  have s28 := Nat.le_trans (Keep.refl h0 []).1 (Nat.le_of_eq g26.symm)
  have z29 := Nat.le_trans Z0 E26.1
  have k30 := (Keep.refl h0 []).ext E26
  have f31 : Fld Z h26 b26 "java/lang/String" "value" "[B" .null := D26 (Or.inr (hw _ (List.mem_of_getElem? (i := 23) rfl))) (ty := (.array .byte)) (by decide)
  have f32 : Fld Z h26 b26 "java/lang/String" "coder" "B" (.int (0 : Int32)) := D26 (Or.inr (hw _ (List.mem_of_getElem? (i := 25) rfl))) (ty := .byte) (by decide)
  show own_G p.tables e below s _ _ _ (T26.setTop (mkF m 16 #[.val (.int p1)] [(.ref b26)]))
  refine own_go (fun t k => XS.dup X26.here hx rfl (hb hby dv_16) rfl rfl k) ?_
  show own_G p.tables e below s _ _ _ (T26.setTop (mkF m 17 #[.val (.int p1)] [(.ref b26), (.ref b26)]))
  refine own_go (fun t k => XS.iloadN X26.here hx rfl (hb hby dv_17) rfl k) ?_
  show own_G p.tables e below s _ _ _ (T26.setTop (mkF m 18 #[.val (.int p1)] [(.int p1), (.ref b26), (.ref b26)]))
  obtain ⟨_, _, ⟨T33, L33, k33, n33⟩, -, X33, ⟨Lc33, hQ33, l33, y33, z33⟩, st33⟩ := Jvm.LawKit.callS X26 hx (y := (⟨"java/lang/StringLatin1", "toBytes", "(C)[B"⟩ : MethodName)) hown (mvT hZ (hw _ (List.mem_of_getElem? (i := 11) rfl))) (mvT hZ (hw _ (List.mem_of_getElem? (i := 12) rfl))) (mvT hZ (hw _ (List.mem_of_getElem? (i := 7) rfl))) (mvT hZ (hw _ (List.mem_of_getElem? (i := 13) rfl))) (by decide) (backOf (W := 2) (rmt l Z a0 hw [] p1 h26 n0 z29) hZ (hw _ (List.mem_of_getElem? (i := 13) rfl)) (hw _ (List.mem_of_getElem? (i := 7) rfl)) (by decide) (by decide)) (g := (mkF m 18 #[.val (.int p1)] [(.int p1), (.ref b26), (.ref b26)])) rfl (by rw [hml]; rfl) (argsL := [(.int p1)]) (rest := [(.ref b26), (.ref b26)]) (lenOf pd__C__B rfl) rfl (by show 2 * 0 + _ ≤ _; exact Nat.le_of_eq rfl) (hb hby dv_18) (fun _ _ => ⟨rfl, e26, (by decide : 1 + 1 ≤ _), (by decide : 4 + 1 ≤ _)⟩)
  dsimp only [Pt.U, Pt.locs, Pt.cells, Pt.slots] at X33 l33 y33 z33 st33 hQ33
  subst l33 y33 z33
  obtain ⟨⟨t33, rfl⟩, N33q, K33⟩ := hQ33
  have N33 := Fr.app N25 N33q
  refine own_go st33 ?_
  have f34 := A26.keep K33
  have f35 := f31.keep K33 (fun q => nomatch q)
  have f36 := f32.keep K33 (fun q => nomatch q)
  have z37 := Nat.le_trans z29 K33.1
  have k38 := k30.trans K33 (fun x q => nomatch q)
  show own_G p.tables e below s _ _ _ (T33.setTop (mkF m 21 #[.val (.int p1)] [(.ref t33), (.ref b26), (.ref b26)]))
  refine own_go (fun t k => XS.iconst X33.here hx rfl (hb hby dv_21) k) ?_
  show own_G p.tables e below s _ _ _ (T33.setTop (mkF m 22 #[.val (.int p1)] [(.int (0 : Int32)), (.ref t33), (.ref b26), (.ref b26)]))
  obtain ⟨_, _, ⟨T39, L39, k39, n39⟩, -, X39, ⟨Lc39, hQ39, l39, y39, z39⟩, st39⟩ := X33.specialBack hx (y := (⟨"java/lang/String", "<init>", "([BB)V"⟩ : MethodName)) rfl hown (mvT hZ (hw _ (List.mem_of_getElem? (i := 15) rfl))) (mvT hZ (hw _ (List.mem_of_getElem? (i := 16) rfl))) (mvT hZ (hw _ (List.mem_of_getElem? (i := 18) rfl))) (by decide) (backOf (W := 1) (rms l Z a0 hw [] b26 t33 T33.heap n0 z37 f34 f35 f36 g27) hZ (hw _ (List.mem_of_getElem? (i := 18) rfl)) (hw _ (List.mem_of_getElem? (i := 2) rfl)) (by decide) (by decide)) (g := (mkF m 22 #[.val (.int p1)] [(.int (0 : Int32)), (.ref t33), (.ref b26), (.ref b26)])) rfl (by rw [hml]; rfl) (Steps.refl _) (a := b26) (argsL := [(.ref t33), (.int (0 : Int32))]) (rest := [(.ref b26)]) (lenOf pd___BB_V rfl) rfl (by show 2 * 0 + _ ≤ _; exact Nat.le_of_eq rfl) (hb hby dv_22) (fun _ _ => ⟨rfl, rfl, (by decide : 2 + 0 ≤ _), (by decide : 5 + 0 ≤ _)⟩)
  dsimp only [Pt.U, Pt.locs, Pt.cells, Pt.slots] at X39 l39 y39 z39 st39 hQ39
  subst l39 y39 z39
  obtain ⟨rfl, N39q, K39⟩ := hQ39
  have N39 := Fr.app N33 N39q
  refine own_go (fun t k => st39.trans k) ?_
  have f40 := f34.keep K39
  have z41 := Nat.le_trans z37 K39.1
  have k42 := k38.trans K39 (fun x => (fun q => (List.mem_cons.mp q).elim (fun e => e ▸ Or.inr s28) (fun q => nomatch q)))
  show own_G p.tables e below s _ _ _ (T39.setTop (mkF m 25 #[.val (.int p1)] [(.ref b26)]))
  exact own_retA X39 hx hlk Bd.returns rfl rfl (hb hby dv_25) (⟨⟨_, rfl⟩, N39, k42⟩) (by decide) (by decide)
theorem dj_0 : decode prog_8_method_1_code 0 = .ok (.aload_n 0, 1) := by decide +kernel
theorem dj_1 : decode prog_8_method_1_code 1 = .ok (.invokespecial 1, 3) := by decide +kernel
theorem dj_4 : decode prog_8_method_1_code 4 = .ok (.aload_n 0, 1) := by decide +kernel
theorem dj_5 : decode prog_8_method_1_code 5 = .ok (.aload_n 1, 1) := by decide +kernel
theorem dj_6 : decode prog_8_method_1_code 6 = .ok (.putfield 7, 3) := by decide +kernel
theorem dj_9 : decode prog_8_method_1_code 9 = .ok (.aload_n 0, 1) := by decide +kernel
theorem dj_10 : decode prog_8_method_1_code 10 = .ok (.aload_n 2, 1) := by decide +kernel
theorem dj_11 : decode prog_8_method_1_code 11 = .ok (.putfield 13, 3) := by decide +kernel
theorem dj_14 : decode prog_8_method_1_code 14 = .ok (.aload_n 0, 1) := by decide +kernel
theorem dj_15 : decode prog_8_method_1_code 15 = .ok (.iload_n 3, 1) := by decide +kernel
theorem dj_16 : decode prog_8_method_1_code 16 = .ok (.putfield 16, 3) := by decide +kernel
theorem dj_19 : decode prog_8_method_1_code 19 = .ok (.return_, 1) := by decide +kernel
theorem pn_com_example_options_into_arguments_optionsintoarguments_evaluation_Judgment : plainName "com/example/options_into_arguments/optionsintoarguments/evaluation/Judgment" = true := by first | (simp [plainName, overriddenIn]; done) | decide +kernel
theorem ef_j (m : MethodId) (x0 : Addr) (x1 : Addr) (x2 : Addr) (x3 : Int32) : entryFrame m #[(.ref x0), (.ref x1), (.ref x2), (.int x3)] 4 = mkF m 0 #[.val (.ref x0), .val (.ref x1), .val (.ref x2), .val (.int x3)] [] := by first | (simp [entryFrame, mkF, argsToLocals, Value.category]; done) | rfl
def Qj (Z : State) (a1 a2 a3 : Addr) (p4 : Int32) (h0 : Heap) (n0 : Nat) (v : Option Value) (h : Heap) (L : List Loc) : Prop := v = none ∧ Fr n0 L ∧ Keep h0 h [a1] ∧ Fld Z h a1 "com/example/options_into_arguments/optionsintoarguments/evaluation/Judgment" "grade" "I" (.int p4)
set_option maxRecDepth 65536 in
set_option maxHeartbeats 40000000 in
theorem rmj (l : Launch) (Z : State) (a0 : Array Value) (hw : ∀ d ∈ tables_1, d.before a0 Z = true) (ws : List Jvm.Cond) (a1 a2 a3 : Addr) (p4 : Int32) (h0 : Heap) (n0 : Nat) (Z0 : n0 ≤ h0.size) (E1 : Exa Z h0 a1 "com/example/options_into_arguments/optionsintoarguments/evaluation/Judgment") (Ft : Fld Z h0 a1 "com/example/options_into_arguments/optionsintoarguments/evaluation/Judgment" "topic" "Ljava/lang/String;" .null) (Fd : Fld Z h0 a1 "com/example/options_into_arguments/optionsintoarguments/evaluation/Judgment" "document" "Ljava/lang/String;" .null) (Fg : Fld Z h0 a1 "com/example/options_into_arguments/optionsintoarguments/evaluation/Judgment" "grade" "I" (.int (0 : Int32))) (g1 : n0 ≤ a1) :
    MetFree l (⟨"com/example/options_into_arguments/optionsintoarguments/evaluation/Judgment", "<init>", "(Ljava/lang/String;Ljava/lang/String;I)V"⟩ : MethodName) (head1 (Jvm.Cond.code (⟨"com/example/options_into_arguments/optionsintoarguments/evaluation/Judgment", "<init>", "(Ljava/lang/String;Ljava/lang/String;I)V"⟩ : MethodName) prog_8_method_1_code 4 none :: ws) ({ frames := 1, cells := 0, slots := 0, locals := 12 } : Room)) (fun a U => a = #[(.ref a1), (.ref a2), (.ref a3), (.int p4)] ∧ Z.Warmed39 U.vm ∧ U.heap = h0) (fun _ _ _ _ _ => True) (fun _ U o U' => ∃ v L, o = .returned v ∧ Qj Z a1 a2 a3 p4 h0 n0 v U'.heap L ∧ FrameEnd U o U' L ({ frames := 1, cells := 0, slots := 0, locals := 12 } : Room).cells ({ frames := 1, cells := 0, slots := 0, locals := 12 } : Room).slots) := by
  refine MetFree.of_bodySF (plainFor_of_name pn_com_example_options_into_arguments_optionsintoarguments_evaluation_Judgment) hisR ?_
  intro p e s m args below meth c s₁ Bd hml0 hP hK
  obtain ⟨rfl, hZ, hh⟩ := hP
  have hx := Bd.exec
  have hby := Bd.bytes
  have hlk : meth.locks = false := BodyLoose.notSynchronized Bd
  have hml : c.maxLocals = 4 := hml0
  have hown : s.vm.findClass "com/example/options_into_arguments/optionsintoarguments/evaluation/Judgment" = some m.cls := findClass_of_methodNamed Bd.named
  have hnm := (name_of_methodNamed Bd.named Bd.method).1
  have X0 : Stand p l e ({ frames := 1, cells := 0, slots := 0, locals := 12 } : Room) s m #[(.ref a1), (.ref a2), (.ref a3), (.int p4)] below meth c s₁ [] 0 0 := Stand.of_body Bd
  have e0 : s₁.heap = h0 := by rw [← hh, Bd.state]; rfl
  have N0 := Fr.nil n0
  show own_G p.tables e below s (Qj Z a1 a2 a3 p4 h0 n0) ({ frames := 1, cells := 0, slots := 0, locals := 12 } : Room).cells ({ frames := 1, cells := 0, slots := 0, locals := 12 } : Room).slots (s₁.setTop (entryFrame m #[(.ref a1), (.ref a2), (.ref a3), (.int p4)] 4))
  refine own_go (fun t k => castTop (ef_j m a1 a2 a3 p4) k) ?_
  show own_G p.tables e below s _ _ _ (s₁.setTop (mkF m 0 #[.val (.ref a1), .val (.ref a2), .val (.ref a3), .val (.int p4)] []))
  refine own_go (fun t k => XS.aloadN X0.here hx rfl (hb hby dj_0) rfl rfl k) ?_
  show own_G p.tables e below s _ _ _ (s₁.setTop (mkF m 1 #[.val (.ref a1), .val (.ref a2), .val (.ref a3), .val (.int p4)] [(.ref a1)]))
  obtain ⟨T43, X43, e43, st43⟩ := initO X0 hx hZ hown (hw _ (List.mem_of_getElem? (i := 32) rfl)) (hw _ (List.mem_of_getElem? (i := 20) rfl)) (hw _ (List.mem_of_getElem? (i := 21) rfl)) e0 (g := (mkF m 1 #[.val (.ref a1), .val (.ref a2), .val (.ref a3), .val (.int p4)] [(.ref a1)])) rfl (by rw [hml]; rfl) rfl (hb hby dj_1) (by decide) (W := 0) (by show 2 * 0 + _ ≤ _; exact Nat.le_of_eq rfl) (by decide)
  refine own_go st43 ?_
  show own_G p.tables e below s _ _ _ (T43.setTop (mkF m 4 #[.val (.ref a1), .val (.ref a2), .val (.ref a3), .val (.int p4)] []))
  refine own_go (fun t k => XS.aloadN X43.here hx rfl (hb hby dj_4) rfl rfl k) ?_
  show own_G p.tables e below s _ _ _ (T43.setTop (mkF m 5 #[.val (.ref a1), .val (.ref a2), .val (.ref a3), .val (.int p4)] [(.ref a1)]))
  refine own_go (fun t k => XS.aloadN X43.here hx rfl (hb hby dj_5) rfl rfl k) ?_
  show own_G p.tables e below s _ _ _ (T43.setTop (mkF m 6 #[.val (.ref a1), .val (.ref a2), .val (.ref a3), .val (.int p4)] [(.ref a2), (.ref a1)]))
  obtain ⟨T44, h44, X44, e44, W44, st44⟩ := putF X43 hx hZ hown (host := "") (Or.inl (hw _ (List.mem_of_getElem? (i := 33) rfl))) Via.refl e43 Ft E1 (Or.inr ⟨(hw _ (List.mem_of_getElem? (i := 34) rfl)), rfl, hnm⟩) (hw _ (List.mem_of_getElem? (i := 27) rfl)) (ty := (.object "java/lang/String")) (by decide) rfl rfl (g := (mkF m 6 #[.val (.ref a1), .val (.ref a2), .val (.ref a3), .val (.int p4)] [(.ref a2), (.ref a1)])) rfl rfl (hb hby dj_6)
  have N44 := Fr.snoc X44 N0 g1
  refine own_go st44 ?_
  have f45 := Fld.same W44 Ft
  have f46 := Exa.wr W44 E1
  have f47 := Fld.other W44 Fd (Or.inr (slot_ne (Or.inr (hw _ (List.mem_of_getElem? (i := 36) rfl))) (Or.inr (hw _ (List.mem_of_getElem? (i := 34) rfl))) (by decide) (t := (.object "java/lang/String")) (t' := (.object "java/lang/String")) (by decide) (by decide)))
  have f48 := Fld.other W44 Fg (Or.inr (slot_ne (Or.inr (hw _ (List.mem_of_getElem? (i := 38) rfl))) (Or.inr (hw _ (List.mem_of_getElem? (i := 34) rfl))) (by decide) (t := .int) (t' := (.object "java/lang/String")) (by decide) (by decide)))
  have z49 := Nat.le_trans Z0 (Keep.of_wr W44).1
  have k50 := (Keep.refl h0 [a1]).wr W44 (Or.inl (List.mem_of_getElem? (i := 0) rfl))
  show own_G p.tables e below s _ _ _ (T44.setTop (mkF m 9 #[.val (.ref a1), .val (.ref a2), .val (.ref a3), .val (.int p4)] []))
  refine own_go (fun t k => XS.aloadN X44.here hx rfl (hb hby dj_9) rfl rfl k) ?_
  show own_G p.tables e below s _ _ _ (T44.setTop (mkF m 10 #[.val (.ref a1), .val (.ref a2), .val (.ref a3), .val (.int p4)] [(.ref a1)]))
  refine own_go (fun t k => XS.aloadN X44.here hx rfl (hb hby dj_10) rfl rfl k) ?_
  show own_G p.tables e below s _ _ _ (T44.setTop (mkF m 11 #[.val (.ref a1), .val (.ref a2), .val (.ref a3), .val (.int p4)] [(.ref a3), (.ref a1)]))
  obtain ⟨T51, h51, X51, e51, W51, st51⟩ := putF X44 hx hZ hown (host := "") (Or.inl (hw _ (List.mem_of_getElem? (i := 35) rfl))) Via.refl e44 f47 f46 (Or.inr ⟨(hw _ (List.mem_of_getElem? (i := 36) rfl)), rfl, hnm⟩) (hw _ (List.mem_of_getElem? (i := 27) rfl)) (ty := (.object "java/lang/String")) (by decide) rfl rfl (g := (mkF m 11 #[.val (.ref a1), .val (.ref a2), .val (.ref a3), .val (.int p4)] [(.ref a3), (.ref a1)])) rfl rfl (hb hby dj_11)
  have N51 := Fr.snoc X51 N44 g1
  refine own_go st51 ?_
  have f52 := Fld.same W51 f47
  have f53 := Exa.wr W51 f46
  have f54 := Fld.other W51 f45 (Or.inr (slot_ne (Or.inr (hw _ (List.mem_of_getElem? (i := 34) rfl))) (Or.inr (hw _ (List.mem_of_getElem? (i := 36) rfl))) (by decide) (t := (.object "java/lang/String")) (t' := (.object "java/lang/String")) (by decide) (by decide)))
  have f55 := Fld.other W51 f48 (Or.inr (slot_ne (Or.inr (hw _ (List.mem_of_getElem? (i := 38) rfl))) (Or.inr (hw _ (List.mem_of_getElem? (i := 36) rfl))) (by decide) (t := .int) (t' := (.object "java/lang/String")) (by decide) (by decide)))
  have z56 := Nat.le_trans z49 (Keep.of_wr W51).1
  have k57 := k50.wr W51 (Or.inl (List.mem_of_getElem? (i := 0) rfl))
  show own_G p.tables e below s _ _ _ (T51.setTop (mkF m 14 #[.val (.ref a1), .val (.ref a2), .val (.ref a3), .val (.int p4)] []))
  refine own_go (fun t k => XS.aloadN X51.here hx rfl (hb hby dj_14) rfl rfl k) ?_
  show own_G p.tables e below s _ _ _ (T51.setTop (mkF m 15 #[.val (.ref a1), .val (.ref a2), .val (.ref a3), .val (.int p4)] [(.ref a1)]))
  refine own_go (fun t k => XS.iloadN X51.here hx rfl (hb hby dj_15) rfl k) ?_
  show own_G p.tables e below s _ _ _ (T51.setTop (mkF m 16 #[.val (.ref a1), .val (.ref a2), .val (.ref a3), .val (.int p4)] [(.int p4), (.ref a1)]))
  obtain ⟨T58, h58, X58, e58, W58, st58⟩ := putF X51 hx hZ hown (host := "") (Or.inl (hw _ (List.mem_of_getElem? (i := 37) rfl))) Via.refl e51 f55 f53 (Or.inr ⟨(hw _ (List.mem_of_getElem? (i := 38) rfl)), rfl, hnm⟩) (hw _ (List.mem_of_getElem? (i := 27) rfl)) (ty := .int) (by decide) rfl rfl (g := (mkF m 16 #[.val (.ref a1), .val (.ref a2), .val (.ref a3), .val (.int p4)] [(.int p4), (.ref a1)])) rfl rfl (hb hby dj_16)
  have N58 := Fr.snoc X58 N51 g1
  refine own_go st58 ?_
  have f59 := Fld.same W58 f55
  have f60 := Exa.wr W58 f53
  have f61 := Fld.other W58 f54 (Or.inr (slot_ne (Or.inr (hw _ (List.mem_of_getElem? (i := 34) rfl))) (Or.inr (hw _ (List.mem_of_getElem? (i := 38) rfl))) (by decide) (t := (.object "java/lang/String")) (t' := .int) (by decide) (by decide)))
  have f62 := Fld.other W58 f52 (Or.inr (slot_ne (Or.inr (hw _ (List.mem_of_getElem? (i := 36) rfl))) (Or.inr (hw _ (List.mem_of_getElem? (i := 38) rfl))) (by decide) (t := (.object "java/lang/String")) (t' := .int) (by decide) (by decide)))
  have z63 := Nat.le_trans z56 (Keep.of_wr W58).1
  have k64 := k57.wr W58 (Or.inl (List.mem_of_getElem? (i := 0) rfl))
  show own_G p.tables e below s _ _ _ (T58.setTop (mkF m 19 #[.val (.ref a1), .val (.ref a2), .val (.ref a3), .val (.int p4)] []))
  exact own_retV X58 hx hlk Bd.returns (hb hby dj_19) (by rw [e58]; exact ⟨rfl, N58, k64, f59⟩) (by decide) (by decide)
theorem dr_0 : decode prog_8_method_6_code 0 = .ok (.aload_n 0, 1) := by decide +kernel
theorem dr_1 : decode prog_8_method_6_code 1 = .ok (.getfield 16, 3) := by decide +kernel
theorem dr_4 : decode prog_8_method_6_code 4 = .ok (.ifCond .le 7, 3) := by decide +kernel
theorem dr_7 : decode prog_8_method_6_code 7 = .ok (.iconst 1, 1) := by decide +kernel
theorem dr_8 : decode prog_8_method_6_code 8 = .ok (.goto 4, 3) := by decide +kernel
theorem dr_12 : decode prog_8_method_6_code 12 = .ok (.ireturn, 1) := by decide +kernel
theorem dr_11 : decode prog_8_method_6_code 11 = .ok (.iconst 0, 1) := by decide +kernel
theorem ef_r (m : MethodId) (x0 : Addr) : entryFrame m #[(.ref x0)] 1 = mkF m 0 #[.val (.ref x0)] [] := by first | (simp [entryFrame, mkF, argsToLocals, Value.category]; done) | rfl
def Qr (Z : State) (a1 : Addr) (w1 r : Int32) (h0 : Heap) (n0 : Nat) (v : Option Value) (h : Heap) (L : List Loc) : Prop := v = some (.int r) ∧ Fr n0 L ∧ h = h0
set_option maxRecDepth 65536 in
set_option maxHeartbeats 40000000 in
theorem rmr (l : Launch) (Z : State) (a0 : Array Value) (hw : ∀ d ∈ tables_1, d.before a0 Z = true) (ws : List Jvm.Cond) (a1 : Addr) (w1 r : Int32) (h0 : Heap) (n0 : Nat) (Z0 : n0 ≤ h0.size) (Fg : Fld Z h0 a1 "com/example/options_into_arguments/optionsintoarguments/evaluation/Judgment" "grade" "I" (.int w1)) (hr : (if (0 : Int32) < w1 then (1 : Int32) else 0) = r) :
    MetFree l (⟨"com/example/options_into_arguments/optionsintoarguments/evaluation/Judgment", "isRelevant", "()Z"⟩ : MethodName) (head1 (Jvm.Cond.code (⟨"com/example/options_into_arguments/optionsintoarguments/evaluation/Judgment", "isRelevant", "()Z"⟩ : MethodName) prog_8_method_6_code 1 (some .boolean) :: ws) ({ frames := 0, cells := 0, slots := 0, locals := 0 } : Room)) (fun a U => a = #[(.ref a1)] ∧ Z.Warmed39 U.vm ∧ U.heap = h0) (fun _ _ _ _ _ => True) (fun _ U o U' => ∃ v L, o = .returned v ∧ Qr Z a1 w1 r h0 n0 v U'.heap L ∧ FrameEnd U o U' L ({ frames := 0, cells := 0, slots := 0, locals := 0 } : Room).cells ({ frames := 0, cells := 0, slots := 0, locals := 0 } : Room).slots) := by
  refine MetFree.of_bodySF (plainFor_of_name pn_com_example_options_into_arguments_optionsintoarguments_evaluation_Judgment) hisR ?_
  intro p e s m args below meth c s₁ Bd hml0 hP hK
  obtain ⟨rfl, hZ, hh⟩ := hP
  have hx := Bd.exec
  have hby := Bd.bytes
  have hlk : meth.locks = false := BodyLoose.notSynchronized Bd
  have hml : c.maxLocals = 1 := hml0
  have hown : s.vm.findClass "com/example/options_into_arguments/optionsintoarguments/evaluation/Judgment" = some m.cls := findClass_of_methodNamed Bd.named
  have hnm := (name_of_methodNamed Bd.named Bd.method).1
  have X0 : Stand p l e ({ frames := 0, cells := 0, slots := 0, locals := 0 } : Room) s m #[(.ref a1)] below meth c s₁ [] 0 0 := Stand.of_body Bd
  have e0 : s₁.heap = h0 := by rw [← hh, Bd.state]; rfl
  have N0 := Fr.nil n0
  show own_G p.tables e below s (Qr Z a1 w1 r h0 n0) ({ frames := 0, cells := 0, slots := 0, locals := 0 } : Room).cells ({ frames := 0, cells := 0, slots := 0, locals := 0 } : Room).slots (s₁.setTop (entryFrame m #[(.ref a1)] 1))
  refine own_go (fun t k => castTop (ef_r m a1) k) ?_
  show own_G p.tables e below s _ _ _ (s₁.setTop (mkF m 0 #[.val (.ref a1)] []))
  refine own_go (fun t k => XS.aloadN X0.here hx rfl (hb hby dr_0) rfl rfl k) ?_
  show own_G p.tables e below s _ _ _ (s₁.setTop (mkF m 1 #[.val (.ref a1)] [(.ref a1)]))
  obtain ⟨T65, X65, e65, st65⟩ := getF X0 hx hZ hown (host := "") (Or.inl (hw _ (List.mem_of_getElem? (i := 37) rfl))) Via.refl e0 Fg (g := (mkF m 1 #[.val (.ref a1)] [(.ref a1)])) rfl rfl (hb hby dr_1)
  refine own_go st65 ?_
  show own_G p.tables e below s _ _ _ (T65.setTop (mkF m 4 #[.val (.ref a1)] [(.int w1)]))
  by_cases h4 : (0 : Int32) < w1
  · refine own_go (fun t k => XS.ifNo X65.here hx rfl (hb hby dr_4) rfl (Jvm.Free.XT.i0_le_f h4) k) ?_
    show own_G p.tables e below s _ _ _ (T65.setTop (mkF m 7 #[.val (.ref a1)] []))
    refine own_go (fun t k => XS.iconst X65.here hx rfl (hb hby dr_7) k) ?_
    show own_G p.tables e below s _ _ _ (T65.setTop (mkF m 8 #[.val (.ref a1)] [(.int (1 : Int32))]))
    refine own_go (fun t k => XS.goto X65.here hx rfl (pc0 := 8) (pc' := 12) rfl (hb hby dr_8) (by decide) (by decide) k) ?_
    show own_G p.tables e below s _ _ _ (T65.setTop (mkF m 12 #[.val (.ref a1)] [(.int (1 : Int32))]))
    exact own_retN X65 hx hlk (t := .boolean) (z' := (1 : Int32)) Bd.returns (by simp) (hb hby dr_12) (rfl) (by rw [e65]; exact ⟨by rw [← hr, if_pos h4], N0, rfl⟩) (by decide) (by decide)
  · refine own_go (fun t k => XS.ifYes X65.here hx rfl (pc0 := 4) (pc' := 11) rfl (hb hby dr_4) rfl (Jvm.Free.XT.i0_le_t h4) (by decide) (by decide) k) ?_
    show own_G p.tables e below s _ _ _ (T65.setTop (mkF m 11 #[.val (.ref a1)] []))
    refine own_go (fun t k => XS.iconst X65.here hx rfl (hb hby dr_11) k) ?_
    show own_G p.tables e below s _ _ _ (T65.setTop (mkF m 12 #[.val (.ref a1)] [(.int (0 : Int32))]))
    exact own_retN X65 hx hlk (t := .boolean) (z' := (0 : Int32)) Bd.returns (by simp) (hb hby dr_12) (rfl) (by rw [e65]; exact ⟨by rw [← hr, if_neg h4], N0, rfl⟩) (by decide) (by decide)
theorem pd__C_Ljava_lang_String_ : parseMethodDescriptor "(C)Ljava/lang/String;" = some ⟨[.char], some (.object "java/lang/String")⟩ := by decide +kernel
theorem pd__Ljava_lang_String_Ljava_lang_String_I_V : parseMethodDescriptor "(Ljava/lang/String;Ljava/lang/String;I)V" = some ⟨[(.object "java/lang/String"), (.object "java/lang/String"), .int], none⟩ := by decide +kernel
theorem pd___Z : parseMethodDescriptor "()Z" = some ⟨[], some .boolean⟩ := by decide +kernel
theorem pn_com_example_options_into_arguments_optionsintoarguments_evaluation_JudgmentIsRelevantPinLaw : plainName "com/example/options_into_arguments/optionsintoarguments/evaluation/JudgmentIsRelevantPinLaw" = true := by first | (simp [plainName, overriddenIn]; done) | decide +kernel
theorem ef_0 (m : MethodId) (x0 : Int32) (x1 : Int32) (x2 : Int32) : entryFrame m #[(.int x0), (.int x1), (.int x2)] maxLocals = mkF m 0 #[.val (.int x0), .val (.int x1), .val (.int x2), .unset, .unset, .unset, .unset, .unset, .unset, .unset, .unset] [] := by first | (simp [entryFrame, mkF, argsToLocals, Value.category, maxLocals]; done) | rfl
def Q0 (Z : State) (p1 p2 p3 w1 : Int32) (h0 : Heap) (n0 : Nat) (v : Option Value) (h : Heap) (L : List Loc) : Prop := v = some (.int 1) ∧ Fr n0 L
set_option maxRecDepth 65536 in
set_option maxHeartbeats 40000000 in
theorem rm0 (l : Launch) (Z : State) (a0 : Array Value) (hw : ∀ d ∈ tables_1, d.before a0 Z = true) (ws : List Jvm.Cond) (p1 p2 p3 w1 : Int32) (h0 : Heap) (n0 : Nat) (Z0 : n0 ≤ h0.size) (O0 : Old Z n0 h0) (S0 : Sta Z Z.heap "java/lang/String" "COMPACT_STRINGS" "Z" (.int w1)) (hw1 : ¬ w1 = 0) :
    MetFree l x (head1 (Jvm.Cond.code x code maxLocals ret :: ws) room_1) (fun a U => a = #[(.int p1), (.int p2), (.int p3)] ∧ Z.Warmed39 U.vm ∧ U.heap = h0) (fun _ _ _ _ _ => True) (fun _ U o U' => ∃ v L, o = .returned v ∧ Q0 Z p1 p2 p3 w1 h0 n0 v U'.heap L ∧ FrameEnd U o U' L room_1.cells room_1.slots) := by
  refine MetFree.of_bodySF (plainFor_of_name pn_com_example_options_into_arguments_optionsintoarguments_evaluation_JudgmentIsRelevantPinLaw) hisR ?_
  intro p e s m args below meth c s₁ Bd hml0 hP hK
  obtain ⟨rfl, hZ, hh⟩ := hP
  have hx := Bd.exec
  have hby := Bd.bytes
  have hlk : meth.locks = false := BodyLoose.notSynchronized Bd
  have hml : c.maxLocals = 11 := hml0
  have hown : s.vm.findClass "com/example/options_into_arguments/optionsintoarguments/evaluation/JudgmentIsRelevantPinLaw" = some m.cls := findClass_of_methodNamed Bd.named
  have hnm := (name_of_methodNamed Bd.named Bd.method).1
  have X0 : Stand p l e room_1 s m #[(.int p1), (.int p2), (.int p3)] below meth c s₁ [] 0 0 := Stand.of_body Bd
  have e0 : s₁.heap = h0 := by rw [← hh, Bd.state]; rfl
  have N0 := Fr.nil n0
  show own_G p.tables e below s (Q0 Z p1 p2 p3 w1 h0 n0) room_1.cells room_1.slots (s₁.setTop (entryFrame m #[(.int p1), (.int p2), (.int p3)] maxLocals))
  refine own_go (fun t k => castTop (ef_0 m p1 p2 p3) k) ?_
  show own_G p.tables e below s _ _ _ (s₁.setTop (mkF m 0 #[.val (.int p1), .val (.int p2), .val (.int p3), .unset, .unset, .unset, .unset, .unset, .unset, .unset, .unset] []))
  refine own_go (fun t k => XS.iloadN X0.here hx rfl (hb hby at_0) rfl k) ?_
  show own_G p.tables e below s _ _ _ (s₁.setTop (mkF m 1 #[.val (.int p1), .val (.int p2), .val (.int p3), .unset, .unset, .unset, .unset, .unset, .unset, .unset, .unset] [(.int p3)]))
  refine own_go (fun t k => XS.sipush X0.here hx rfl (hb hby at_1) k) ?_
  show own_G p.tables e below s _ _ _ (s₁.setTop (mkF m 4 #[.val (.int p1), .val (.int p2), .val (.int p3), .unset, .unset, .unset, .unset, .unset, .unset, .unset, .unset] [(.int (255 : Int32)), (.int p3)]))
  refine own_go (fun t k => XS.iand X0.here hx rfl (hb hby at_4) rfl k) ?_
  show own_G p.tables e below s _ _ _ (s₁.setTop (mkF m 5 #[.val (.int p1), .val (.int p2), .val (.int p3), .unset, .unset, .unset, .unset, .unset, .unset, .unset, .unset] [(.int (p3 &&& (255 : Int32)))]))
  refine own_go (fun t k => XS.i2c X0.here hx rfl (hb hby at_5) rfl k) ?_
  show own_G p.tables e below s _ _ _ (s₁.setTop (mkF m 6 #[.val (.int p1), .val (.int p2), .val (.int p3), .unset, .unset, .unset, .unset, .unset, .unset, .unset, .unset] [(.int ((p3 &&& (255 : Int32)).toUInt32.toUInt16.toUInt32.toInt32))]))
  obtain ⟨_, _, ⟨T66, L66, k66, n66⟩, -, X66, ⟨Lc66, hQ66, l66, y66, z66⟩, st66⟩ := Jvm.LawKit.callS X0 hx (y := (⟨"java/lang/String", "valueOf", "(C)Ljava/lang/String;"⟩ : MethodName)) hown (mvT hZ (hw _ (List.mem_of_getElem? (i := 0) rfl))) (mvT hZ (hw _ (List.mem_of_getElem? (i := 1) rfl))) (mvT hZ (hw _ (List.mem_of_getElem? (i := 2) rfl))) (mvT hZ (hw _ (List.mem_of_getElem? (i := 3) rfl))) (by decide) (backOf (W := 0) (rmv l Z a0 hw [] ((p3 &&& (255 : Int32)).toUInt32.toUInt16.toUInt32.toInt32) w1 h0 n0 Z0 (Sta.ext O0.2 S0) hw1 (own_byte _)) hZ (hw _ (List.mem_of_getElem? (i := 3) rfl)) (hw _ (List.mem_of_getElem? (i := 2) rfl)) (by decide) (by decide)) (g := (mkF m 6 #[.val (.int p1), .val (.int p2), .val (.int p3), .unset, .unset, .unset, .unset, .unset, .unset, .unset, .unset] [(.int ((p3 &&& (255 : Int32)).toUInt32.toUInt16.toUInt32.toInt32))])) rfl (by rw [hml]; rfl) (argsL := [(.int ((p3 &&& (255 : Int32)).toUInt32.toUInt16.toUInt32.toInt32))]) (rest := []) (lenOf pd__C_Ljava_lang_String_ rfl) rfl (by show 2 * 0 + _ ≤ _; exact Nat.le_of_eq rfl) (hb hby at_6) (fun _ _ => ⟨rfl, e0, (by decide : 0 + 2 ≤ _), (by decide : 0 + 5 ≤ _)⟩)
  dsimp only [Pt.U, Pt.locs, Pt.cells, Pt.slots] at X66 l66 y66 z66 st66 hQ66
  subst l66 y66 z66
  obtain ⟨⟨t66, rfl⟩, N66q, K66⟩ := hQ66
  have N66 := Fr.app N0 N66q
  refine own_go st66 ?_
  have f67 := O0.keep K66 (fun x q => nomatch q)
  have z68 := Nat.le_trans Z0 K66.1
  show own_G p.tables e below s _ _ _ (T66.setTop (mkF m 9 #[.val (.int p1), .val (.int p2), .val (.int p3), .unset, .unset, .unset, .unset, .unset, .unset, .unset, .unset] [(.ref t66)]))
  refine own_go (fun t k => XS.astoreN X66.here hx rfl (hb hby at_9) rfl rfl (l' := #[.val (.int p1), .val (.int p2), .val (.int p3), .val (.ref t66), .unset, .unset, .unset, .unset, .unset, .unset, .unset]) rfl k) ?_
  show own_G p.tables e below s _ _ _ (T66.setTop (mkF m 10 #[.val (.int p1), .val (.int p2), .val (.int p3), .val (.ref t66), .unset, .unset, .unset, .unset, .unset, .unset, .unset] []))
  refine own_go (fun t k => XS.iloadN X66.here hx rfl (hb hby at_10) rfl k) ?_
  show own_G p.tables e below s _ _ _ (T66.setTop (mkF m 11 #[.val (.int p1), .val (.int p2), .val (.int p3), .val (.ref t66), .unset, .unset, .unset, .unset, .unset, .unset, .unset] [(.int p3)]))
  refine own_go (fun t k => XS.bipush X66.here hx rfl (hb hby at_11) k) ?_
  show own_G p.tables e below s _ _ _ (T66.setTop (mkF m 13 #[.val (.int p1), .val (.int p2), .val (.int p3), .val (.ref t66), .unset, .unset, .unset, .unset, .unset, .unset, .unset] [(.int (8 : Int32)), (.int p3)]))
  refine own_go (fun t k => XS.iushr X66.here hx rfl (hb hby at_13) rfl k) ?_
  show own_G p.tables e below s _ _ _ (T66.setTop (mkF m 14 #[.val (.int p1), .val (.int p2), .val (.int p3), .val (.ref t66), .unset, .unset, .unset, .unset, .unset, .unset, .unset] [(.int ((p3.toUInt32 >>> ((8 : Int32) &&& 31).toUInt32).toInt32))]))
  refine own_go (fun t k => XS.sipush X66.here hx rfl (hb hby at_14) k) ?_
  show own_G p.tables e below s _ _ _ (T66.setTop (mkF m 17 #[.val (.int p1), .val (.int p2), .val (.int p3), .val (.ref t66), .unset, .unset, .unset, .unset, .unset, .unset, .unset] [(.int (255 : Int32)), (.int ((p3.toUInt32 >>> ((8 : Int32) &&& 31).toUInt32).toInt32))]))
  refine own_go (fun t k => XS.iand X66.here hx rfl (hb hby at_17) rfl k) ?_
  show own_G p.tables e below s _ _ _ (T66.setTop (mkF m 18 #[.val (.int p1), .val (.int p2), .val (.int p3), .val (.ref t66), .unset, .unset, .unset, .unset, .unset, .unset, .unset] [(.int (((p3.toUInt32 >>> ((8 : Int32) &&& 31).toUInt32).toInt32) &&& (255 : Int32)))]))
  refine own_go (fun t k => XS.i2c X66.here hx rfl (hb hby at_18) rfl k) ?_
  show own_G p.tables e below s _ _ _ (T66.setTop (mkF m 19 #[.val (.int p1), .val (.int p2), .val (.int p3), .val (.ref t66), .unset, .unset, .unset, .unset, .unset, .unset, .unset] [(.int ((((p3.toUInt32 >>> ((8 : Int32) &&& 31).toUInt32).toInt32) &&& (255 : Int32)).toUInt32.toUInt16.toUInt32.toInt32))]))
  obtain ⟨_, _, ⟨T69, L69, k69, n69⟩, -, X69, ⟨Lc69, hQ69, l69, y69, z69⟩, st69⟩ := Jvm.LawKit.callS X66 hx (y := (⟨"java/lang/String", "valueOf", "(C)Ljava/lang/String;"⟩ : MethodName)) hown (mvT hZ (hw _ (List.mem_of_getElem? (i := 0) rfl))) (mvT hZ (hw _ (List.mem_of_getElem? (i := 1) rfl))) (mvT hZ (hw _ (List.mem_of_getElem? (i := 2) rfl))) (mvT hZ (hw _ (List.mem_of_getElem? (i := 3) rfl))) (by decide) (backOf (W := 0) (rmv l Z a0 hw [] ((((p3.toUInt32 >>> ((8 : Int32) &&& 31).toUInt32).toInt32) &&& (255 : Int32)).toUInt32.toUInt16.toUInt32.toInt32) w1 T66.heap n0 z68 (Sta.ext f67.2 S0) hw1 (own_byte _)) hZ (hw _ (List.mem_of_getElem? (i := 3) rfl)) (hw _ (List.mem_of_getElem? (i := 2) rfl)) (by decide) (by decide)) (g := (mkF m 19 #[.val (.int p1), .val (.int p2), .val (.int p3), .val (.ref t66), .unset, .unset, .unset, .unset, .unset, .unset, .unset] [(.int ((((p3.toUInt32 >>> ((8 : Int32) &&& 31).toUInt32).toInt32) &&& (255 : Int32)).toUInt32.toUInt16.toUInt32.toInt32))])) rfl (by rw [hml]; rfl) (argsL := [(.int ((((p3.toUInt32 >>> ((8 : Int32) &&& 31).toUInt32).toInt32) &&& (255 : Int32)).toUInt32.toUInt16.toUInt32.toInt32))]) (rest := []) (lenOf pd__C_Ljava_lang_String_ rfl) rfl (by show 2 * 0 + _ ≤ _; exact Nat.le_of_eq rfl) (hb hby at_19) (fun _ _ => ⟨rfl, rfl, (by decide : 2 + 2 ≤ _), (by decide : 5 + 5 ≤ _)⟩)
  dsimp only [Pt.U, Pt.locs, Pt.cells, Pt.slots] at X69 l69 y69 z69 st69 hQ69
  subst l69 y69 z69
  obtain ⟨⟨t69, rfl⟩, N69q, K69⟩ := hQ69
  have N69 := Fr.app N66 N69q
  refine own_go st69 ?_
  have f70 := f67.keep K69 (fun x q => nomatch q)
  have z71 := Nat.le_trans z68 K69.1
  show own_G p.tables e below s _ _ _ (T69.setTop (mkF m 22 #[.val (.int p1), .val (.int p2), .val (.int p3), .val (.ref t66), .unset, .unset, .unset, .unset, .unset, .unset, .unset] [(.ref t69)]))
  refine own_go (fun t k => XS.astore X69.here hx rfl (hb hby at_22) rfl rfl (l' := #[.val (.int p1), .val (.int p2), .val (.int p3), .val (.ref t66), .val (.ref t69), .unset, .unset, .unset, .unset, .unset, .unset]) rfl k) ?_
  show own_G p.tables e below s _ _ _ (T69.setTop (mkF m 24 #[.val (.int p1), .val (.int p2), .val (.int p3), .val (.ref t66), .val (.ref t69), .unset, .unset, .unset, .unset, .unset, .unset] []))
  obtain ⟨T72, h72, X72, e72, E72, A72, D72, -, st72⟩ := newO X69 hx hZ hown (hw _ (List.mem_of_getElem? (i := 26) rfl)) (hw _ (List.mem_of_getElem? (i := 27) rfl)) (hw _ (List.mem_of_getElem? (i := 28) rfl)) rfl (g := (mkF m 24 #[.val (.int p1), .val (.int p2), .val (.int p3), .val (.ref t66), .val (.ref t69), .unset, .unset, .unset, .unset, .unset, .unset] [])) rfl (hb hby at_24) (by decide) (by decide)
  obtain ⟨b72, g72⟩ : ∃ z, z = T69.heap.size := ⟨_, rfl⟩
  rw [← g72] at A72 D72 st72
  refine own_go st72 ?_
  have g73 := Nat.le_trans z71 (Nat.le_of_eq g72.symm)
  have f74 := f70.ext E72
  have z75 := Nat.le_trans z71 E72.1
  have f76 : Fld Z h72 b72 "com/example/options_into_arguments/optionsintoarguments/evaluation/Judgment" "topic" "Ljava/lang/String;" .null := D72 (Or.inr (hw _ (List.mem_of_getElem? (i := 34) rfl))) (ty := (.object "java/lang/String")) (by decide)
  have f77 : Fld Z h72 b72 "com/example/options_into_arguments/optionsintoarguments/evaluation/Judgment" "document" "Ljava/lang/String;" .null := D72 (Or.inr (hw _ (List.mem_of_getElem? (i := 36) rfl))) (ty := (.object "java/lang/String")) (by decide)
  have f78 : Fld Z h72 b72 "com/example/options_into_arguments/optionsintoarguments/evaluation/Judgment" "grade" "I" (.int (0 : Int32)) := D72 (Or.inr (hw _ (List.mem_of_getElem? (i := 38) rfl))) (ty := .int) (by decide)
  show own_G p.tables e below s _ _ _ (T72.setTop (mkF m 27 #[.val (.int p1), .val (.int p2), .val (.int p3), .val (.ref t66), .val (.ref t69), .unset, .unset, .unset, .unset, .unset, .unset] [(.ref b72)]))
  refine own_go (fun t k => XS.dup X72.here hx rfl (hb hby at_27) rfl rfl k) ?_
  show own_G p.tables e below s _ _ _ (T72.setTop (mkF m 28 #[.val (.int p1), .val (.int p2), .val (.int p3), .val (.ref t66), .val (.ref t69), .unset, .unset, .unset, .unset, .unset, .unset] [(.ref b72), (.ref b72)]))
  refine own_go (fun t k => XS.aloadN X72.here hx rfl (hb hby at_28) rfl rfl k) ?_
  show own_G p.tables e below s _ _ _ (T72.setTop (mkF m 29 #[.val (.int p1), .val (.int p2), .val (.int p3), .val (.ref t66), .val (.ref t69), .unset, .unset, .unset, .unset, .unset, .unset] [(.ref t66), (.ref b72), (.ref b72)]))
  refine own_go (fun t k => XS.aload X72.here hx rfl (hb hby at_29) rfl rfl k) ?_
  show own_G p.tables e below s _ _ _ (T72.setTop (mkF m 31 #[.val (.int p1), .val (.int p2), .val (.int p3), .val (.ref t66), .val (.ref t69), .unset, .unset, .unset, .unset, .unset, .unset] [(.ref t69), (.ref t66), (.ref b72), (.ref b72)]))
  refine own_go (fun t k => XS.iloadN X72.here hx rfl (hb hby at_31) rfl k) ?_
  show own_G p.tables e below s _ _ _ (T72.setTop (mkF m 32 #[.val (.int p1), .val (.int p2), .val (.int p3), .val (.ref t66), .val (.ref t69), .unset, .unset, .unset, .unset, .unset, .unset] [(.int p1), (.ref t69), (.ref t66), (.ref b72), (.ref b72)]))
  obtain ⟨_, _, ⟨T79, L79, k79, n79⟩, -, X79, ⟨Lc79, hQ79, l79, y79, z79⟩, st79⟩ := X72.specialBack hx (y := (⟨"com/example/options_into_arguments/optionsintoarguments/evaluation/Judgment", "<init>", "(Ljava/lang/String;Ljava/lang/String;I)V"⟩ : MethodName)) rfl hown (mvT hZ (hw _ (List.mem_of_getElem? (i := 29) rfl))) (mvT hZ (hw _ (List.mem_of_getElem? (i := 30) rfl))) (mvT hZ (hw _ (List.mem_of_getElem? (i := 31) rfl))) (by decide) (backOf (W := 1) (rmj l Z a0 hw [] b72 t66 t69 p1 h72 n0 z75 A72 f76 f77 f78 g73) hZ (hw _ (List.mem_of_getElem? (i := 31) rfl)) (hw _ (List.mem_of_getElem? (i := 28) rfl)) (by decide) (by decide)) (g := (mkF m 32 #[.val (.int p1), .val (.int p2), .val (.int p3), .val (.ref t66), .val (.ref t69), .unset, .unset, .unset, .unset, .unset, .unset] [(.int p1), (.ref t69), (.ref t66), (.ref b72), (.ref b72)])) rfl (by rw [hml]; rfl) (Steps.refl _) (a := b72) (argsL := [(.ref t66), (.ref t69), (.int p1)]) (rest := [(.ref b72)]) (lenOf pd__Ljava_lang_String_Ljava_lang_String_I_V rfl) rfl (by show 2 * 0 + _ ≤ _; exact Nat.le_of_eq rfl) (hb hby at_32) (fun _ _ => ⟨rfl, e72, (by decide : 5 + 0 ≤ _), (by decide : 13 + 0 ≤ _)⟩)
  dsimp only [Pt.U, Pt.locs, Pt.cells, Pt.slots] at X79 l79 y79 z79 st79 hQ79
  subst l79 y79 z79
  obtain ⟨rfl, N79q, K79, F79⟩ := hQ79
  have N79 := Fr.app N69 N79q
  refine own_go (fun t k => st79.trans k) ?_
  have f80 := f74.keep K79 (fun x => (fun q => (List.mem_cons.mp q).elim (fun e => e ▸ g73) (fun q => nomatch q)))
  have f81 := A72.keep K79
  have z82 := Nat.le_trans z75 K79.1
  show own_G p.tables e below s _ _ _ (T79.setTop (mkF m 35 #[.val (.int p1), .val (.int p2), .val (.int p3), .val (.ref t66), .val (.ref t69), .unset, .unset, .unset, .unset, .unset, .unset] [(.ref b72)]))
  refine own_go (fun t k => XS.astore X79.here hx rfl (hb hby at_35) rfl rfl (l' := #[.val (.int p1), .val (.int p2), .val (.int p3), .val (.ref t66), .val (.ref t69), .val (.ref b72), .unset, .unset, .unset, .unset, .unset]) rfl k) ?_
  show own_G p.tables e below s _ _ _ (T79.setTop (mkF m 37 #[.val (.int p1), .val (.int p2), .val (.int p3), .val (.ref t66), .val (.ref t69), .val (.ref b72), .unset, .unset, .unset, .unset, .unset] []))
  obtain ⟨T83, h83, X83, e83, E83, A83, D83, -, st83⟩ := newO X79 hx hZ hown (hw _ (List.mem_of_getElem? (i := 26) rfl)) (hw _ (List.mem_of_getElem? (i := 27) rfl)) (hw _ (List.mem_of_getElem? (i := 28) rfl)) rfl (g := (mkF m 37 #[.val (.int p1), .val (.int p2), .val (.int p3), .val (.ref t66), .val (.ref t69), .val (.ref b72), .unset, .unset, .unset, .unset, .unset] [])) rfl (hb hby at_37) (by decide) (by decide)
  obtain ⟨b83, g83⟩ : ∃ z, z = T79.heap.size := ⟨_, rfl⟩
  rw [← g83] at A83 D83 st83
  refine own_go st83 ?_
  have g84 := Nat.le_trans z82 (Nat.le_of_eq g83.symm)
  have n85 := Nat.ne_of_lt (Nat.lt_of_lt_of_le f81.lt (Nat.le_of_eq g83.symm))
  have f86 := f80.ext E83
  have f87 := Exa.ext E83 f81
  have f88 := Fld.ext E83 F79
  have z89 := Nat.le_trans z82 E83.1
  have f90 : Fld Z h83 b83 "com/example/options_into_arguments/optionsintoarguments/evaluation/Judgment" "topic" "Ljava/lang/String;" .null := D83 (Or.inr (hw _ (List.mem_of_getElem? (i := 34) rfl))) (ty := (.object "java/lang/String")) (by decide)
  have f91 : Fld Z h83 b83 "com/example/options_into_arguments/optionsintoarguments/evaluation/Judgment" "document" "Ljava/lang/String;" .null := D83 (Or.inr (hw _ (List.mem_of_getElem? (i := 36) rfl))) (ty := (.object "java/lang/String")) (by decide)
  have f92 : Fld Z h83 b83 "com/example/options_into_arguments/optionsintoarguments/evaluation/Judgment" "grade" "I" (.int (0 : Int32)) := D83 (Or.inr (hw _ (List.mem_of_getElem? (i := 38) rfl))) (ty := .int) (by decide)
  show own_G p.tables e below s _ _ _ (T83.setTop (mkF m 40 #[.val (.int p1), .val (.int p2), .val (.int p3), .val (.ref t66), .val (.ref t69), .val (.ref b72), .unset, .unset, .unset, .unset, .unset] [(.ref b83)]))
  refine own_go (fun t k => XS.dup X83.here hx rfl (hb hby at_40) rfl rfl k) ?_
  show own_G p.tables e below s _ _ _ (T83.setTop (mkF m 41 #[.val (.int p1), .val (.int p2), .val (.int p3), .val (.ref t66), .val (.ref t69), .val (.ref b72), .unset, .unset, .unset, .unset, .unset] [(.ref b83), (.ref b83)]))
  refine own_go (fun t k => XS.aload X83.here hx rfl (hb hby at_41) rfl rfl k) ?_
  show own_G p.tables e below s _ _ _ (T83.setTop (mkF m 43 #[.val (.int p1), .val (.int p2), .val (.int p3), .val (.ref t66), .val (.ref t69), .val (.ref b72), .unset, .unset, .unset, .unset, .unset] [(.ref t69), (.ref b83), (.ref b83)]))
  refine own_go (fun t k => XS.aloadN X83.here hx rfl (hb hby at_43) rfl rfl k) ?_
  show own_G p.tables e below s _ _ _ (T83.setTop (mkF m 44 #[.val (.int p1), .val (.int p2), .val (.int p3), .val (.ref t66), .val (.ref t69), .val (.ref b72), .unset, .unset, .unset, .unset, .unset] [(.ref t66), (.ref t69), (.ref b83), (.ref b83)]))
  refine own_go (fun t k => XS.iloadN X83.here hx rfl (hb hby at_44) rfl k) ?_
  show own_G p.tables e below s _ _ _ (T83.setTop (mkF m 45 #[.val (.int p1), .val (.int p2), .val (.int p3), .val (.ref t66), .val (.ref t69), .val (.ref b72), .unset, .unset, .unset, .unset, .unset] [(.int p2), (.ref t66), (.ref t69), (.ref b83), (.ref b83)]))
  obtain ⟨_, _, ⟨T93, L93, k93, n93⟩, -, X93, ⟨Lc93, hQ93, l93, y93, z93⟩, st93⟩ := X83.specialBack hx (y := (⟨"com/example/options_into_arguments/optionsintoarguments/evaluation/Judgment", "<init>", "(Ljava/lang/String;Ljava/lang/String;I)V"⟩ : MethodName)) rfl hown (mvT hZ (hw _ (List.mem_of_getElem? (i := 29) rfl))) (mvT hZ (hw _ (List.mem_of_getElem? (i := 30) rfl))) (mvT hZ (hw _ (List.mem_of_getElem? (i := 31) rfl))) (by decide) (backOf (W := 1) (rmj l Z a0 hw [] b83 t69 t66 p2 h83 n0 z89 A83 f90 f91 f92 g84) hZ (hw _ (List.mem_of_getElem? (i := 31) rfl)) (hw _ (List.mem_of_getElem? (i := 28) rfl)) (by decide) (by decide)) (g := (mkF m 45 #[.val (.int p1), .val (.int p2), .val (.int p3), .val (.ref t66), .val (.ref t69), .val (.ref b72), .unset, .unset, .unset, .unset, .unset] [(.int p2), (.ref t66), (.ref t69), (.ref b83), (.ref b83)])) rfl (by rw [hml]; rfl) (Steps.refl _) (a := b83) (argsL := [(.ref t69), (.ref t66), (.int p2)]) (rest := [(.ref b83)]) (lenOf pd__Ljava_lang_String_Ljava_lang_String_I_V rfl) rfl (by show 2 * 0 + _ ≤ _; exact Nat.le_of_eq rfl) (hb hby at_45) (fun _ _ => ⟨rfl, e83, (by decide : 6 + 0 ≤ _), (by decide : 16 + 0 ≤ _)⟩)
  dsimp only [Pt.U, Pt.locs, Pt.cells, Pt.slots] at X93 l93 y93 z93 st93 hQ93
  subst l93 y93 z93
  obtain ⟨rfl, N93q, K93, F93⟩ := hQ93
  have N93 := Fr.app N79 N93q
  refine own_go (fun t k => st93.trans k) ?_
  have f94 := f86.keep K93 (fun x => (fun q => (List.mem_cons.mp q).elim (fun e => e ▸ g84) (fun q => nomatch q)))
  have f95 := f87.keep K93
  have f96 := f88.keep K93 (fun q => (List.mem_cons.mp q).elim n85 (fun q => nomatch q))
  have f97 := A83.keep K93
  have z98 := Nat.le_trans z89 K93.1
  show own_G p.tables e below s _ _ _ (T93.setTop (mkF m 48 #[.val (.int p1), .val (.int p2), .val (.int p3), .val (.ref t66), .val (.ref t69), .val (.ref b72), .unset, .unset, .unset, .unset, .unset] [(.ref b83)]))
  refine own_go (fun t k => XS.astore X93.here hx rfl (hb hby at_48) rfl rfl (l' := #[.val (.int p1), .val (.int p2), .val (.int p3), .val (.ref t66), .val (.ref t69), .val (.ref b72), .val (.ref b83), .unset, .unset, .unset, .unset]) rfl k) ?_
  show own_G p.tables e below s _ _ _ (T93.setTop (mkF m 50 #[.val (.int p1), .val (.int p2), .val (.int p3), .val (.ref t66), .val (.ref t69), .val (.ref b72), .val (.ref b83), .unset, .unset, .unset, .unset] []))
  obtain ⟨T99, h99, X99, e99, E99, A99, D99, -, st99⟩ := newO X93 hx hZ hown (hw _ (List.mem_of_getElem? (i := 26) rfl)) (hw _ (List.mem_of_getElem? (i := 27) rfl)) (hw _ (List.mem_of_getElem? (i := 28) rfl)) rfl (g := (mkF m 50 #[.val (.int p1), .val (.int p2), .val (.int p3), .val (.ref t66), .val (.ref t69), .val (.ref b72), .val (.ref b83), .unset, .unset, .unset, .unset] [])) rfl (hb hby at_50) (by decide) (by decide)
  obtain ⟨b99, g99⟩ : ∃ z, z = T93.heap.size := ⟨_, rfl⟩
  rw [← g99] at A99 D99 st99
  refine own_go st99 ?_
  have g100 := Nat.le_trans z98 (Nat.le_of_eq g99.symm)
  have n101 := Nat.ne_of_lt (Nat.lt_of_lt_of_le f95.lt (Nat.le_of_eq g99.symm))
  have n102 := Nat.ne_of_lt (Nat.lt_of_lt_of_le f97.lt (Nat.le_of_eq g99.symm))
  have f103 := f94.ext E99
  have f104 := Exa.ext E99 f95
  have f105 := Fld.ext E99 f96
  have f106 := Exa.ext E99 f97
  have f107 := Fld.ext E99 F93
  have z108 := Nat.le_trans z98 E99.1
  have f109 : Fld Z h99 b99 "com/example/options_into_arguments/optionsintoarguments/evaluation/Judgment" "topic" "Ljava/lang/String;" .null := D99 (Or.inr (hw _ (List.mem_of_getElem? (i := 34) rfl))) (ty := (.object "java/lang/String")) (by decide)
  have f110 : Fld Z h99 b99 "com/example/options_into_arguments/optionsintoarguments/evaluation/Judgment" "document" "Ljava/lang/String;" .null := D99 (Or.inr (hw _ (List.mem_of_getElem? (i := 36) rfl))) (ty := (.object "java/lang/String")) (by decide)
  have f111 : Fld Z h99 b99 "com/example/options_into_arguments/optionsintoarguments/evaluation/Judgment" "grade" "I" (.int (0 : Int32)) := D99 (Or.inr (hw _ (List.mem_of_getElem? (i := 38) rfl))) (ty := .int) (by decide)
  show own_G p.tables e below s _ _ _ (T99.setTop (mkF m 53 #[.val (.int p1), .val (.int p2), .val (.int p3), .val (.ref t66), .val (.ref t69), .val (.ref b72), .val (.ref b83), .unset, .unset, .unset, .unset] [(.ref b99)]))
  refine own_go (fun t k => XS.dup X99.here hx rfl (hb hby at_53) rfl rfl k) ?_
  show own_G p.tables e below s _ _ _ (T99.setTop (mkF m 54 #[.val (.int p1), .val (.int p2), .val (.int p3), .val (.ref t66), .val (.ref t69), .val (.ref b72), .val (.ref b83), .unset, .unset, .unset, .unset] [(.ref b99), (.ref b99)]))
  refine own_go (fun t k => XS.aloadN X99.here hx rfl (hb hby at_54) rfl rfl k) ?_
  show own_G p.tables e below s _ _ _ (T99.setTop (mkF m 55 #[.val (.int p1), .val (.int p2), .val (.int p3), .val (.ref t66), .val (.ref t69), .val (.ref b72), .val (.ref b83), .unset, .unset, .unset, .unset] [(.ref t66), (.ref b99), (.ref b99)]))
  refine own_go (fun t k => XS.aload X99.here hx rfl (hb hby at_55) rfl rfl k) ?_
  show own_G p.tables e below s _ _ _ (T99.setTop (mkF m 57 #[.val (.int p1), .val (.int p2), .val (.int p3), .val (.ref t66), .val (.ref t69), .val (.ref b72), .val (.ref b83), .unset, .unset, .unset, .unset] [(.ref t69), (.ref t66), (.ref b99), (.ref b99)]))
  refine own_go (fun t k => XS.iconst X99.here hx rfl (hb hby at_57) k) ?_
  show own_G p.tables e below s _ _ _ (T99.setTop (mkF m 58 #[.val (.int p1), .val (.int p2), .val (.int p3), .val (.ref t66), .val (.ref t69), .val (.ref b72), .val (.ref b83), .unset, .unset, .unset, .unset] [(.int (0 : Int32)), (.ref t69), (.ref t66), (.ref b99), (.ref b99)]))
  obtain ⟨_, _, ⟨T112, L112, k112, n112⟩, -, X112, ⟨Lc112, hQ112, l112, y112, z112⟩, st112⟩ := X99.specialBack hx (y := (⟨"com/example/options_into_arguments/optionsintoarguments/evaluation/Judgment", "<init>", "(Ljava/lang/String;Ljava/lang/String;I)V"⟩ : MethodName)) rfl hown (mvT hZ (hw _ (List.mem_of_getElem? (i := 29) rfl))) (mvT hZ (hw _ (List.mem_of_getElem? (i := 30) rfl))) (mvT hZ (hw _ (List.mem_of_getElem? (i := 31) rfl))) (by decide) (backOf (W := 1) (rmj l Z a0 hw [] b99 t66 t69 (0 : Int32) h99 n0 z108 A99 f109 f110 f111 g100) hZ (hw _ (List.mem_of_getElem? (i := 31) rfl)) (hw _ (List.mem_of_getElem? (i := 28) rfl)) (by decide) (by decide)) (g := (mkF m 58 #[.val (.int p1), .val (.int p2), .val (.int p3), .val (.ref t66), .val (.ref t69), .val (.ref b72), .val (.ref b83), .unset, .unset, .unset, .unset] [(.int (0 : Int32)), (.ref t69), (.ref t66), (.ref b99), (.ref b99)])) rfl (by rw [hml]; rfl) (Steps.refl _) (a := b99) (argsL := [(.ref t66), (.ref t69), (.int (0 : Int32))]) (rest := [(.ref b99)]) (lenOf pd__Ljava_lang_String_Ljava_lang_String_I_V rfl) rfl (by show 2 * 0 + _ ≤ _; exact Nat.le_of_eq rfl) (hb hby at_58) (fun _ _ => ⟨rfl, e99, (by decide : 7 + 0 ≤ _), (by decide : 19 + 0 ≤ _)⟩)
  dsimp only [Pt.U, Pt.locs, Pt.cells, Pt.slots] at X112 l112 y112 z112 st112 hQ112
  subst l112 y112 z112
  obtain ⟨rfl, N112q, K112, F112⟩ := hQ112
  have N112 := Fr.app N93 N112q
  refine own_go (fun t k => st112.trans k) ?_
  have f113 := f103.keep K112 (fun x => (fun q => (List.mem_cons.mp q).elim (fun e => e ▸ g100) (fun q => nomatch q)))
  have f114 := f104.keep K112
  have f115 := f105.keep K112 (fun q => (List.mem_cons.mp q).elim n101 (fun q => nomatch q))
  have f116 := f106.keep K112
  have f117 := f107.keep K112 (fun q => (List.mem_cons.mp q).elim n102 (fun q => nomatch q))
  have f118 := A99.keep K112
  have z119 := Nat.le_trans z108 K112.1
  show own_G p.tables e below s _ _ _ (T112.setTop (mkF m 61 #[.val (.int p1), .val (.int p2), .val (.int p3), .val (.ref t66), .val (.ref t69), .val (.ref b72), .val (.ref b83), .unset, .unset, .unset, .unset] [(.ref b99)]))
  refine own_go (fun t k => XS.astore X112.here hx rfl (hb hby at_61) rfl rfl (l' := #[.val (.int p1), .val (.int p2), .val (.int p3), .val (.ref t66), .val (.ref t69), .val (.ref b72), .val (.ref b83), .val (.ref b99), .unset, .unset, .unset]) rfl k) ?_
  show own_G p.tables e below s _ _ _ (T112.setTop (mkF m 63 #[.val (.int p1), .val (.int p2), .val (.int p3), .val (.ref t66), .val (.ref t69), .val (.ref b72), .val (.ref b83), .val (.ref b99), .unset, .unset, .unset] []))
  obtain ⟨T120, h120, X120, e120, E120, A120, D120, -, st120⟩ := newO X112 hx hZ hown (hw _ (List.mem_of_getElem? (i := 26) rfl)) (hw _ (List.mem_of_getElem? (i := 27) rfl)) (hw _ (List.mem_of_getElem? (i := 28) rfl)) rfl (g := (mkF m 63 #[.val (.int p1), .val (.int p2), .val (.int p3), .val (.ref t66), .val (.ref t69), .val (.ref b72), .val (.ref b83), .val (.ref b99), .unset, .unset, .unset] [])) rfl (hb hby at_63) (by decide) (by decide)
  obtain ⟨b120, g120⟩ : ∃ z, z = T112.heap.size := ⟨_, rfl⟩
  rw [← g120] at A120 D120 st120
  refine own_go st120 ?_
  have g121 := Nat.le_trans z119 (Nat.le_of_eq g120.symm)
  have n122 := Nat.ne_of_lt (Nat.lt_of_lt_of_le f114.lt (Nat.le_of_eq g120.symm))
  have n123 := Nat.ne_of_lt (Nat.lt_of_lt_of_le f116.lt (Nat.le_of_eq g120.symm))
  have n124 := Nat.ne_of_lt (Nat.lt_of_lt_of_le f118.lt (Nat.le_of_eq g120.symm))
  have f125 := f113.ext E120
  have f126 := Exa.ext E120 f114
  have f127 := Fld.ext E120 f115
  have f128 := Exa.ext E120 f116
  have f129 := Fld.ext E120 f117
  have f130 := Exa.ext E120 f118
  have f131 := Fld.ext E120 F112
  have z132 := Nat.le_trans z119 E120.1
  have f133 : Fld Z h120 b120 "com/example/options_into_arguments/optionsintoarguments/evaluation/Judgment" "topic" "Ljava/lang/String;" .null := D120 (Or.inr (hw _ (List.mem_of_getElem? (i := 34) rfl))) (ty := (.object "java/lang/String")) (by decide)
  have f134 : Fld Z h120 b120 "com/example/options_into_arguments/optionsintoarguments/evaluation/Judgment" "document" "Ljava/lang/String;" .null := D120 (Or.inr (hw _ (List.mem_of_getElem? (i := 36) rfl))) (ty := (.object "java/lang/String")) (by decide)
  have f135 : Fld Z h120 b120 "com/example/options_into_arguments/optionsintoarguments/evaluation/Judgment" "grade" "I" (.int (0 : Int32)) := D120 (Or.inr (hw _ (List.mem_of_getElem? (i := 38) rfl))) (ty := .int) (by decide)
  show own_G p.tables e below s _ _ _ (T120.setTop (mkF m 66 #[.val (.int p1), .val (.int p2), .val (.int p3), .val (.ref t66), .val (.ref t69), .val (.ref b72), .val (.ref b83), .val (.ref b99), .unset, .unset, .unset] [(.ref b120)]))
  refine own_go (fun t k => XS.dup X120.here hx rfl (hb hby at_66) rfl rfl k) ?_
  show own_G p.tables e below s _ _ _ (T120.setTop (mkF m 67 #[.val (.int p1), .val (.int p2), .val (.int p3), .val (.ref t66), .val (.ref t69), .val (.ref b72), .val (.ref b83), .val (.ref b99), .unset, .unset, .unset] [(.ref b120), (.ref b120)]))
  refine own_go (fun t k => XS.aload X120.here hx rfl (hb hby at_67) rfl rfl k) ?_
  show own_G p.tables e below s _ _ _ (T120.setTop (mkF m 69 #[.val (.int p1), .val (.int p2), .val (.int p3), .val (.ref t66), .val (.ref t69), .val (.ref b72), .val (.ref b83), .val (.ref b99), .unset, .unset, .unset] [(.ref t69), (.ref b120), (.ref b120)]))
  refine own_go (fun t k => XS.aloadN X120.here hx rfl (hb hby at_69) rfl rfl k) ?_
  show own_G p.tables e below s _ _ _ (T120.setTop (mkF m 70 #[.val (.int p1), .val (.int p2), .val (.int p3), .val (.ref t66), .val (.ref t69), .val (.ref b72), .val (.ref b83), .val (.ref b99), .unset, .unset, .unset] [(.ref t66), (.ref t69), (.ref b120), (.ref b120)]))
  refine own_go (fun t k => XS.iconst X120.here hx rfl (hb hby at_70) k) ?_
  show own_G p.tables e below s _ _ _ (T120.setTop (mkF m 71 #[.val (.int p1), .val (.int p2), .val (.int p3), .val (.ref t66), .val (.ref t69), .val (.ref b72), .val (.ref b83), .val (.ref b99), .unset, .unset, .unset] [(.int (1 : Int32)), (.ref t66), (.ref t69), (.ref b120), (.ref b120)]))
  obtain ⟨_, _, ⟨T136, L136, k136, n136⟩, -, X136, ⟨Lc136, hQ136, l136, y136, z136⟩, st136⟩ := X120.specialBack hx (y := (⟨"com/example/options_into_arguments/optionsintoarguments/evaluation/Judgment", "<init>", "(Ljava/lang/String;Ljava/lang/String;I)V"⟩ : MethodName)) rfl hown (mvT hZ (hw _ (List.mem_of_getElem? (i := 29) rfl))) (mvT hZ (hw _ (List.mem_of_getElem? (i := 30) rfl))) (mvT hZ (hw _ (List.mem_of_getElem? (i := 31) rfl))) (by decide) (backOf (W := 1) (rmj l Z a0 hw [] b120 t69 t66 (1 : Int32) h120 n0 z132 A120 f133 f134 f135 g121) hZ (hw _ (List.mem_of_getElem? (i := 31) rfl)) (hw _ (List.mem_of_getElem? (i := 28) rfl)) (by decide) (by decide)) (g := (mkF m 71 #[.val (.int p1), .val (.int p2), .val (.int p3), .val (.ref t66), .val (.ref t69), .val (.ref b72), .val (.ref b83), .val (.ref b99), .unset, .unset, .unset] [(.int (1 : Int32)), (.ref t66), (.ref t69), (.ref b120), (.ref b120)])) rfl (by rw [hml]; rfl) (Steps.refl _) (a := b120) (argsL := [(.ref t69), (.ref t66), (.int (1 : Int32))]) (rest := [(.ref b120)]) (lenOf pd__Ljava_lang_String_Ljava_lang_String_I_V rfl) rfl (by show 2 * 0 + _ ≤ _; exact Nat.le_of_eq rfl) (hb hby at_71) (fun _ _ => ⟨rfl, e120, (by decide : 8 + 0 ≤ _), (by decide : 22 + 0 ≤ _)⟩)
  dsimp only [Pt.U, Pt.locs, Pt.cells, Pt.slots] at X136 l136 y136 z136 st136 hQ136
  subst l136 y136 z136
  obtain ⟨rfl, N136q, K136, F136⟩ := hQ136
  have N136 := Fr.app N112 N136q
  refine own_go (fun t k => st136.trans k) ?_
  have f137 := f125.keep K136 (fun x => (fun q => (List.mem_cons.mp q).elim (fun e => e ▸ g121) (fun q => nomatch q)))
  have f138 := f126.keep K136
  have f139 := f127.keep K136 (fun q => (List.mem_cons.mp q).elim n122 (fun q => nomatch q))
  have f140 := f128.keep K136
  have f141 := f129.keep K136 (fun q => (List.mem_cons.mp q).elim n123 (fun q => nomatch q))
  have f142 := f130.keep K136
  have f143 := f131.keep K136 (fun q => (List.mem_cons.mp q).elim n124 (fun q => nomatch q))
  have f144 := A120.keep K136
  have z145 := Nat.le_trans z132 K136.1
  show own_G p.tables e below s _ _ _ (T136.setTop (mkF m 74 #[.val (.int p1), .val (.int p2), .val (.int p3), .val (.ref t66), .val (.ref t69), .val (.ref b72), .val (.ref b83), .val (.ref b99), .unset, .unset, .unset] [(.ref b120)]))
  refine own_go (fun t k => XS.astore X136.here hx rfl (hb hby at_74) rfl rfl (l' := #[.val (.int p1), .val (.int p2), .val (.int p3), .val (.ref t66), .val (.ref t69), .val (.ref b72), .val (.ref b83), .val (.ref b99), .val (.ref b120), .unset, .unset]) rfl k) ?_
  show own_G p.tables e below s _ _ _ (T136.setTop (mkF m 76 #[.val (.int p1), .val (.int p2), .val (.int p3), .val (.ref t66), .val (.ref t69), .val (.ref b72), .val (.ref b83), .val (.ref b99), .val (.ref b120), .unset, .unset] []))
  refine own_go (fun t k => XS.aload X136.here hx rfl (hb hby at_76) rfl rfl k) ?_
  show own_G p.tables e below s _ _ _ (T136.setTop (mkF m 78 #[.val (.int p1), .val (.int p2), .val (.int p3), .val (.ref t66), .val (.ref t69), .val (.ref b72), .val (.ref b83), .val (.ref b99), .val (.ref b120), .unset, .unset] [(.ref b72)]))
  obtain ⟨ra, hra⟩ : ∃ r, (if (0 : Int32) < p1 then (1 : Int32) else 0) = r := ⟨_, rfl⟩
  obtain ⟨rb, hrb⟩ : ∃ r, (if (0 : Int32) < p2 then (1 : Int32) else 0) = r := ⟨_, rfl⟩
  obtain ⟨cq146, kq146, q146a, q146b, q146c⟩ := isOf hZ rfl f138
  obtain ⟨_, _, ⟨T146, L146, k146, n146⟩, -, X146, ⟨Lc146, hQ146, l146, y146, z146⟩, st146⟩ := X136.virtualBack hx (y := (⟨"com/example/options_into_arguments/optionsintoarguments/evaluation/Judgment", "isRelevant", "()Z"⟩ : MethodName)) (z := (⟨"com/example/options_into_arguments/optionsintoarguments/evaluation/Judgment", "isRelevant", "()Z"⟩ : MethodName)) hown (mvT hZ (hw _ (List.mem_of_getElem? (i := 39) rfl))) (mvT hZ (hw _ (List.mem_of_getElem? (i := 40) rfl))) (notFace_of_selects (args := #[]) (mvT hZ (hw _ (List.mem_of_getElem? (i := 42) rfl)))) (mvT hZ (hw _ (List.mem_of_getElem? (i := 42) rfl))) (mvT hZ (hw _ (List.mem_of_getElem? (i := 41) rfl))) (by decide) (backOf (W := 0) (rmr l Z a0 hw [] b72 p1 ra T136.heap n0 z145 f139 hra) hZ (hw _ (List.mem_of_getElem? (i := 43) rfl)) (hw _ (List.mem_of_getElem? (i := 28) rfl)) (by decide) (by decide)) q146a q146c (g := (mkF m 78 #[.val (.int p1), .val (.int p2), .val (.int p3), .val (.ref t66), .val (.ref t69), .val (.ref b72), .val (.ref b83), .val (.ref b99), .val (.ref b120), .unset, .unset] [(.ref b72)])) rfl (by rw [hml]; rfl) (Steps.refl _) (argsL := []) (rest := []) (lenOf pd___Z rfl) rfl (by show 2 * 0 + _ ≤ _; exact Nat.le_of_eq rfl) (hb hby at_78) (fun _ _ => ⟨rfl, rfl, (by decide : 8 + 0 ≤ _), (by decide : 22 + 0 ≤ _)⟩)
  dsimp only [Pt.U, Pt.locs, Pt.cells, Pt.slots] at X146 l146 y146 z146 st146 hQ146
  subst l146 y146 z146
  obtain ⟨rfl, N146q, hh146⟩ := hQ146
  have N146 := Fr.app N136 N146q
  refine own_go (fun t k => st146.trans k) ?_
  show own_G p.tables e below s _ _ _ (T146.setTop (mkF m 81 #[.val (.int p1), .val (.int p2), .val (.int p3), .val (.ref t66), .val (.ref t69), .val (.ref b72), .val (.ref b83), .val (.ref b99), .val (.ref b120), .unset, .unset] [(.int ra)]))
  refine own_go (fun t k => XS.istore X146.here hx rfl (hb hby at_81) rfl (l' := #[.val (.int p1), .val (.int p2), .val (.int p3), .val (.ref t66), .val (.ref t69), .val (.ref b72), .val (.ref b83), .val (.ref b99), .val (.ref b120), .val (.int ra), .unset]) rfl k) ?_
  show own_G p.tables e below s _ _ _ (T146.setTop (mkF m 83 #[.val (.int p1), .val (.int p2), .val (.int p3), .val (.ref t66), .val (.ref t69), .val (.ref b72), .val (.ref b83), .val (.ref b99), .val (.ref b120), .val (.int ra), .unset] []))
  refine own_go (fun t k => XS.aload X146.here hx rfl (hb hby at_83) rfl rfl k) ?_
  show own_G p.tables e below s _ _ _ (T146.setTop (mkF m 85 #[.val (.int p1), .val (.int p2), .val (.int p3), .val (.ref t66), .val (.ref t69), .val (.ref b72), .val (.ref b83), .val (.ref b99), .val (.ref b120), .val (.int ra), .unset] [(.ref b83)]))
  obtain ⟨cq147, kq147, q147a, q147b, q147c⟩ := isOf hZ hh146 f140
  obtain ⟨_, _, ⟨T147, L147, k147, n147⟩, -, X147, ⟨Lc147, hQ147, l147, y147, z147⟩, st147⟩ := X146.virtualBack hx (y := (⟨"com/example/options_into_arguments/optionsintoarguments/evaluation/Judgment", "isRelevant", "()Z"⟩ : MethodName)) (z := (⟨"com/example/options_into_arguments/optionsintoarguments/evaluation/Judgment", "isRelevant", "()Z"⟩ : MethodName)) hown (mvT hZ (hw _ (List.mem_of_getElem? (i := 39) rfl))) (mvT hZ (hw _ (List.mem_of_getElem? (i := 40) rfl))) (notFace_of_selects (args := #[]) (mvT hZ (hw _ (List.mem_of_getElem? (i := 42) rfl)))) (mvT hZ (hw _ (List.mem_of_getElem? (i := 42) rfl))) (mvT hZ (hw _ (List.mem_of_getElem? (i := 41) rfl))) (by decide) (backOf (W := 0) (rmr l Z a0 hw [] b83 p2 rb T136.heap n0 z145 f141 hrb) hZ (hw _ (List.mem_of_getElem? (i := 43) rfl)) (hw _ (List.mem_of_getElem? (i := 28) rfl)) (by decide) (by decide)) q147a q147c (g := (mkF m 85 #[.val (.int p1), .val (.int p2), .val (.int p3), .val (.ref t66), .val (.ref t69), .val (.ref b72), .val (.ref b83), .val (.ref b99), .val (.ref b120), .val (.int ra), .unset] [(.ref b83)])) rfl (by rw [hml]; rfl) (Steps.refl _) (argsL := []) (rest := []) (lenOf pd___Z rfl) rfl (by show 2 * 0 + _ ≤ _; exact Nat.le_of_eq rfl) (hb hby at_85) (fun _ _ => ⟨rfl, hh146, (by decide : 8 + 0 ≤ _), (by decide : 22 + 0 ≤ _)⟩)
  dsimp only [Pt.U, Pt.locs, Pt.cells, Pt.slots] at X147 l147 y147 z147 st147 hQ147
  subst l147 y147 z147
  obtain ⟨rfl, N147q, hh147⟩ := hQ147
  have N147 := Fr.app N146 N147q
  refine own_go (fun t k => st147.trans k) ?_
  show own_G p.tables e below s _ _ _ (T147.setTop (mkF m 88 #[.val (.int p1), .val (.int p2), .val (.int p3), .val (.ref t66), .val (.ref t69), .val (.ref b72), .val (.ref b83), .val (.ref b99), .val (.ref b120), .val (.int ra), .unset] [(.int rb)]))
  refine own_go (fun t k => XS.istore X147.here hx rfl (hb hby at_88) rfl (l' := #[.val (.int p1), .val (.int p2), .val (.int p3), .val (.ref t66), .val (.ref t69), .val (.ref b72), .val (.ref b83), .val (.ref b99), .val (.ref b120), .val (.int ra), .val (.int rb)]) rfl k) ?_
  show own_G p.tables e below s _ _ _ (T147.setTop (mkF m 90 #[.val (.int p1), .val (.int p2), .val (.int p3), .val (.ref t66), .val (.ref t69), .val (.ref b72), .val (.ref b83), .val (.ref b99), .val (.ref b120), .val (.int ra), .val (.int rb)] []))
  refine own_go (fun t k => XS.aload X147.here hx rfl (hb hby at_90) rfl rfl k) ?_
  show own_G p.tables e below s _ _ _ (T147.setTop (mkF m 92 #[.val (.int p1), .val (.int p2), .val (.int p3), .val (.ref t66), .val (.ref t69), .val (.ref b72), .val (.ref b83), .val (.ref b99), .val (.ref b120), .val (.int ra), .val (.int rb)] [(.ref b99)]))
  obtain ⟨cq148, kq148, q148a, q148b, q148c⟩ := isOf hZ hh147 f142
  obtain ⟨_, _, ⟨T148, L148, k148, n148⟩, -, X148, ⟨Lc148, hQ148, l148, y148, z148⟩, st148⟩ := X147.virtualBack hx (y := (⟨"com/example/options_into_arguments/optionsintoarguments/evaluation/Judgment", "isRelevant", "()Z"⟩ : MethodName)) (z := (⟨"com/example/options_into_arguments/optionsintoarguments/evaluation/Judgment", "isRelevant", "()Z"⟩ : MethodName)) hown (mvT hZ (hw _ (List.mem_of_getElem? (i := 39) rfl))) (mvT hZ (hw _ (List.mem_of_getElem? (i := 40) rfl))) (notFace_of_selects (args := #[]) (mvT hZ (hw _ (List.mem_of_getElem? (i := 42) rfl)))) (mvT hZ (hw _ (List.mem_of_getElem? (i := 42) rfl))) (mvT hZ (hw _ (List.mem_of_getElem? (i := 41) rfl))) (by decide) (backOf (W := 0) (rmr l Z a0 hw [] b99 (0 : Int32) (0 : Int32) T136.heap n0 z145 f143 (by decide)) hZ (hw _ (List.mem_of_getElem? (i := 43) rfl)) (hw _ (List.mem_of_getElem? (i := 28) rfl)) (by decide) (by decide)) q148a q148c (g := (mkF m 92 #[.val (.int p1), .val (.int p2), .val (.int p3), .val (.ref t66), .val (.ref t69), .val (.ref b72), .val (.ref b83), .val (.ref b99), .val (.ref b120), .val (.int ra), .val (.int rb)] [(.ref b99)])) rfl (by rw [hml]; rfl) (Steps.refl _) (argsL := []) (rest := []) (lenOf pd___Z rfl) rfl (by show 2 * 0 + _ ≤ _; exact Nat.le_of_eq rfl) (hb hby at_92) (fun _ _ => ⟨rfl, hh147, (by decide : 8 + 0 ≤ _), (by decide : 22 + 0 ≤ _)⟩)
  dsimp only [Pt.U, Pt.locs, Pt.cells, Pt.slots] at X148 l148 y148 z148 st148 hQ148
  subst l148 y148 z148
  obtain ⟨rfl, N148q, hh148⟩ := hQ148
  have N148 := Fr.app N147 N148q
  refine own_go (fun t k => st148.trans k) ?_
  show own_G p.tables e below s _ _ _ (T148.setTop (mkF m 95 #[.val (.int p1), .val (.int p2), .val (.int p3), .val (.ref t66), .val (.ref t69), .val (.ref b72), .val (.ref b83), .val (.ref b99), .val (.ref b120), .val (.int ra), .val (.int rb)] [(.int (0 : Int32))]))
  refine own_go (fun t k => XS.ifYes X148.here hx rfl (pc0 := 95) (pc' := 100) rfl (hb hby at_95) rfl (by decide) (by decide) (by decide) k) ?_
  show own_G p.tables e below s _ _ _ (T148.setTop (mkF m 100 #[.val (.int p1), .val (.int p2), .val (.int p3), .val (.ref t66), .val (.ref t69), .val (.ref b72), .val (.ref b83), .val (.ref b99), .val (.ref b120), .val (.int ra), .val (.int rb)] []))
  refine own_go (fun t k => XS.aload X148.here hx rfl (hb hby at_100) rfl rfl k) ?_
  show own_G p.tables e below s _ _ _ (T148.setTop (mkF m 102 #[.val (.int p1), .val (.int p2), .val (.int p3), .val (.ref t66), .val (.ref t69), .val (.ref b72), .val (.ref b83), .val (.ref b99), .val (.ref b120), .val (.int ra), .val (.int rb)] [(.ref b120)]))
  obtain ⟨cq149, kq149, q149a, q149b, q149c⟩ := isOf hZ hh148 f144
  obtain ⟨_, _, ⟨T149, L149, k149, n149⟩, -, X149, ⟨Lc149, hQ149, l149, y149, z149⟩, st149⟩ := X148.virtualBack hx (y := (⟨"com/example/options_into_arguments/optionsintoarguments/evaluation/Judgment", "isRelevant", "()Z"⟩ : MethodName)) (z := (⟨"com/example/options_into_arguments/optionsintoarguments/evaluation/Judgment", "isRelevant", "()Z"⟩ : MethodName)) hown (mvT hZ (hw _ (List.mem_of_getElem? (i := 39) rfl))) (mvT hZ (hw _ (List.mem_of_getElem? (i := 40) rfl))) (notFace_of_selects (args := #[]) (mvT hZ (hw _ (List.mem_of_getElem? (i := 42) rfl)))) (mvT hZ (hw _ (List.mem_of_getElem? (i := 42) rfl))) (mvT hZ (hw _ (List.mem_of_getElem? (i := 41) rfl))) (by decide) (backOf (W := 0) (rmr l Z a0 hw [] b120 (1 : Int32) (1 : Int32) T136.heap n0 z145 F136 (by decide)) hZ (hw _ (List.mem_of_getElem? (i := 43) rfl)) (hw _ (List.mem_of_getElem? (i := 28) rfl)) (by decide) (by decide)) q149a q149c (g := (mkF m 102 #[.val (.int p1), .val (.int p2), .val (.int p3), .val (.ref t66), .val (.ref t69), .val (.ref b72), .val (.ref b83), .val (.ref b99), .val (.ref b120), .val (.int ra), .val (.int rb)] [(.ref b120)])) rfl (by rw [hml]; rfl) (Steps.refl _) (argsL := []) (rest := []) (lenOf pd___Z rfl) rfl (by show 2 * 0 + _ ≤ _; exact Nat.le_of_eq rfl) (hb hby at_102) (fun _ _ => ⟨rfl, hh148, (by decide : 8 + 0 ≤ _), (by decide : 22 + 0 ≤ _)⟩)
  dsimp only [Pt.U, Pt.locs, Pt.cells, Pt.slots] at X149 l149 y149 z149 st149 hQ149
  subst l149 y149 z149
  obtain ⟨rfl, N149q, hh149⟩ := hQ149
  have N149 := Fr.app N148 N149q
  refine own_go (fun t k => st149.trans k) ?_
  show own_G p.tables e below s _ _ _ (T149.setTop (mkF m 105 #[.val (.int p1), .val (.int p2), .val (.int p3), .val (.ref t66), .val (.ref t69), .val (.ref b72), .val (.ref b83), .val (.ref b99), .val (.ref b120), .val (.int ra), .val (.int rb)] [(.int (1 : Int32))]))
  refine own_go (fun t k => XS.ifYes X149.here hx rfl (pc0 := 105) (pc' := 110) rfl (hb hby at_105) rfl (by decide) (by decide) (by decide) k) ?_
  show own_G p.tables e below s _ _ _ (T149.setTop (mkF m 110 #[.val (.int p1), .val (.int p2), .val (.int p3), .val (.ref t66), .val (.ref t69), .val (.ref b72), .val (.ref b83), .val (.ref b99), .val (.ref b120), .val (.int ra), .val (.int rb)] []))
  refine own_go (fun t k => XS.iloadN X149.here hx rfl (hb hby at_110) rfl k) ?_
  show own_G p.tables e below s _ _ _ (T149.setTop (mkF m 111 #[.val (.int p1), .val (.int p2), .val (.int p3), .val (.ref t66), .val (.ref t69), .val (.ref b72), .val (.ref b83), .val (.ref b99), .val (.ref b120), .val (.int ra), .val (.int rb)] [(.int p1)]))
  refine own_go (fun t k => XS.iloadN X149.here hx rfl (hb hby at_111) rfl k) ?_
  show own_G p.tables e below s _ _ _ (T149.setTop (mkF m 112 #[.val (.int p1), .val (.int p2), .val (.int p3), .val (.ref t66), .val (.ref t69), .val (.ref b72), .val (.ref b83), .val (.ref b99), .val (.ref b120), .val (.int ra), .val (.int rb)] [(.int p2), (.int p1)]))
  by_cases h112 : p2 < p1
  · refine own_go (fun t k => XS.icmpYes X149.here hx rfl (pc0 := 112) (pc' := 127) rfl (hb hby at_112) rfl (Jvm.Free.XT.ii_gt_t h112) (by decide) (by decide) k) ?_
    show own_G p.tables e below s _ _ _ (T149.setTop (mkF m 127 #[.val (.int p1), .val (.int p2), .val (.int p3), .val (.ref t66), .val (.ref t69), .val (.ref b72), .val (.ref b83), .val (.ref b99), .val (.ref b120), .val (.int ra), .val (.int rb)] []))
    refine own_go (fun t k => XS.iconst X149.here hx rfl (hb hby at_127) k) ?_
    show own_G p.tables e below s _ _ _ (T149.setTop (mkF m 128 #[.val (.int p1), .val (.int p2), .val (.int p3), .val (.ref t66), .val (.ref t69), .val (.ref b72), .val (.ref b83), .val (.ref b99), .val (.ref b120), .val (.int ra), .val (.int rb)] [(.int (1 : Int32))]))
    exact own_retN X149 hx hlk (t := .boolean) (z' := (1 : Int32)) Bd.returns (by simp) (hb hby at_128) (rfl) (by rw [hh149]; exact ⟨rfl, N149⟩) (by decide) (by decide)
  · refine own_go (fun t k => XS.icmpNo X149.here hx rfl (hb hby at_112) rfl (Jvm.Free.XT.ii_gt_f h112) k) ?_
    show own_G p.tables e below s _ _ _ (T149.setTop (mkF m 115 #[.val (.int p1), .val (.int p2), .val (.int p3), .val (.ref t66), .val (.ref t69), .val (.ref b72), .val (.ref b83), .val (.ref b99), .val (.ref b120), .val (.int ra), .val (.int rb)] []))
    refine own_go (fun t k => XS.iload X149.here hx rfl (hb hby at_115) rfl k) ?_
    show own_G p.tables e below s _ _ _ (T149.setTop (mkF m 117 #[.val (.int p1), .val (.int p2), .val (.int p3), .val (.ref t66), .val (.ref t69), .val (.ref b72), .val (.ref b83), .val (.ref b99), .val (.ref b120), .val (.int ra), .val (.int rb)] [(.int ra)]))
    by_cases h117 : ra = (0 : Int32)
    · refine own_go (fun t k => XS.ifYes X149.here hx rfl (pc0 := 117) (pc' := 127) rfl (hb hby at_117) rfl (Jvm.Free.XT.i0_eq_t h117) (by decide) (by decide) k) ?_
      show own_G p.tables e below s _ _ _ (T149.setTop (mkF m 127 #[.val (.int p1), .val (.int p2), .val (.int p3), .val (.ref t66), .val (.ref t69), .val (.ref b72), .val (.ref b83), .val (.ref b99), .val (.ref b120), .val (.int ra), .val (.int rb)] []))
      refine own_go (fun t k => XS.iconst X149.here hx rfl (hb hby at_127) k) ?_
      show own_G p.tables e below s _ _ _ (T149.setTop (mkF m 128 #[.val (.int p1), .val (.int p2), .val (.int p3), .val (.ref t66), .val (.ref t69), .val (.ref b72), .val (.ref b83), .val (.ref b99), .val (.ref b120), .val (.int ra), .val (.int rb)] [(.int (1 : Int32))]))
      exact own_retN X149 hx hlk (t := .boolean) (z' := (1 : Int32)) Bd.returns (by simp) (hb hby at_128) (rfl) (by rw [hh149]; exact ⟨rfl, N149⟩) (by decide) (by decide)
    · refine own_go (fun t k => XS.ifNo X149.here hx rfl (hb hby at_117) rfl (Jvm.Free.XT.i0_eq_f h117) k) ?_
      show own_G p.tables e below s _ _ _ (T149.setTop (mkF m 120 #[.val (.int p1), .val (.int p2), .val (.int p3), .val (.ref t66), .val (.ref t69), .val (.ref b72), .val (.ref b83), .val (.ref b99), .val (.ref b120), .val (.int ra), .val (.int rb)] []))
      refine own_go (fun t k => XS.iload X149.here hx rfl (hb hby at_120) rfl k) ?_
      show own_G p.tables e below s _ _ _ (T149.setTop (mkF m 122 #[.val (.int p1), .val (.int p2), .val (.int p3), .val (.ref t66), .val (.ref t69), .val (.ref b72), .val (.ref b83), .val (.ref b99), .val (.ref b120), .val (.int ra), .val (.int rb)] [(.int rb)]))
      refine own_go (fun t k => XS.ifYes X149.here hx rfl (pc0 := 122) (pc' := 127) rfl (hb hby at_122) rfl (Jvm.Free.XT.i0_ne_t (own_rel hra hrb h112 h117)) (by decide) (by decide) k) ?_
      show own_G p.tables e below s _ _ _ (T149.setTop (mkF m 127 #[.val (.int p1), .val (.int p2), .val (.int p3), .val (.ref t66), .val (.ref t69), .val (.ref b72), .val (.ref b83), .val (.ref b99), .val (.ref b120), .val (.int ra), .val (.int rb)] []))
      refine own_go (fun t k => XS.iconst X149.here hx rfl (hb hby at_127) k) ?_
      show own_G p.tables e below s _ _ _ (T149.setTop (mkF m 128 #[.val (.int p1), .val (.int p2), .val (.int p3), .val (.ref t66), .val (.ref t69), .val (.ref b72), .val (.ref b83), .val (.ref b99), .val (.ref b120), .val (.int ra), .val (.int rb)] [(.int (1 : Int32))]))
      exact own_retN X149 hx hlk (t := .boolean) (z' := (1 : Int32)) Bd.returns (by simp) (hb hby at_128) (rfl) (by rw [hh149]; exact ⟨rfl, N149⟩) (by decide) (by decide)
set_option maxRecDepth 65536 in
set_option maxHeartbeats 40000000 in
theorem comes_1 {Post : Tables → Env → Array Value → State → Outcome → State → Prop} (hpost : ∀ tb e args s v u, (limb_1_1.after args s (.returned v) u = true ∧ limb_1_2.after args s (.returned v) u = true ∧ True) → FrameEnd s (.returned v) u (Jvm.fieldLocs frame_1_writes args s ++ Jvm.arrayLocs frame_1_arrays args s ++ Jvm.staticLocs frame_1_statics s) 24 128 → Post tb e args s (.returned v) u) :
    ArmFor flags0 classFile x code maxLocals ret World_1 tables_1 room_1 Calls_1 rest_1 Pre_1 Post := by
  intro l hfl _ _ p e ha hc hk s m args below hf hA hF happ hP
  obtain ⟨hcalls, hrest, hpre⟩ := hP
  obtain ⟨-, -, -, hnamed, -, -, -, hat⟩ := (Spec.applies_iff hf).mp happ
  obtain ⟨hg, hn⟩ := and_e (Cond.before_iff.mp (show (Jvm.Cond.and given_1 narrow_1).before args s = true from hpre))
  obtain ⟨gc, g0'⟩ := and_e hg
  obtain ⟨ga0, g1'⟩ := and_e g0'
  obtain ⟨ga1, g2'⟩ := and_e g1'
  have ga2 := g2'
  obtain ⟨w0, w1, w2, rfl⟩ : ∃ w0 w1 w2 : Value, args = #[w0, w1, w2] := by
    have hs : args.size = 3 := by simpa [Cond.value, given_1] using gc
    obtain ⟨L⟩ := args
    match L, hs with
    | [w0, w1, w2], _ => exact ⟨w0, w1, w2, rfl⟩
  have hw := fun d (hd : d ∈ tables_1) => atoms_spec (ws := Jvm.Cond.code x code maxLocals ret :: tables_1) hat d (List.mem_cons_of_mem _ hd)
  have hfit : Fit s := fun {y c} hc i hi => by
    obtain ⟨ha, rfl⟩ := Array.getElem?_eq_some_iff.mp hc
    have q := List.all_eq_true.mp ((Array.all_eq_true_iff_forall_mem.mp hF) _ (Array.getElem_mem ha)) i (List.mem_range.mpr hi)
    simpa [Array.getElem?_eq_getElem hi] using q
  obtain ⟨hsets, hown0⟩ := atoms_of _ (rest_1_c_eq ▸ (show rest_1_c.before _ s = true from hrest))
  have hr0 := Cond.before_iff.mp hown0
  obtain ⟨i0, ei0⟩ := is_v ga0
  obtain rfl : w0 = (.int i0) := Option.some.inj ei0
  obtain ⟨i1, ei1⟩ := is_v ga1
  obtain rfl : w1 = (.int i1) := Option.some.inj ei1
  obtain ⟨i2, ei2⟩ := is_v ga2
  obtain rfl : w2 = (.int i2) := Option.some.inj ei2
  obtain ⟨cw, ecw⟩ := is_v (Cond.before_iff.mp (hsets _ (List.mem_of_getElem? (i := 1) rfl)))
  have hcw : ¬ cw = 0 := fun q => by
    have h := not_v (Cond.before_iff.mp (hsets _ (List.mem_of_getElem? (i := 2) rfl)))
    rw [eq_i ecw (Term.int_eval 0) (by rw [q])] at h
    cases h
  have S0 := Sta.start ecw (Or.inl (hsets _ (List.mem_of_getElem? (i := 0) rfl)))
  obtain ⟨n, o, h1, h2, h3, _, L, rfl, ⟨rfl, N⟩, hq⟩ := rm0 l s _ hw tables_1 i0 i1 i2 cw s.heap s.heap.size (Nat.le_refl _) (Old.start s) S0 hcw p e ha hc hk s m _ below hf ((Spec.applies_iff_loose hf).mp happ).1 ⟨rfl, State.Warmed39.refl s, rfl⟩ trivial
  refine ⟨n, _, h1, h2, h3, hpost _ _ _ _ _ _ ⟨Cond.after_iff.mpr rfl, Cond.after_iff.mpr (eq_i res_at (Term.int_eval (1)) rfl), trivial⟩ ⟨hq.1, hq.2.1, (hq.2.2.sift fun y hy => Or.inr (N y hy)).mono (by decide) (by decide)⟩⟩
theorem main_1_1 : Claimed_1_1 := comes_1 fun _ _ _ _ _ _ h hF => ⟨h.1, hF⟩
theorem main_1_2 : Claimed_1_2 := comes_1 fun _ _ _ _ _ _ h hF => ⟨h.2.1, hF⟩
end Jvm.Pilot.@@N@@
namespace Jvm.Pilot.@@N@@
open Jvm Jvm.ClassFile Sem Op Lib Jvm.Free Jvm.Stand Jvm.Pilot.@@N@@.Jvm.D
/-! MADE BY PROGRAM (witnessworld.py) out of the Statement's table words and the real class files: 17 classes; the members and pool entries that the words name. The judged class is class 1, her method 1. -/
namespace start1
open Jvm.ClassFile
def u (s : String) : CpInfo := .utf8 (stringToUtf16 s)
/-- a pool by its gaps: so many unusable entries, then the entry; so many at the end -/
def gap : Nat → List CpInfo → List CpInfo
  | 0, r => r
  | n + 1, r => .unusable :: gap n r
def poolList (es : List (Nat × CpInfo)) (last : Nat) : List CpInfo := es.foldr (fun e r => gap e.1 (e.2 :: r)) (gap last [])
def pool (es : List (Nat × CpInfo)) (last : Nat) : Array CpInfo := ⟨poolList es last⟩
def fileOf (pool : Array CpInfo) (this : Nat) (attrs : Array Attribute := #[]) (ms : Array MethodInfo := #[]) (fl : Nat := 33) (sup : Nat := 0) (ifs : Array Nat := #[]) (fds : Array FieldInfo := #[]) : ClassFile where
  minorVersion := 0
  majorVersion := 65
  constantPool := pool
  accessFlags := fl
  thisClass := this
  superClass := sup
  interfaces := ifs
  fields := fds
  methods := ms
  attributes := attrs
def plain (name : String) (sup : Option ClassId) : Class where
  name := name
  kind := .ordinary
  loader := none
  accessFlags := 33
  super := sup
  interfaces := #[]
  cf := none
  fields := #[]
  methods := #[]
  instanceTypes := #[]
  staticTypes := #[]
  resolved := #[]
  callSites := []
  init := .initialized
  statics := none
  mirror := none

def pool0 : Array CpInfo := pool [(5, u "<init>"), (0, u "()V"), (1, .class_ 10), (1, u "java/lang/Object")] 113

def k0c0 : Code := { maxStack := 0, maxLocals := 1, code := object_method_1_code, exceptionTable := #[], attributes := #[] }
def k0m0 : Method := { name := "<init>", desc := "()V", sig := { parameters := [], returnType := none }, accessFlags := 1, code := some k0c0 }
/-- java/lang/Object -/
def k0 : Class := { plain "java/lang/Object" none with
  accessFlags := 33
  interfaces := #[]
  cf := some (fileOf pool0 8 #[] #[{ accessFlags := 1, nameIndex := 5, descriptorIndex := 6, attributes := #[] }] 33 0 #[] #[])
  fields := #[]
  methods := #[k0m0]
  instanceTypes := #[]
  staticTypes := #[]
  resolved := Array.replicate 124 none
  statics := none }

def pool1 : Array CpInfo := pool [(2, .class_ 4), (1, u "java/lang/Object"), (0, u "<init>"), (0, u "()V"), (0, .methodref 8 9), (0, .class_ 10), (0, .nameAndType 11 12), (0, u "java/lang/String"), (0, u "valueOf"), (0, u "(C)Ljava/lang/String;"), (0, .class_ 14), (0, u "com/example/options_into_arguments/optionsintoarguments/evaluation/Judgment"), (0, .methodref 13 16), (0, .nameAndType 5 17), (0, u "(Ljava/lang/String;Ljava/lang/String;I)V"), (0, .methodref 13 19), (0, .nameAndType 20 21), (0, u "isRelevant"), (0, u "()Z"), (0, .class_ 23), (0, u "com/example/options_into_arguments/optionsintoarguments/evaluation/JudgmentIsRelevantPinLaw"), (2, u "law"), (0, u "(III)Z")] 3

def k1m0 : Method := { name := "<init>", desc := "()V", sig := { parameters := [], returnType := none }, accessFlags := 2, code := none }
def k1c1 : Code := { maxStack := 5, maxLocals := 11, code := code, exceptionTable := #[], attributes := #[] }
def k1m1 : Method := { name := "law", desc := "(III)Z", sig := { parameters := [.int, .int, .int], returnType := some .boolean }, accessFlags := 9, code := some k1c1 }
/-- com/example/options_into_arguments/optionsintoarguments/evaluation/JudgmentIsRelevantPinLaw -/
def k1 : Class := { plain "com/example/options_into_arguments/optionsintoarguments/evaluation/JudgmentIsRelevantPinLaw" (some 0) with
  accessFlags := 49
  interfaces := #[]
  cf := some (fileOf pool1 22 #[] #[{ accessFlags := 2, nameIndex := 5, descriptorIndex := 6, attributes := #[] }, { accessFlags := 9, nameIndex := 26, descriptorIndex := 27, attributes := #[] }] 49 2 #[] #[])
  fields := #[]
  methods := #[k1m0, k1m1]
  instanceTypes := #[]
  staticTypes := #[]
  resolved := Array.replicate 31 none
  statics := none }

def pool2 : Array CpInfo := pool [(1, .class_ 2), (0, u "java/io/Serializable"), (0, .class_ 4), (0, u "java/lang/Object")] 2

/-- java/io/Serializable -/
def k2 : Class := { plain "java/io/Serializable" (some 0) with
  accessFlags := 1537
  interfaces := #[]
  cf := some (fileOf pool2 1 #[] #[] 1537 3 #[] #[])
  fields := #[]
  methods := #[]
  instanceTypes := #[]
  staticTypes := #[]
  resolved := Array.replicate 7 none
  statics := none }

def pool3 : Array CpInfo := pool [(1, .class_ 2), (0, u "java/lang/Comparable"), (0, .class_ 4), (0, u "java/lang/Object")] 7

/-- java/lang/Comparable -/
def k3 : Class := { plain "java/lang/Comparable" (some 0) with
  accessFlags := 1537
  interfaces := #[]
  cf := some (fileOf pool3 1 #[] #[] 1537 3 #[] #[])
  fields := #[]
  methods := #[]
  instanceTypes := #[]
  staticTypes := #[]
  resolved := Array.replicate 12 none
  statics := none }

def pool4 : Array CpInfo := pool [(2, .class_ 4), (1, u "java/lang/CharSequence"), (42, .class_ 48), (0, u "java/lang/CharSequence$1CodePointIterator"), (10, .class_ 60), (0, u "java/lang/CharSequence$1CharIterator"), (5, .class_ 67), (0, u "java/lang/Object")] 63

/-- java/lang/CharSequence -/
def k4 : Class := { plain "java/lang/CharSequence" (some 0) with
  accessFlags := 1537
  interfaces := #[]
  cf := some (fileOf pool4 2 #[.nestMembers #[47, 59]] #[] 1537 66 #[] #[])
  fields := #[]
  methods := #[]
  instanceTypes := #[]
  staticTypes := #[]
  resolved := Array.replicate 131 none
  statics := none }

def pool5 : Array CpInfo := pool [(1, .class_ 2), (0, u "java/lang/constant/Constable"), (0, .class_ 4), (0, u "java/lang/Object")] 6

/-- java/lang/constant/Constable -/
def k5 : Class := { plain "java/lang/constant/Constable" (some 0) with
  accessFlags := 1537
  interfaces := #[]
  cf := some (fileOf pool5 1 #[] #[] 1537 3 #[] #[])
  fields := #[]
  methods := #[]
  instanceTypes := #[]
  staticTypes := #[]
  resolved := Array.replicate 11 none
  statics := none }

def pool6 : Array CpInfo := pool [(1, .class_ 2), (0, u "java/lang/constant/ConstantDesc"), (0, .class_ 4), (0, u "java/lang/Object")] 32

/-- java/lang/constant/ConstantDesc -/
def k6 : Class := { plain "java/lang/constant/ConstantDesc" (some 0) with
  accessFlags := 1537
  interfaces := #[]
  cf := some (fileOf pool6 1 #[] #[] 1537 3 #[] #[])
  fields := #[]
  methods := #[]
  instanceTypes := #[]
  staticTypes := #[]
  resolved := Array.replicate 37 none
  statics := none }

def pool7 : Array CpInfo := pool [(1, .methodref 2 3), (0, .class_ 4), (0, .nameAndType 5 6), (0, u "java/lang/Object"), (0, u "<init>"), (0, u "()V"), (2, .fieldref 10 11), (0, .class_ 12), (0, .nameAndType 13 14), (0, u "java/lang/String"), (0, u "value"), (0, u "[B"), (0, .fieldref 10 16), (0, .nameAndType 17 18), (0, u "coder"), (0, u "B"), (2, u "hash"), (0, u "I"), (2, u "hashIsZero"), (0, u "Z"), (11, .fieldref 10 39), (0, .nameAndType 40 26), (0, u "COMPACT_STRINGS"), (12, u "toBytes"), (53, .class_ 109), (1, u "java/lang/StringLatin1"), (99, .methodref 10 210), (0, .nameAndType 5 211), (0, u "([BB)V"), (157, u "(C)Z"), (205, .class_ 576), (0, u "java/lang/CharSequence"), (22, u "CASE_INSENSITIVE_ORDER"), (0, u "Ljava/util/Comparator;"), (181, u "valueOf"), (0, u "(C)Ljava/lang/String;"), (231, .methodref 107 1016), (0, .nameAndType 1017 369), (0, u "canEncode"), (0, .methodref 107 1019), (0, .nameAndType 53 1020), (0, u "(C)[B"), (80, u "serialPersistentFields"), (0, u "[Ljava/io/ObjectStreamField;"), (0, .class_ 1104), (0, u "java/lang/String$CaseInsensitiveComparator"), (1, .class_ 1107), (0, u "java/io/Serializable"), (0, .class_ 1109), (0, u "java/lang/Comparable"), (0, .class_ 1111), (0, u "java/lang/constant/Constable"), (0, .class_ 1113), (0, u "java/lang/constant/ConstantDesc"), (2, u "serialVersionUID"), (0, u "J"), (3, u "REPL"), (0, u "C"), (2, u "LATIN1"), (1, u "UTF16")] 323

def k7m0 : Method := { name := "<init>", desc := "()V", sig := { parameters := [], returnType := none }, accessFlags := 1, code := none }
def k7c1 : Code := { maxStack := 4, maxLocals := 1, code := jdk_42_method_139_code, exceptionTable := #[], attributes := #[] }
def k7m1 : Method := { name := "valueOf", desc := "(C)Ljava/lang/String;", sig := { parameters := [.char], returnType := some (.object "java/lang/String") }, accessFlags := 9, code := some k7c1 }
def k7c2 : Code := { maxStack := 2, maxLocals := 3, code := jdk_42_method_151_code, exceptionTable := #[], attributes := #[] }
def k7m2 : Method := { name := "<init>", desc := "([BB)V", sig := { parameters := [(.array .byte), .byte], returnType := none }, accessFlags := 0, code := some k7c2 }
/-- java/lang/String -/
def k7 : Class := { plain "java/lang/String" (some 0) with
  accessFlags := 49
  interfaces := #[2, 3, 4, 5, 6]
  cf := some (fileOf pool7 10 #[.nestMembers #[1103]] #[{ accessFlags := 1, nameIndex := 5, descriptorIndex := 6, attributes := #[] }, { accessFlags := 9, nameIndex := 782, descriptorIndex := 783, attributes := #[] }, { accessFlags := 0, nameIndex := 5, descriptorIndex := 211, attributes := #[] }] 49 2 #[1106, 1108, 575, 1110, 1112] #[{ accessFlags := 18, nameIndex := 13, descriptorIndex := 14, attributes := #[] }, { accessFlags := 18, nameIndex := 17, descriptorIndex := 18, attributes := #[] }, { accessFlags := 2, nameIndex := 21, descriptorIndex := 22, attributes := #[] }, { accessFlags := 2, nameIndex := 25, descriptorIndex := 26, attributes := #[] }, { accessFlags := 26, nameIndex := 1116, descriptorIndex := 1117, attributes := #[] }, { accessFlags := 24, nameIndex := 40, descriptorIndex := 26, attributes := #[] }, { accessFlags := 26, nameIndex := 1101, descriptorIndex := 1102, attributes := #[] }, { accessFlags := 26, nameIndex := 1121, descriptorIndex := 1122, attributes := #[] }, { accessFlags := 25, nameIndex := 599, descriptorIndex := 600, attributes := #[] }, { accessFlags := 24, nameIndex := 1125, descriptorIndex := 18, attributes := #[] }, { accessFlags := 24, nameIndex := 1127, descriptorIndex := 18, attributes := #[] }])
  fields := #[{ name := "value", type := (.array .byte), accessFlags := 18, slot := 0, constantValue := 0 }, { name := "coder", type := .byte, accessFlags := 18, slot := 1, constantValue := 0 }, { name := "hash", type := .int, accessFlags := 2, slot := 2, constantValue := 0 }, { name := "hashIsZero", type := .boolean, accessFlags := 2, slot := 3, constantValue := 0 }, { name := "serialVersionUID", type := .long, accessFlags := 26, slot := 0, constantValue := 0 }, { name := "COMPACT_STRINGS", type := .boolean, accessFlags := 24, slot := 1, constantValue := 0 }, { name := "serialPersistentFields", type := (.array (.object "java/io/ObjectStreamField")), accessFlags := 26, slot := 2, constantValue := 0 }, { name := "REPL", type := .char, accessFlags := 26, slot := 3, constantValue := 0 }, { name := "CASE_INSENSITIVE_ORDER", type := (.object "java/util/Comparator"), accessFlags := 25, slot := 4, constantValue := 0 }, { name := "LATIN1", type := .byte, accessFlags := 24, slot := 5, constantValue := 0 }, { name := "UTF16", type := .byte, accessFlags := 24, slot := 6, constantValue := 0 }]
  methods := #[k7m0, k7m1, k7m2]
  instanceTypes := #[(.array .byte), .byte, .int, .boolean]
  staticTypes := #[.long, .boolean, (.array (.object "java/io/ObjectStreamField")), .char, (.object "java/util/Comparator"), .byte, .byte]
  resolved := Array.replicate 1451 none
  statics := some 0 }

def pool8 : Array CpInfo := pool [(4, .class_ 6), (1, u "java/lang/Object"), (0, u "<init>"), (0, u "()V"), (5, .class_ 16), (1, u "java/lang/StringLatin1"), (73, u "canEncode"), (14, u "(C)Z"), (15, u "$assertionsDisabled"), (0, u "Z"), (98, .class_ 223), (1, u "java/lang/StringLatin1$LinesSpliterator"), (156, u "toBytes"), (1, u "(C)[B"), (7, .class_ 391), (0, u "java/lang/StringLatin1$CharsSpliterator")] 3

def k8m0 : Method := { name := "<init>", desc := "()V", sig := { parameters := [], returnType := none }, accessFlags := 0, code := none }
def k8c1 : Code := { maxStack := 2, maxLocals := 1, code := jdk_43_method_3_code, exceptionTable := #[], attributes := #[] }
def k8m1 : Method := { name := "canEncode", desc := "(C)Z", sig := { parameters := [.char], returnType := some .boolean }, accessFlags := 9, code := some k8c1 }
def k8c2 : Code := { maxStack := 4, maxLocals := 1, code := jdk_43_method_46_code, exceptionTable := #[], attributes := #[] }
def k8m2 : Method := { name := "toBytes", desc := "(C)[B", sig := { parameters := [.char], returnType := some (.array .byte) }, accessFlags := 9, code := some k8c2 }
/-- java/lang/StringLatin1 -/
def k8 : Class := { plain "java/lang/StringLatin1" (some 0) with
  accessFlags := 48
  interfaces := #[]
  cf := some (fileOf pool8 14 #[.nestMembers #[390, 221]] #[{ accessFlags := 0, nameIndex := 7, descriptorIndex := 8, attributes := #[] }, { accessFlags := 9, nameIndex := 90, descriptorIndex := 105, attributes := #[] }, { accessFlags := 9, nameIndex := 380, descriptorIndex := 382, attributes := #[] }] 48 4 #[] #[{ accessFlags := 4120, nameIndex := 121, descriptorIndex := 122, attributes := #[] }])
  fields := #[{ name := "$assertionsDisabled", type := .boolean, accessFlags := 4120, slot := 0, constantValue := 0 }]
  methods := #[k8m0, k8m1, k8m2]
  instanceTypes := #[]
  staticTypes := #[.boolean]
  resolved := Array.replicate 395 none
  statics := none }

def pool9 : Array CpInfo := pool [(1, .methodref 2 3), (0, .class_ 4), (0, .nameAndType 5 6), (0, u "java/lang/Object"), (0, u "<init>"), (0, u "()V"), (0, .fieldref 8 9), (0, .class_ 10), (0, .nameAndType 11 12), (0, u "com/example/options_into_arguments/optionsintoarguments/evaluation/Judgment"), (0, u "topic"), (0, u "Ljava/lang/String;"), (0, .fieldref 8 14), (0, .nameAndType 15 12), (0, u "document"), (0, .fieldref 8 17), (0, .nameAndType 18 19), (0, u "grade"), (0, u "I"), (27, u "(Ljava/lang/String;Ljava/lang/String;I)V"), (0, u "FIELDS"), (2, u "LAYOUT"), (14, u "isRelevant"), (0, u "()Z")] 17

def k9c0 : Code := { maxStack := 2, maxLocals := 4, code := prog_8_method_1_code, exceptionTable := #[], attributes := #[] }
def k9m0 : Method := { name := "<init>", desc := "(Ljava/lang/String;Ljava/lang/String;I)V", sig := { parameters := [(.object "java/lang/String"), (.object "java/lang/String"), .int], returnType := none }, accessFlags := 1, code := some k9c0 }
def k9c1 : Code := { maxStack := 1, maxLocals := 1, code := prog_8_method_6_code, exceptionTable := #[], attributes := #[] }
def k9m1 : Method := { name := "isRelevant", desc := "()Z", sig := { parameters := [], returnType := some .boolean }, accessFlags := 1, code := some k9c1 }
/-- com/example/options_into_arguments/optionsintoarguments/evaluation/Judgment -/
def k9 : Class := { plain "com/example/options_into_arguments/optionsintoarguments/evaluation/Judgment" (some 0) with
  accessFlags := 33
  interfaces := #[]
  cf := some (fileOf pool9 8 #[] #[{ accessFlags := 1, nameIndex := 5, descriptorIndex := 47, attributes := #[] }, { accessFlags := 1, nameIndex := 66, descriptorIndex := 67, attributes := #[] }] 33 2 #[] #[{ accessFlags := 26, nameIndex := 48, descriptorIndex := 19, attributes := #[] }, { accessFlags := 26, nameIndex := 51, descriptorIndex := 12, attributes := #[] }, { accessFlags := 18, nameIndex := 11, descriptorIndex := 12, attributes := #[] }, { accessFlags := 18, nameIndex := 15, descriptorIndex := 12, attributes := #[] }, { accessFlags := 18, nameIndex := 18, descriptorIndex := 19, attributes := #[] }])
  fields := #[{ name := "FIELDS", type := .int, accessFlags := 26, slot := 0, constantValue := 0 }, { name := "LAYOUT", type := (.object "java/lang/String"), accessFlags := 26, slot := 1, constantValue := 0 }, { name := "topic", type := (.object "java/lang/String"), accessFlags := 18, slot := 0, constantValue := 0 }, { name := "document", type := (.object "java/lang/String"), accessFlags := 18, slot := 1, constantValue := 0 }, { name := "grade", type := .int, accessFlags := 18, slot := 2, constantValue := 0 }]
  methods := #[k9m0, k9m1]
  instanceTypes := #[(.object "java/lang/String"), (.object "java/lang/String"), .int]
  staticTypes := #[.int, (.object "java/lang/String")]
  resolved := Array.replicate 85 none
  statics := none }

def pool10 : Array CpInfo := pool [(2, .class_ 4), (1, u "java/lang/Object"), (0, u "<init>"), (0, u "()V"), (17, .class_ 26), (1, u "jdk/internal/util/Preconditions"), (28, .class_ 56), (0, u "jdk/internal/util/Preconditions$4"), (57, .class_ 115), (0, u "jdk/internal/util/Preconditions$1"), (7, u "SIOOBE_FORMATTER"), (0, u "Ljava/util/function/BiFunction;"), (0, .class_ 126), (0, u "jdk/internal/util/Preconditions$2"), (3, u "AIOOBE_FORMATTER"), (0, .class_ 132), (0, u "jdk/internal/util/Preconditions$3"), (3, u "IOOBE_FORMATTER")] 57

def k10m0 : Method := { name := "<init>", desc := "()V", sig := { parameters := [], returnType := none }, accessFlags := 1, code := none }
/-- jdk/internal/util/Preconditions -/
def k10 : Class := { plain "jdk/internal/util/Preconditions" (some 0) with
  accessFlags := 33
  interfaces := #[]
  cf := some (fileOf pool10 24 #[.nestMembers #[55, 131, 125, 114]] #[{ accessFlags := 1, nameIndex := 5, descriptorIndex := 6, attributes := #[] }] 33 2 #[] #[{ accessFlags := 25, nameIndex := 123, descriptorIndex := 124, attributes := #[] }, { accessFlags := 25, nameIndex := 130, descriptorIndex := 124, attributes := #[] }, { accessFlags := 25, nameIndex := 136, descriptorIndex := 124, attributes := #[] }])
  fields := #[{ name := "SIOOBE_FORMATTER", type := (.object "java/util/function/BiFunction"), accessFlags := 25, slot := 0, constantValue := 0 }, { name := "AIOOBE_FORMATTER", type := (.object "java/util/function/BiFunction"), accessFlags := 25, slot := 1, constantValue := 0 }, { name := "IOOBE_FORMATTER", type := (.object "java/util/function/BiFunction"), accessFlags := 25, slot := 2, constantValue := 0 }]
  methods := #[k10m0]
  instanceTypes := #[]
  staticTypes := #[(.object "java/util/function/BiFunction"), (.object "java/util/function/BiFunction"), (.object "java/util/function/BiFunction")]
  resolved := Array.replicate 194 none
  statics := some 1 }

def pool11 : Array CpInfo := pool [(9, u "<init>"), (6, .class_ 18), (1, u "java/lang/Object"), (0, u "()V"), (1, .class_ 23), (1, u "jdk/internal/util/ArraysSupport"), (0, u "LOG2_ARRAY_LONG_INDEX_SCALE"), (0, u "I"), (2, u "U"), (0, u "Ljdk/internal/misc/Unsafe;"), (8, u "BIG_ENDIAN"), (0, u "Z"), (8, u "LOG2_BYTE_BIT_SIZE"), (4, u "LOG2_ARRAY_INT_INDEX_SCALE"), (54, u "JLA"), (0, u "Ljdk/internal/access/JavaLangAccess;"), (11, u "LOG2_ARRAY_BOOLEAN_INDEX_SCALE"), (9, u "LOG2_ARRAY_BYTE_INDEX_SCALE"), (5, u "LOG2_ARRAY_CHAR_INDEX_SCALE"), (5, u "LOG2_ARRAY_SHORT_INDEX_SCALE"), (18, u "LOG2_ARRAY_FLOAT_INDEX_SCALE"), (24, u "LOG2_ARRAY_DOUBLE_INDEX_SCALE"), (89, u "T_BOOLEAN"), (2, u "T_CHAR"), (1, u "T_FLOAT"), (1, u "T_DOUBLE"), (1, u "T_BYTE"), (1, u "T_SHORT"), (1, u "T_INT"), (1, u "T_LONG"), (1, u "SOFT_MAX_ARRAY_LENGTH")] 83

def k11m0 : Method := { name := "<init>", desc := "()V", sig := { parameters := [], returnType := none }, accessFlags := 2, code := none }
/-- jdk/internal/util/ArraysSupport -/
def k11 : Class := { plain "jdk/internal/util/ArraysSupport" (some 0) with
  accessFlags := 33
  interfaces := #[]
  cf := some (fileOf pool11 21 #[] #[{ accessFlags := 2, nameIndex := 9, descriptorIndex := 19, attributes := #[] }] 33 16 #[] #[{ accessFlags := 24, nameIndex := 28, descriptorIndex := 29, attributes := #[] }, { accessFlags := 26, nameIndex := 38, descriptorIndex := 39, attributes := #[] }, { accessFlags := 25, nameIndex := 121, descriptorIndex := 25, attributes := #[] }, { accessFlags := 25, nameIndex := 131, descriptorIndex := 25, attributes := #[] }, { accessFlags := 25, nameIndex := 137, descriptorIndex := 25, attributes := #[] }, { accessFlags := 25, nameIndex := 143, descriptorIndex := 25, attributes := #[] }, { accessFlags := 25, nameIndex := 53, descriptorIndex := 25, attributes := #[] }, { accessFlags := 25, nameIndex := 24, descriptorIndex := 25, attributes := #[] }, { accessFlags := 25, nameIndex := 162, descriptorIndex := 25, attributes := #[] }, { accessFlags := 25, nameIndex := 187, descriptorIndex := 25, attributes := #[] }, { accessFlags := 26, nameIndex := 48, descriptorIndex := 25, attributes := #[] }, { accessFlags := 25, nameIndex := 277, descriptorIndex := 25, attributes := #[] }, { accessFlags := 25, nameIndex := 280, descriptorIndex := 25, attributes := #[] }, { accessFlags := 25, nameIndex := 282, descriptorIndex := 25, attributes := #[] }, { accessFlags := 25, nameIndex := 284, descriptorIndex := 25, attributes := #[] }, { accessFlags := 25, nameIndex := 286, descriptorIndex := 25, attributes := #[] }, { accessFlags := 25, nameIndex := 288, descriptorIndex := 25, attributes := #[] }, { accessFlags := 25, nameIndex := 290, descriptorIndex := 25, attributes := #[] }, { accessFlags := 25, nameIndex := 292, descriptorIndex := 25, attributes := #[] }, { accessFlags := 26, nameIndex := 108, descriptorIndex := 109, attributes := #[] }, { accessFlags := 25, nameIndex := 294, descriptorIndex := 25, attributes := #[] }])
  fields := #[{ name := "U", type := (.object "jdk/internal/misc/Unsafe"), accessFlags := 24, slot := 0, constantValue := 0 }, { name := "BIG_ENDIAN", type := .boolean, accessFlags := 26, slot := 1, constantValue := 0 }, { name := "LOG2_ARRAY_BOOLEAN_INDEX_SCALE", type := .int, accessFlags := 25, slot := 2, constantValue := 0 }, { name := "LOG2_ARRAY_BYTE_INDEX_SCALE", type := .int, accessFlags := 25, slot := 3, constantValue := 0 }, { name := "LOG2_ARRAY_CHAR_INDEX_SCALE", type := .int, accessFlags := 25, slot := 4, constantValue := 0 }, { name := "LOG2_ARRAY_SHORT_INDEX_SCALE", type := .int, accessFlags := 25, slot := 5, constantValue := 0 }, { name := "LOG2_ARRAY_INT_INDEX_SCALE", type := .int, accessFlags := 25, slot := 6, constantValue := 0 }, { name := "LOG2_ARRAY_LONG_INDEX_SCALE", type := .int, accessFlags := 25, slot := 7, constantValue := 0 }, { name := "LOG2_ARRAY_FLOAT_INDEX_SCALE", type := .int, accessFlags := 25, slot := 8, constantValue := 0 }, { name := "LOG2_ARRAY_DOUBLE_INDEX_SCALE", type := .int, accessFlags := 25, slot := 9, constantValue := 0 }, { name := "LOG2_BYTE_BIT_SIZE", type := .int, accessFlags := 26, slot := 10, constantValue := 0 }, { name := "T_BOOLEAN", type := .int, accessFlags := 25, slot := 11, constantValue := 0 }, { name := "T_CHAR", type := .int, accessFlags := 25, slot := 12, constantValue := 0 }, { name := "T_FLOAT", type := .int, accessFlags := 25, slot := 13, constantValue := 0 }, { name := "T_DOUBLE", type := .int, accessFlags := 25, slot := 14, constantValue := 0 }, { name := "T_BYTE", type := .int, accessFlags := 25, slot := 15, constantValue := 0 }, { name := "T_SHORT", type := .int, accessFlags := 25, slot := 16, constantValue := 0 }, { name := "T_INT", type := .int, accessFlags := 25, slot := 17, constantValue := 0 }, { name := "T_LONG", type := .int, accessFlags := 25, slot := 18, constantValue := 0 }, { name := "JLA", type := (.object "jdk/internal/access/JavaLangAccess"), accessFlags := 26, slot := 19, constantValue := 0 }, { name := "SOFT_MAX_ARRAY_LENGTH", type := .int, accessFlags := 25, slot := 20, constantValue := 0 }]
  methods := #[k11m0]
  instanceTypes := #[]
  staticTypes := #[(.object "jdk/internal/misc/Unsafe"), .boolean, .int, .int, .int, .int, .int, .int, .int, .int, .int, .int, .int, .int, .int, .int, .int, .int, .int, (.object "jdk/internal/access/JavaLangAccess"), .int]
  resolved := Array.replicate 378 none
  statics := none }

def pool12 : Array CpInfo := pool [(1, u "java/lang/Cloneable"), (0, .class_ 1), (0, u "java/lang/Object"), (0, .class_ 3)] 3

/-- java/lang/Cloneable -/
def k12 : Class := { plain "java/lang/Cloneable" (some 0) with
  accessFlags := 1537
  interfaces := #[]
  cf := some (fileOf pool12 2 #[] #[] 1537 4 #[] #[])
  fields := #[]
  methods := #[]
  instanceTypes := #[]
  staticTypes := #[]
  resolved := Array.replicate 8 none
  statics := none }

/-- the primitive byte -/
def k13 : Class := { plain "byte" none with kind := .primitive 'B', accessFlags := 0x411 }
/-- [B -/
def k14 : Class := { plain "[B" (some 0) with kind := .array 13 .byte, interfaces := #[12, 2], accessFlags := 1041 }

/-- the primitive int -/
def k15 : Class := { plain "int" none with kind := .primitive 'I', accessFlags := 0x411 }
/-- [I -/
def k16 : Class := { plain "[I" (some 0) with kind := .array 15 .int, interfaces := #[12, 2], accessFlags := 1041 }

def heap : Heap := #[{ cls := 7, slots := #[.long 0, .int 1, .null, .int 0, .null, .int 0, .int 0], vm := .statics 7 },
  { cls := 10, slots := #[.null, .null, .null], vm := .statics 10 }]
def classes : Array Class := #[k0, k1, k2, k3, k4, k5, k6, k7, k8, k9, k10, k11, k12, k13, k14, k15, k16]
def interned : List (Array UInt16 × Addr) := []
def slotsUsed : Nat := 10
def theMethod : MethodId := ⟨1, 1⟩
def args0 : Array Value := #[.int 5, .int 3, .int 7]
def aboutOver (below : List Frame) : State where
  vm := { classes := classes, interned := interned.toArray }
  heap := heap
  slotsUsed := slotsUsed
  threads := #[{ frames := .invoking theMethod args0 :: below }]
def below0 : List Frame := [.native { method := ⟨0, 0⟩, args := #[] }]
def about1 : State := aboutOver below0
def p0 : Program := .bare "" "" ""
def e0 : Env := launch0.env 0 0 0
theorem w_frames : about1.frames = Frame.invoking theMethod args0 :: below0 := rfl
set_option maxRecDepth 65536 in
theorem w_args : argsFit about1.vm theMethod args0 = true := by decide +kernel
set_option maxRecDepth 65536 in
theorem w_heap : heapFits about1 = true := by decide +kernel
set_option maxRecDepth 65536 in
theorem w_runnable : about1.curStatus? = some .runnable := by decide +kernel
set_option maxRecDepth 65536 in
theorem w_alone : about1.alone = true := by decide +kernel
set_option maxRecDepth 65536 in
theorem w_named : about1.methodNamed? x = some theMethod := by decide +kernel
set_option maxRecDepth 65536 in
theorem w_hears : about1.hears theMethod below0 = true := by decide +kernel
set_option maxRecDepth 65536 in
theorem w_ripe : about1.ripe theMethod args0 below0 = true := by decide +kernel
theorem w_running : about1.status = .running := rfl
set_option maxRecDepth 65536 in
theorem w_room : about1.hasRoom e0.platform room_1 = true :=
  launch0.hasRoom_least _ room_1 (by decide +kernel) (by decide +kernel) (by decide +kernel) (by decide +kernel) (by decide +kernel) (by decide +kernel)
theorem allAtoms_all (ts : List Jvm.Cond) (a : Array Jvm.Value) (st : Jvm.State) : (allAtoms ts).before a st = ts.all (fun c => c.before a st) := by
  induction ts with
  | nil => rfl
  | cons c t ih =>
    show (Jvm.Cond.and c (allAtoms t)).before a st = _
    rw [Jvm.Cond.before_and, ih, List.all_cons]
def words1 : List Jvm.Cond := Jvm.Cond.code x code maxLocals ret :: tables_1
/-- a 'code' word, met by the world's own term for the bytes: nothing is compared byte by byte -/
theorem code_word {y : MethodName} {bytes : ByteArray} {mx : Nat} {rt : Option FieldType} {a : Array Value} {s : State} {m : MethodId} {meth : Method} {c : Code} (h1 : s.methodNamed? y = some m) (h2 : s.vm.method? m = some meth) (h3 : meth.code = some c) (h4 : c.code = bytes)
    (h5 : (c.maxLocals == mx && c.exceptionTable.isEmpty && decide (c.maxStack ≤ mostOperands) && decide (meth.sig.returnType = rt) && !meth.locks && decide (parseMethodDescriptor y.desc = some meth.sig)) = true) : (Jvm.Cond.code y bytes mx rt).before a s = true := by
  simp only [Bool.and_eq_true, beq_iff_eq, Bool.not_eq_true', decide_eq_true_eq] at h5
  obtain ⟨⟨⟨⟨⟨g1, g2⟩, g3⟩, g4⟩, g5⟩, g6⟩ := h5
  simp [Cond.before, Cond.holds, Cond.value, h1, h2, h3, h4, g1, g2, g3, g4, g5, g6]
def isCode : Jvm.Cond → Bool
  | .code _ _ _ _ => true
  | _ => false
theorem all_split {L : List Jvm.Cond} {P : Jvm.Cond → Bool} (h1 : L.all (fun c => isCode c || P c) = true) (h2 : ∀ c ∈ L.filter isCode, P c = true) : L.all P = true := by
  refine List.all_eq_true.mpr fun c hc => ?_
  have h := List.all_eq_true.mp h1 c hc
  rcases Bool.eq_false_or_eq_true (isCode c) with hi | hi
  · exact h2 c (List.mem_filter.mpr ⟨hc, hi⟩)
  · simpa [hi] using h
set_option maxRecDepth 65536 in
theorem w_c0 : (Jvm.Cond.code x code maxLocals ret).before args0 about1 = true := code_word (m := ⟨1, 1⟩) (meth := k1m1) (c := k1c1) (by decide +kernel) rfl rfl rfl (by decide +kernel)
set_option maxRecDepth 65536 in
theorem w_c1 : (Jvm.Cond.code ({ cls := "java/lang/String", name := "valueOf", desc := "(C)Ljava/lang/String;" } : Jvm.MethodName) jdk_42_method_139_code (1 : Nat) (Option.some (Jvm.ClassFile.FieldType.object "java/lang/String"))).before args0 about1 = true := code_word (m := ⟨7, 1⟩) (meth := k7m1) (c := k7c1) (by decide +kernel) rfl rfl rfl (by decide +kernel)
set_option maxRecDepth 65536 in
theorem w_c2 : (Jvm.Cond.code ({ cls := "java/lang/StringLatin1", name := "canEncode", desc := "(C)Z" } : Jvm.MethodName) jdk_43_method_3_code (1 : Nat) (Option.some Jvm.ClassFile.FieldType.boolean)).before args0 about1 = true := code_word (m := ⟨8, 1⟩) (meth := k8m1) (c := k8c1) (by decide +kernel) rfl rfl rfl (by decide +kernel)
set_option maxRecDepth 65536 in
theorem w_c3 : (Jvm.Cond.code ({ cls := "java/lang/StringLatin1", name := "toBytes", desc := "(C)[B" } : Jvm.MethodName) jdk_43_method_46_code (1 : Nat) (Option.some (Jvm.ClassFile.FieldType.array Jvm.ClassFile.FieldType.byte))).before args0 about1 = true := code_word (m := ⟨8, 2⟩) (meth := k8m2) (c := k8c2) (by decide +kernel) rfl rfl rfl (by decide +kernel)
set_option maxRecDepth 65536 in
theorem w_c4 : (Jvm.Cond.code ({ cls := "java/lang/String", name := "<init>", desc := "([BB)V" } : Jvm.MethodName) jdk_42_method_151_code (3 : Nat) (Option.none : Option Jvm.ClassFile.FieldType)).before args0 about1 = true := code_word (m := ⟨7, 2⟩) (meth := k7m2) (c := k7c2) (by decide +kernel) rfl rfl rfl (by decide +kernel)
set_option maxRecDepth 65536 in
theorem w_c5 : (Jvm.Cond.code ({ cls := "java/lang/Object", name := "<init>", desc := "()V" } : Jvm.MethodName) object_method_1_code (1 : Nat) (Option.none : Option Jvm.ClassFile.FieldType)).before args0 about1 = true := code_word (m := ⟨0, 0⟩) (meth := k0m0) (c := k0c0) (by decide +kernel) rfl rfl rfl (by decide +kernel)
set_option maxRecDepth 65536 in
theorem w_c6 : (Jvm.Cond.code ({ cls := "com/example/options_into_arguments/optionsintoarguments/evaluation/Judgment", name := "<init>", desc := "(Ljava/lang/String;Ljava/lang/String;I)V" } : Jvm.MethodName) prog_8_method_1_code (4 : Nat) (Option.none : Option Jvm.ClassFile.FieldType)).before args0 about1 = true := code_word (m := ⟨9, 0⟩) (meth := k9m0) (c := k9c0) (by decide +kernel) rfl rfl rfl (by decide +kernel)
set_option maxRecDepth 65536 in
theorem w_c7 : (Jvm.Cond.code ({ cls := "com/example/options_into_arguments/optionsintoarguments/evaluation/Judgment", name := "isRelevant", desc := "()Z" } : Jvm.MethodName) prog_8_method_6_code (1 : Nat) (Option.some Jvm.ClassFile.FieldType.boolean)).before args0 about1 = true := code_word (m := ⟨9, 1⟩) (meth := k9m1) (c := k9c1) (by decide +kernel) rfl rfl rfl (by decide +kernel)
def codes1 : List Jvm.Cond := [Jvm.Cond.code x code maxLocals ret, Jvm.Cond.code ({ cls := "java/lang/String", name := "valueOf", desc := "(C)Ljava/lang/String;" } : Jvm.MethodName) jdk_42_method_139_code (1 : Nat) (Option.some (Jvm.ClassFile.FieldType.object "java/lang/String")), Jvm.Cond.code ({ cls := "java/lang/StringLatin1", name := "canEncode", desc := "(C)Z" } : Jvm.MethodName) jdk_43_method_3_code (1 : Nat) (Option.some Jvm.ClassFile.FieldType.boolean), Jvm.Cond.code ({ cls := "java/lang/StringLatin1", name := "toBytes", desc := "(C)[B" } : Jvm.MethodName) jdk_43_method_46_code (1 : Nat) (Option.some (Jvm.ClassFile.FieldType.array Jvm.ClassFile.FieldType.byte)), Jvm.Cond.code ({ cls := "java/lang/String", name := "<init>", desc := "([BB)V" } : Jvm.MethodName) jdk_42_method_151_code (3 : Nat) (Option.none : Option Jvm.ClassFile.FieldType), Jvm.Cond.code ({ cls := "java/lang/Object", name := "<init>", desc := "()V" } : Jvm.MethodName) object_method_1_code (1 : Nat) (Option.none : Option Jvm.ClassFile.FieldType), Jvm.Cond.code ({ cls := "com/example/options_into_arguments/optionsintoarguments/evaluation/Judgment", name := "<init>", desc := "(Ljava/lang/String;Ljava/lang/String;I)V" } : Jvm.MethodName) prog_8_method_1_code (4 : Nat) (Option.none : Option Jvm.ClassFile.FieldType), Jvm.Cond.code ({ cls := "com/example/options_into_arguments/optionsintoarguments/evaluation/Judgment", name := "isRelevant", desc := "()Z" } : Jvm.MethodName) prog_8_method_6_code (1 : Nat) (Option.some Jvm.ClassFile.FieldType.boolean)]
set_option maxRecDepth 65536 in
theorem codes_eq : words1.filter isCode = codes1 := rfl
theorem w_codes : ∀ c ∈ words1.filter isCode, c.before args0 about1 = true := by
  rw [codes_eq]
  intro c hc
  simp only [codes1, List.mem_cons, List.not_mem_nil, or_false] at hc
  rcases hc with rfl | rfl | rfl | rfl | rfl | rfl | rfl | rfl
  · exact w_c0
  · exact w_c1
  · exact w_c2
  · exact w_c3
  · exact w_c4
  · exact w_c5
  · exact w_c6
  · exact w_c7
set_option maxRecDepth 65536 in
theorem w_t1 : (words1.take 24).all (fun c => isCode c || c.before args0 about1) = true := by decide +kernel
set_option maxRecDepth 65536 in
theorem w_t2 : (words1.drop 24).all (fun c => isCode c || c.before args0 about1) = true := by decide +kernel
theorem w_tables : (allAtoms (Jvm.Cond.code x code maxLocals ret :: tables_1)).before args0 about1 = true := by
  rw [allAtoms_all]
  show words1.all (fun c => c.before args0 about1) = true
  refine all_split ?_ w_codes
  rw [← List.take_append_drop 24 words1, List.all_append, w_t1, w_t2]
  rfl
set_option maxRecDepth 65536 in
theorem w_rest : rest_1_c.before args0 about1 = true := by decide +kernel
set_option maxRecDepth 65536 in
theorem w_case : (Jvm.Cond.and given_1 narrow_1).before args0 about1 = true := by decide +kernel
theorem w_applies : (headSpec (Jvm.Cond.code x code maxLocals ret :: tables_1) room_1).applies x e0.platform about1 = true :=
  (Spec.applies_iff w_frames).mpr ⟨w_running, w_runnable, w_alone, w_named, w_hears, w_ripe, w_room, w_tables⟩
theorem atStart : AtStart classFile x code maxLocals ret World_1 tables_1 room_1 Calls_1 rest_1 Pre_1 launch0 p0 e0 about1 theMethod args0 below0 :=
  ⟨lists_1, trivial, launch0.admits_env _ _ _, launch0.least_env, fairChoices_fair.cas, fairChoices_fair.clock, w_frames, w_args, w_heap, w_applies, trivial, w_rest, w_case⟩
end start1
theorem witness_1 : WitnessClaimed_1 := ⟨start1.p0, start1.e0, start1.about1, start1.theMethod, start1.args0, start1.below0, start1.atStart⟩
end Jvm.Pilot.@@N@@
