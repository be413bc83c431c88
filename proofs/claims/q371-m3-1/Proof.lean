import JvmDerived
import JvmDerived.Pilot.@@N@@Statement
import JvmDerived.Pilot.@@N@@Code
set_option linter.unusedVariables false
set_option linter.unusedSimpArgs false
namespace Jvm.RoadKit
open Sem ClassFile Op Lib Jvm.Stand Jvm.Free Jvm.LawKit
section OwnKit
variable {p : Program} {l : Launch} {e : Env} {R : Room} {s : State} {m : MethodId} {args : Array Value} {below : List Frame} {meth : Method} {c : Code} {T : State} {locs : List Loc} {cells slots : Nat}
/-- a run that stands in S comes to an end of the invocation, of which Q is said -/
def own_G (tb : Tables) (e : Env) (below : List Frame) (s : State) (Q : Option Value → Heap → List Loc → Prop) (k n : Nat) (S : State) : Prop :=
  ∃ s₂ o, Steps tb e below S s₂ ∧ s₂.status = .running ∧ Ended s₂ below o ∧ ∃ v L, o = .returned v ∧ Q v s₂.heap L ∧ FrameEnd s o s₂ L k n
variable {tb : Tables} {Q : Option Value → Heap → List Loc → Prop} {k n : Nat}
theorem own_go {A B : State} (st : ∀ t, Steps tb e below A t → Steps tb e below B t) (h : own_G tb e below s Q k n A) : own_G tb e below s Q k n B := by
  obtain ⟨s₂, o, h1, h2⟩ := h
  exact ⟨s₂, o, st _ h1, h2⟩
theorem own_ret (X : Stand p l e R s m args below meth c T locs cells slots) {v : Option Value} (hv : meth.sig.returnType = none → v = none) (hlk : meth.locks = false) (hQ : Q v T.heap locs) (hk : cells ≤ k) (hn : slots ≤ n) {S : State}
    (st : ∀ fs, (∀ (f : JFrame) (acts : List Action), f.method = m → f.locked = none → f.entered = [] → (doReturn e (T.setTop f) acts v).1 = T.setFrames fs) → Steps p.tables e below S (T.setFrames fs)) : own_G p.tables e below s Q k n S := by
  obtain ⟨fs, hr, hrun, hended, hW, hsame⟩ := X.leave hv hlk
  exact ⟨_, _, st fs hr, hrun, hended, _, _, rfl, hQ, ⟨_, rfl⟩, hW, hsame.mono hk hn⟩
variable {pc : Nat} {Ls : Array Slot} {rest : List Value}
theorem own_retN (X : Stand p l e R s m args below meth c T locs cells slots) (hx : p.tables.exec = Jvm.exec) (hlk : meth.locks = false) {t : FieldType} {z z' : Int32} (hret : meth.sig.returnType = some t) (ht : t = .boolean ∨ t = .byte ∨ t = .char ∨ t = .short) (hd : decode c.code pc = .ok (.ireturn, 1)) (hz : nar t z = z') (hQ : Q (some (.int z')) T.heap locs) (hk : cells ≤ k) (hn : slots ≤ n) :
    own_G p.tables e below s Q k n (T.setTop (mkF m pc Ls (.int z :: rest))) := by
  subst hz
  exact own_ret X (fun h => by rw [hret] at h; cases h) hlk hQ hk hn fun fs hr => retN X hx hret ht hd hr
theorem own_retI (X : Stand p l e R s m args below meth c T locs cells slots) (hx : p.tables.exec = Jvm.exec) (hlk : meth.locks = false) {z : Int32} (hret : meth.sig.returnType = some .int) (hd : decode c.code pc = .ok (.ireturn, 1)) (hQ : Q (some (.int z)) T.heap locs) (hk : cells ≤ k) (hn : slots ≤ n) :
    own_G p.tables e below s Q k n (T.setTop (mkF m pc Ls (.int z :: rest))) :=
  own_ret X (fun h => by rw [hret] at h; cases h) hlk hQ hk hn fun fs hr => retOut X hx hret rfl (Or.inl ⟨rfl, Or.inl rfl, _, rfl⟩) hd hr
theorem own_retJ (X : Stand p l e R s m args below meth c T locs cells slots) (hx : p.tables.exec = Jvm.exec) (hlk : meth.locks = false) {z : Int64} (hret : meth.sig.returnType = some .long) (hd : decode c.code pc = .ok (.lreturn, 1)) (hQ : Q (some (.long z)) T.heap locs) (hk : cells ≤ k) (hn : slots ≤ n) :
    own_G p.tables e below s Q k n (T.setTop (mkF m pc Ls (.long z :: rest))) :=
  own_ret X (fun h => by rw [hret] at h; cases h) hlk hQ hk hn fun fs hr => retOut X hx hret rfl (Or.inr (Or.inl ⟨rfl, rfl, _, rfl⟩)) hd hr
theorem own_retA (X : Stand p l e R s m args below meth c T locs cells slots) (hx : p.tables.exec = Jvm.exec) (hlk : meth.locks = false) {t : FieldType} {w : Value} (hret : meth.sig.returnType = some t) (ht : t.isReference = true) (hv : w.isRef = true) (hd : decode c.code pc = .ok (.areturn, 1)) (hQ : Q (some w) T.heap locs) (hk : cells ≤ k) (hn : slots ≤ n) :
    own_G p.tables e below s Q k n (T.setTop (mkF m pc Ls (w :: rest))) :=
  own_ret X (fun h => by rw [hret] at h; cases h) hlk hQ hk hn fun fs hr => retOut X hx hret (by rcases ref_cases hv with rfl | ⟨_, rfl⟩ <;> cases t <;> first | rfl | cases ht) (Or.inr (Or.inr (Or.inr (Or.inr ⟨rfl, ht, hv⟩)))) hd hr
theorem own_retV (X : Stand p l e R s m args below meth c T locs cells slots) (hx : p.tables.exec = Jvm.exec) (hlk : meth.locks = false) (hret : meth.sig.returnType = none) (hd : decode c.code pc = .ok (.return_, 1)) (hQ : Q none T.heap locs) (hk : cells ≤ k) (hn : slots ≤ n) :
    own_G p.tables e below s Q k n (T.setTop (mkF m pc Ls [])) :=
  own_ret X (fun _ => rfl) hlk hQ hk hn fun fs hr => X.returnOut hx hret hd hr
end OwnKit
end Jvm.RoadKit
namespace Jvm.Pilot.@@N@@
open Jvm Jvm.ClassFile Sem Op Lib Jvm.Free Jvm.Stand Jvm.LawKit Jvm.RoadKit Bundle Jvm.Pilot.@@N@@.Jvm.D
theorem own_mask (q : Int64) : 0 ≤ (q &&& (9223372036854775807 : Int64)).toInt := by
  have h : ¬ ((q &&& (9223372036854775807 : Int64)) < 0) := fun h => by
    have := ((Jvm.Free.XT.and_neg64 _ _).mp h).2
    exact absurd this (by decide)
  rw [Int64.lt_iff_toInt_lt] at h
  have : (0 : Int64).toInt = 0 := rfl
  omega
theorem own_div (b : Int64) (h : 0 ≤ b.toInt) : (b / (4096 : Int64)).toInt = b.toInt / 4096 := by
  have e : (4096 : Int64).toInt = 4096 := rfl
  have := b.toInt_lt
  rw [Int64.toInt_div, e, Int.tdiv_eq_ediv_of_nonneg h]
  exact Jvm.Free.XT.bmod64 ⟨by omega, by omega⟩
theorem own_rem (b : Int64) (h : 0 ≤ b.toInt) : (b - b / (4096 : Int64) * (4096 : Int64)).toInt = b.toInt % 4096 := by
  have e : (4096 : Int64).toInt = 4096 := rfl
  have := b.toInt_lt
  have hd := own_div b h
  have hm : (b / (4096 : Int64) * (4096 : Int64)).toInt = b.toInt / 4096 * 4096 := by
    rw [Jvm.Free.XT.mul64 (by rw [hd, e]; exact ⟨by omega, by omega⟩), hd, e]
  rw [Jvm.Free.XT.sub64 (by rw [hm]; exact ⟨by omega, by omega⟩), hm]
  omega
theorem own_up (b : Int64) (h : 0 ≤ b.toInt) (h2 : ¬ ((9223372036854771712 : Int64) < b)) : ((b + (4096 : Int64) - (1 : Int64)) / (4096 : Int64)).toInt = (b.toInt + 4095) / 4096 := by
  have e : b + (4096 : Int64) - (1 : Int64) = b + (4095 : Int64) := by
    rw [Int64.sub_eq_add_neg, Int64.add_assoc]; rfl
  rw [Int64.lt_iff_toInt_lt] at h2
  have e2 : (9223372036854771712 : Int64).toInt = 9223372036854771712 := rfl
  have e3 : (4095 : Int64).toInt = 4095 := rfl
  have hs : (b + (4095 : Int64)).toInt = b.toInt + 4095 := by
    rw [Jvm.Free.XT.add64 (by rw [e3]; exact ⟨by omega, by omega⟩), e3]
  rw [e, own_div _ (by omega), hs]
theorem own_even (b : Int64) (h : 0 ≤ b.toInt) (h2 : ¬ ((9223372036854771712 : Int64) < b)) (h3 : b - b / (4096 : Int64) * (4096 : Int64) = (0 : Int64)) : (b + (4096 : Int64) - (1 : Int64)) / (4096 : Int64) = b / (4096 : Int64) := by
  have e := congrArg Int64.toInt h3
  rw [own_rem b h] at e
  have z : (0 : Int64).toInt = 0 := rfl
  apply Int64.toInt_inj.mp
  rw [own_up b h h2, own_div b h]
  omega
theorem own_odd (b : Int64) (h : 0 ≤ b.toInt) (h2 : ¬ ((9223372036854771712 : Int64) < b)) (h3 : ¬ (b - b / (4096 : Int64) * (4096 : Int64) = (0 : Int64))) : (b + (4096 : Int64) - (1 : Int64)) / (4096 : Int64) = b / (4096 : Int64) + (1 : Int64) := by
  have e : ¬ b.toInt % 4096 = 0 := fun q => h3 (Int64.toInt_inj.mp (by rw [own_rem b h, q]; rfl))
  have e1 : (1 : Int64).toInt = 1 := rfl
  have := b.toInt_lt
  have hd := own_div b h
  apply Int64.toInt_inj.mp
  rw [own_up b h h2, Jvm.Free.XT.add64 (by rw [hd, e1]; exact ⟨by omega, by omega⟩), hd, e1]
  omega
theorem d1_0 : decode prog_34_method_2_code 0 = .ok (.lload_n 0, 1) := by decide +kernel
theorem d1_1 : decode prog_34_method_2_code 1 = .ok (.ldc2_w 9, 3) := by decide +kernel
theorem d1_4 : decode prog_34_method_2_code 4 = .ok (.ladd, 1) := by decide +kernel
theorem d1_5 : decode prog_34_method_2_code 5 = .ok (.lconst 1, 1) := by decide +kernel
theorem d1_6 : decode prog_34_method_2_code 6 = .ok (.lsub, 1) := by decide +kernel
theorem d1_7 : decode prog_34_method_2_code 7 = .ok (.ldc2_w 9, 3) := by decide +kernel
theorem d1_10 : decode prog_34_method_2_code 10 = .ok (.ldiv, 1) := by decide +kernel
theorem d1_11 : decode prog_34_method_2_code 11 = .ok (.lreturn, 1) := by decide +kernel
theorem pn_com_example_vouchsafe_vouchsafe_Blocks : plainName "com/example/vouchsafe/vouchsafe/Blocks" = true := by first | (simp [plainName, overriddenIn]; done) | decide +kernel
theorem ef_1 (m : MethodId) (x0 : Int64) : entryFrame m #[(.long x0)] 2 = mkF m 0 #[.val (.long x0), .second] [] := by first | (simp [entryFrame, mkF, argsToLocals, Value.category]; done) | rfl
def Q1 (Z : State) (q1 : Int64) (h0 : Heap) (n0 : Nat) (v : Option Value) (h : Heap) (L : List Loc) : Prop := v = some (.long (((q1 + (4096 : Int64)) - (1 : Int64)) / (4096 : Int64))) ∧ Fr n0 L ∧ h = h0
set_option maxRecDepth 65536 in
set_option maxHeartbeats 40000000 in
theorem rm1 (l : Launch) (Z : State) (a0 : Array Value) (hw : ∀ d ∈ tables_1, d.before a0 Z = true) (ws : List Jvm.Cond) (q1 : Int64) (h0 : Heap) (n0 : Nat) (Z0 : n0 ≤ h0.size)  :
    MetFree l (⟨"com/example/vouchsafe/vouchsafe/Blocks", "count", "(J)J"⟩ : MethodName) (head1 (Jvm.Cond.code (⟨"com/example/vouchsafe/vouchsafe/Blocks", "count", "(J)J"⟩ : MethodName) prog_34_method_2_code 2 (some .long) :: ws) ({ frames := 0, cells := 0, slots := 0, locals := 0 } : Room)) (fun a U => a = #[(.long q1)] ∧ Z.Warmed39 U.vm ∧ U.heap = h0) (fun _ _ _ _ _ => True) (fun _ U o U' => ∃ v L, o = .returned v ∧ Q1 Z q1 h0 n0 v U'.heap L ∧ FrameEnd U o U' L ({ frames := 0, cells := 0, slots := 0, locals := 0 } : Room).cells ({ frames := 0, cells := 0, slots := 0, locals := 0 } : Room).slots) := by
  refine MetFree.of_bodySF (plainFor_of_name pn_com_example_vouchsafe_vouchsafe_Blocks) hisR ?_
  intro p e s m args below meth c s₁ Bd hml0 hP hK
  obtain ⟨rfl, hZ, hh⟩ := hP
  have hx := Bd.exec
  have hby := Bd.bytes
  have hlk : meth.locks = false := BodyLoose.notSynchronized Bd
  have hml : c.maxLocals = 2 := hml0
  have hown : s.vm.findClass "com/example/vouchsafe/vouchsafe/Blocks" = some m.cls := findClass_of_methodNamed Bd.named
  have hnm := (name_of_methodNamed Bd.named Bd.method).1
  have X0 : Stand p l e ({ frames := 0, cells := 0, slots := 0, locals := 0 } : Room) s m #[(.long q1)] below meth c s₁ [] 0 0 := Stand.of_body Bd
  have e0 : s₁.heap = h0 := by rw [← hh, Bd.state]; rfl
  have N0 := Fr.nil n0
  show own_G p.tables e below s (Q1 Z q1 h0 n0) ({ frames := 0, cells := 0, slots := 0, locals := 0 } : Room).cells ({ frames := 0, cells := 0, slots := 0, locals := 0 } : Room).slots (s₁.setTop (entryFrame m #[(.long q1)] 2))
  refine own_go (fun t k => castTop (ef_1 m q1) k) ?_
  show own_G p.tables e below s _ _ _ (s₁.setTop (mkF m 0 #[.val (.long q1), .second] []))
  refine own_go (fun t k => XS.lloadN X0.here hx rfl (hb hby d1_0) rfl k) ?_
  show own_G p.tables e below s _ _ _ (s₁.setTop (mkF m 1 #[.val (.long q1), .second] [(.long q1)]))
  refine own_go (fun t k => X0.ldc2Long hx hown (mvT hZ (hw _ (List.mem_of_getElem? (i := 7) rfl))) (g := (mkF m 1 #[.val (.long q1), .second] [(.long q1)])) rfl (hb hby d1_1) _ k) ?_
  show own_G p.tables e below s _ _ _ (s₁.setTop (mkF m 4 #[.val (.long q1), .second] [(.long (4096 : Int64)), (.long q1)]))
  refine own_go (fun t k => XS.ladd X0.here hx rfl (hb hby d1_4) rfl k) ?_
  show own_G p.tables e below s _ _ _ (s₁.setTop (mkF m 5 #[.val (.long q1), .second] [(.long (q1 + (4096 : Int64)))]))
  refine own_go (fun t k => XS.lconst X0.here hx rfl (hb hby d1_5) k) ?_
  show own_G p.tables e below s _ _ _ (s₁.setTop (mkF m 6 #[.val (.long q1), .second] [(.long (1 : Int64)), (.long (q1 + (4096 : Int64)))]))
  refine own_go (fun t k => XS.lsub X0.here hx rfl (hb hby d1_6) rfl k) ?_
  show own_G p.tables e below s _ _ _ (s₁.setTop (mkF m 7 #[.val (.long q1), .second] [(.long ((q1 + (4096 : Int64)) - (1 : Int64)))]))
  refine own_go (fun t k => X0.ldc2Long hx hown (mvT hZ (hw _ (List.mem_of_getElem? (i := 7) rfl))) (g := (mkF m 7 #[.val (.long q1), .second] [(.long ((q1 + (4096 : Int64)) - (1 : Int64)))])) rfl (hb hby d1_7) _ k) ?_
  show own_G p.tables e below s _ _ _ (s₁.setTop (mkF m 10 #[.val (.long q1), .second] [(.long (4096 : Int64)), (.long ((q1 + (4096 : Int64)) - (1 : Int64)))]))
  refine own_go (fun t k => XS.ldiv X0.here hx rfl (hb hby d1_10) rfl (by decide) k) ?_
  show own_G p.tables e below s _ _ _ (s₁.setTop (mkF m 11 #[.val (.long q1), .second] [(.long (((q1 + (4096 : Int64)) - (1 : Int64)) / (4096 : Int64)))]))
  exact own_retJ X0 hx hlk Bd.returns (hb hby d1_11) (by rw [e0]; exact ⟨rfl, N0, rfl⟩) (by decide) (by decide)
theorem pd__J_J : parseMethodDescriptor "(J)J" = some ⟨[.long], some .long⟩ := by decide +kernel
theorem pn_com_example_vouchsafe_vouchsafe_BlocksCountPinLaw : plainName "com/example/vouchsafe/vouchsafe/BlocksCountPinLaw" = true := by first | (simp [plainName, overriddenIn]; done) | decide +kernel
theorem ef_0 (m : MethodId) (x0 : Int64) : entryFrame m #[(.long x0)] maxLocals = mkF m 0 #[.val (.long x0), .second, .unset, .unset, .unset, .unset, .unset, .unset, .unset, .unset] [] := by first | (simp [entryFrame, mkF, argsToLocals, Value.category, maxLocals]; done) | rfl
def Q0 (Z : State) (q1 : Int64) (h0 : Heap) (n0 : Nat) (v : Option Value) (h : Heap) (L : List Loc) : Prop := v = some (.int 1) ∧ Fr n0 L
set_option maxRecDepth 65536 in
set_option maxHeartbeats 40000000 in
theorem rm0 (l : Launch) (Z : State) (a0 : Array Value) (hw : ∀ d ∈ tables_1, d.before a0 Z = true) (ws : List Jvm.Cond) (q1 : Int64) (h0 : Heap) (n0 : Nat) (Z0 : n0 ≤ h0.size)  :
    MetFree l x (head1 (Jvm.Cond.code x code maxLocals ret :: ws) room_1) (fun a U => a = #[(.long q1)] ∧ Z.Warmed39 U.vm ∧ U.heap = h0) (fun _ _ _ _ _ => True) (fun _ U o U' => ∃ v L, o = .returned v ∧ Q0 Z q1 h0 n0 v U'.heap L ∧ FrameEnd U o U' L room_1.cells room_1.slots) := by
  refine MetFree.of_bodySF (plainFor_of_name pn_com_example_vouchsafe_vouchsafe_BlocksCountPinLaw) hisR ?_
  intro p e s m args below meth c s₁ Bd hml0 hP hK
  obtain ⟨rfl, hZ, hh⟩ := hP
  have hx := Bd.exec
  have hby := Bd.bytes
  have hlk : meth.locks = false := BodyLoose.notSynchronized Bd
  have hml : c.maxLocals = 10 := hml0
  have hown : s.vm.findClass "com/example/vouchsafe/vouchsafe/BlocksCountPinLaw" = some m.cls := findClass_of_methodNamed Bd.named
  have hnm := (name_of_methodNamed Bd.named Bd.method).1
  have X0 : Stand p l e room_1 s m #[(.long q1)] below meth c s₁ [] 0 0 := Stand.of_body Bd
  have e0 : s₁.heap = h0 := by rw [← hh, Bd.state]; rfl
  have N0 := Fr.nil n0
  show own_G p.tables e below s (Q0 Z q1 h0 n0) room_1.cells room_1.slots (s₁.setTop (entryFrame m #[(.long q1)] maxLocals))
  refine own_go (fun t k => castTop (ef_0 m q1) k) ?_
  show own_G p.tables e below s _ _ _ (s₁.setTop (mkF m 0 #[.val (.long q1), .second, .unset, .unset, .unset, .unset, .unset, .unset, .unset, .unset] []))
  refine own_go (fun t k => XS.lloadN X0.here hx rfl (hb hby at_0) rfl k) ?_
  show own_G p.tables e below s _ _ _ (s₁.setTop (mkF m 1 #[.val (.long q1), .second, .unset, .unset, .unset, .unset, .unset, .unset, .unset, .unset] [(.long q1)]))
  refine own_go (fun t k => X0.ldc2Long hx hown (mvT hZ (hw _ (List.mem_of_getElem? (i := 0) rfl))) (g := (mkF m 1 #[.val (.long q1), .second, .unset, .unset, .unset, .unset, .unset, .unset, .unset, .unset] [(.long q1)])) rfl (hb hby at_1) _ k) ?_
  show own_G p.tables e below s _ _ _ (s₁.setTop (mkF m 4 #[.val (.long q1), .second, .unset, .unset, .unset, .unset, .unset, .unset, .unset, .unset] [(.long (9223372036854775807 : Int64)), (.long q1)]))
  refine own_go (fun t k => XS.land X0.here hx rfl (hb hby at_4) rfl k) ?_
  show own_G p.tables e below s _ _ _ (s₁.setTop (mkF m 5 #[.val (.long q1), .second, .unset, .unset, .unset, .unset, .unset, .unset, .unset, .unset] [(.long (q1 &&& (9223372036854775807 : Int64)))]))
  refine own_go (fun t k => XS.lstoreN X0.here hx rfl (hb hby at_5) rfl (l' := #[.val (.long q1), .second, .val (.long (q1 &&& (9223372036854775807 : Int64))), .second, .unset, .unset, .unset, .unset, .unset, .unset]) rfl k) ?_
  show own_G p.tables e below s _ _ _ (s₁.setTop (mkF m 6 #[.val (.long q1), .second, .val (.long (q1 &&& (9223372036854775807 : Int64))), .second, .unset, .unset, .unset, .unset, .unset, .unset] []))
  refine own_go (fun t k => XS.lloadN X0.here hx rfl (hb hby at_6) rfl k) ?_
  show own_G p.tables e below s _ _ _ (s₁.setTop (mkF m 7 #[.val (.long q1), .second, .val (.long (q1 &&& (9223372036854775807 : Int64))), .second, .unset, .unset, .unset, .unset, .unset, .unset] [(.long (q1 &&& (9223372036854775807 : Int64)))]))
  refine own_go (fun t k => X0.ldc2Long hx hown (mvT hZ (hw _ (List.mem_of_getElem? (i := 1) rfl))) (g := (mkF m 7 #[.val (.long q1), .second, .val (.long (q1 &&& (9223372036854775807 : Int64))), .second, .unset, .unset, .unset, .unset, .unset, .unset] [(.long (q1 &&& (9223372036854775807 : Int64)))])) rfl (hb hby at_7) _ k) ?_
  show own_G p.tables e below s _ _ _ (s₁.setTop (mkF m 10 #[.val (.long q1), .second, .val (.long (q1 &&& (9223372036854775807 : Int64))), .second, .unset, .unset, .unset, .unset, .unset, .unset] [(.long (9223372036854771712 : Int64)), (.long (q1 &&& (9223372036854775807 : Int64)))]))
  refine own_go (fun t k => Jvm.Free.XT.lcmp X0.here hx rfl (hb hby at_10) rfl k) ?_
  show own_G p.tables e below s _ _ _ (s₁.setTop (mkF m 11 #[.val (.long q1), .second, .val (.long (q1 &&& (9223372036854775807 : Int64))), .second, .unset, .unset, .unset, .unset, .unset, .unset] [(.int (Jvm.Free.XT.cmpL (q1 &&& (9223372036854775807 : Int64)) (9223372036854771712 : Int64)))]))
  by_cases hc11 : (9223372036854771712 : Int64) < (q1 &&& (9223372036854775807 : Int64))
  · refine own_go (fun t k => XS.ifNo X0.here hx rfl (hb hby at_11) rfl (Jvm.Free.XT.ll_le_f hc11) k) ?_
    show own_G p.tables e below s _ _ _ (s₁.setTop (mkF m 14 #[.val (.long q1), .second, .val (.long (q1 &&& (9223372036854775807 : Int64))), .second, .unset, .unset, .unset, .unset, .unset, .unset] []))
    refine own_go (fun t k => XS.iconst X0.here hx rfl (hb hby at_14) k) ?_
    show own_G p.tables e below s _ _ _ (s₁.setTop (mkF m 15 #[.val (.long q1), .second, .val (.long (q1 &&& (9223372036854775807 : Int64))), .second, .unset, .unset, .unset, .unset, .unset, .unset] [(.int (1 : Int32))]))
    exact own_retN X0 hx hlk (t := .boolean) (z' := (1 : Int32)) Bd.returns (by simp) (hb hby at_15) (rfl) (by rw [e0]; exact ⟨rfl, N0⟩) (by decide) (by decide)
  · refine own_go (fun t k => XS.ifYes X0.here hx rfl (pc0 := 11) (pc' := 16) rfl (hb hby at_11) rfl (Jvm.Free.XT.ll_le_t hc11) (by decide) (by decide) k) ?_
    show own_G p.tables e below s _ _ _ (s₁.setTop (mkF m 16 #[.val (.long q1), .second, .val (.long (q1 &&& (9223372036854775807 : Int64))), .second, .unset, .unset, .unset, .unset, .unset, .unset] []))
    refine own_go (fun t k => XS.lloadN X0.here hx rfl (hb hby at_16) rfl k) ?_
    show own_G p.tables e below s _ _ _ (s₁.setTop (mkF m 17 #[.val (.long q1), .second, .val (.long (q1 &&& (9223372036854775807 : Int64))), .second, .unset, .unset, .unset, .unset, .unset, .unset] [(.long (q1 &&& (9223372036854775807 : Int64)))]))
    refine own_go (fun t k => X0.ldc2Long hx hown (mvT hZ (hw _ (List.mem_of_getElem? (i := 2) rfl))) (g := (mkF m 17 #[.val (.long q1), .second, .val (.long (q1 &&& (9223372036854775807 : Int64))), .second, .unset, .unset, .unset, .unset, .unset, .unset] [(.long (q1 &&& (9223372036854775807 : Int64)))])) rfl (hb hby at_17) _ k) ?_
    show own_G p.tables e below s _ _ _ (s₁.setTop (mkF m 20 #[.val (.long q1), .second, .val (.long (q1 &&& (9223372036854775807 : Int64))), .second, .unset, .unset, .unset, .unset, .unset, .unset] [(.long (4096 : Int64)), (.long (q1 &&& (9223372036854775807 : Int64)))]))
    refine own_go (fun t k => XS.ldiv X0.here hx rfl (hb hby at_20) rfl (by decide) k) ?_
    show own_G p.tables e below s _ _ _ (s₁.setTop (mkF m 21 #[.val (.long q1), .second, .val (.long (q1 &&& (9223372036854775807 : Int64))), .second, .unset, .unset, .unset, .unset, .unset, .unset] [(.long ((q1 &&& (9223372036854775807 : Int64)) / (4096 : Int64)))]))
    refine own_go (fun t k => XS.lstore X0.here hx rfl (hb hby at_21) rfl (l' := #[.val (.long q1), .second, .val (.long (q1 &&& (9223372036854775807 : Int64))), .second, .val (.long ((q1 &&& (9223372036854775807 : Int64)) / (4096 : Int64))), .second, .unset, .unset, .unset, .unset]) rfl k) ?_
    show own_G p.tables e below s _ _ _ (s₁.setTop (mkF m 23 #[.val (.long q1), .second, .val (.long (q1 &&& (9223372036854775807 : Int64))), .second, .val (.long ((q1 &&& (9223372036854775807 : Int64)) / (4096 : Int64))), .second, .unset, .unset, .unset, .unset] []))
    refine own_go (fun t k => XS.lloadN X0.here hx rfl (hb hby at_23) rfl k) ?_
    show own_G p.tables e below s _ _ _ (s₁.setTop (mkF m 24 #[.val (.long q1), .second, .val (.long (q1 &&& (9223372036854775807 : Int64))), .second, .val (.long ((q1 &&& (9223372036854775807 : Int64)) / (4096 : Int64))), .second, .unset, .unset, .unset, .unset] [(.long (q1 &&& (9223372036854775807 : Int64)))]))
    refine own_go (fun t k => XS.lload X0.here hx rfl (hb hby at_24) rfl k) ?_
    show own_G p.tables e below s _ _ _ (s₁.setTop (mkF m 26 #[.val (.long q1), .second, .val (.long (q1 &&& (9223372036854775807 : Int64))), .second, .val (.long ((q1 &&& (9223372036854775807 : Int64)) / (4096 : Int64))), .second, .unset, .unset, .unset, .unset] [(.long ((q1 &&& (9223372036854775807 : Int64)) / (4096 : Int64))), (.long (q1 &&& (9223372036854775807 : Int64)))]))
    refine own_go (fun t k => X0.ldc2Long hx hown (mvT hZ (hw _ (List.mem_of_getElem? (i := 2) rfl))) (g := (mkF m 26 #[.val (.long q1), .second, .val (.long (q1 &&& (9223372036854775807 : Int64))), .second, .val (.long ((q1 &&& (9223372036854775807 : Int64)) / (4096 : Int64))), .second, .unset, .unset, .unset, .unset] [(.long ((q1 &&& (9223372036854775807 : Int64)) / (4096 : Int64))), (.long (q1 &&& (9223372036854775807 : Int64)))])) rfl (hb hby at_26) _ k) ?_
    show own_G p.tables e below s _ _ _ (s₁.setTop (mkF m 29 #[.val (.long q1), .second, .val (.long (q1 &&& (9223372036854775807 : Int64))), .second, .val (.long ((q1 &&& (9223372036854775807 : Int64)) / (4096 : Int64))), .second, .unset, .unset, .unset, .unset] [(.long (4096 : Int64)), (.long ((q1 &&& (9223372036854775807 : Int64)) / (4096 : Int64))), (.long (q1 &&& (9223372036854775807 : Int64)))]))
    refine own_go (fun t k => XS.lmul X0.here hx rfl (hb hby at_29) rfl k) ?_
    show own_G p.tables e below s _ _ _ (s₁.setTop (mkF m 30 #[.val (.long q1), .second, .val (.long (q1 &&& (9223372036854775807 : Int64))), .second, .val (.long ((q1 &&& (9223372036854775807 : Int64)) / (4096 : Int64))), .second, .unset, .unset, .unset, .unset] [(.long (((q1 &&& (9223372036854775807 : Int64)) / (4096 : Int64)) * (4096 : Int64))), (.long (q1 &&& (9223372036854775807 : Int64)))]))
    refine own_go (fun t k => XS.lsub X0.here hx rfl (hb hby at_30) rfl k) ?_
    show own_G p.tables e below s _ _ _ (s₁.setTop (mkF m 31 #[.val (.long q1), .second, .val (.long (q1 &&& (9223372036854775807 : Int64))), .second, .val (.long ((q1 &&& (9223372036854775807 : Int64)) / (4096 : Int64))), .second, .unset, .unset, .unset, .unset] [(.long ((q1 &&& (9223372036854775807 : Int64)) - (((q1 &&& (9223372036854775807 : Int64)) / (4096 : Int64)) * (4096 : Int64))))]))
    refine own_go (fun t k => XS.lstore X0.here hx rfl (hb hby at_31) rfl (l' := #[.val (.long q1), .second, .val (.long (q1 &&& (9223372036854775807 : Int64))), .second, .val (.long ((q1 &&& (9223372036854775807 : Int64)) / (4096 : Int64))), .second, .val (.long ((q1 &&& (9223372036854775807 : Int64)) - (((q1 &&& (9223372036854775807 : Int64)) / (4096 : Int64)) * (4096 : Int64)))), .second, .unset, .unset]) rfl k) ?_
    show own_G p.tables e below s _ _ _ (s₁.setTop (mkF m 33 #[.val (.long q1), .second, .val (.long (q1 &&& (9223372036854775807 : Int64))), .second, .val (.long ((q1 &&& (9223372036854775807 : Int64)) / (4096 : Int64))), .second, .val (.long ((q1 &&& (9223372036854775807 : Int64)) - (((q1 &&& (9223372036854775807 : Int64)) / (4096 : Int64)) * (4096 : Int64)))), .second, .unset, .unset] []))
    refine own_go (fun t k => XS.lload X0.here hx rfl (hb hby at_33) rfl k) ?_
    show own_G p.tables e below s _ _ _ (s₁.setTop (mkF m 35 #[.val (.long q1), .second, .val (.long (q1 &&& (9223372036854775807 : Int64))), .second, .val (.long ((q1 &&& (9223372036854775807 : Int64)) / (4096 : Int64))), .second, .val (.long ((q1 &&& (9223372036854775807 : Int64)) - (((q1 &&& (9223372036854775807 : Int64)) / (4096 : Int64)) * (4096 : Int64)))), .second, .unset, .unset] [(.long ((q1 &&& (9223372036854775807 : Int64)) - (((q1 &&& (9223372036854775807 : Int64)) / (4096 : Int64)) * (4096 : Int64))))]))
    refine own_go (fun t k => XS.lconst X0.here hx rfl (hb hby at_35) k) ?_
    show own_G p.tables e below s _ _ _ (s₁.setTop (mkF m 36 #[.val (.long q1), .second, .val (.long (q1 &&& (9223372036854775807 : Int64))), .second, .val (.long ((q1 &&& (9223372036854775807 : Int64)) / (4096 : Int64))), .second, .val (.long ((q1 &&& (9223372036854775807 : Int64)) - (((q1 &&& (9223372036854775807 : Int64)) / (4096 : Int64)) * (4096 : Int64)))), .second, .unset, .unset] [(.long (0 : Int64)), (.long ((q1 &&& (9223372036854775807 : Int64)) - (((q1 &&& (9223372036854775807 : Int64)) / (4096 : Int64)) * (4096 : Int64))))]))
    refine own_go (fun t k => Jvm.Free.XT.lcmp X0.here hx rfl (hb hby at_36) rfl k) ?_
    show own_G p.tables e below s _ _ _ (s₁.setTop (mkF m 37 #[.val (.long q1), .second, .val (.long (q1 &&& (9223372036854775807 : Int64))), .second, .val (.long ((q1 &&& (9223372036854775807 : Int64)) / (4096 : Int64))), .second, .val (.long ((q1 &&& (9223372036854775807 : Int64)) - (((q1 &&& (9223372036854775807 : Int64)) / (4096 : Int64)) * (4096 : Int64)))), .second, .unset, .unset] [(.int (Jvm.Free.XT.cmpL ((q1 &&& (9223372036854775807 : Int64)) - (((q1 &&& (9223372036854775807 : Int64)) / (4096 : Int64)) * (4096 : Int64))) (0 : Int64)))]))
    by_cases hc37 : ((q1 &&& (9223372036854775807 : Int64)) - (((q1 &&& (9223372036854775807 : Int64)) / (4096 : Int64)) * (4096 : Int64))) = (0 : Int64)
    · refine own_go (fun t k => XS.ifNo X0.here hx rfl (hb hby at_37) rfl (Jvm.Free.XT.ll_ne_f hc37) k) ?_
      show own_G p.tables e below s _ _ _ (s₁.setTop (mkF m 40 #[.val (.long q1), .second, .val (.long (q1 &&& (9223372036854775807 : Int64))), .second, .val (.long ((q1 &&& (9223372036854775807 : Int64)) / (4096 : Int64))), .second, .val (.long ((q1 &&& (9223372036854775807 : Int64)) - (((q1 &&& (9223372036854775807 : Int64)) / (4096 : Int64)) * (4096 : Int64)))), .second, .unset, .unset] []))
      refine own_go (fun t k => XS.lload X0.here hx rfl (hb hby at_40) rfl k) ?_
      show own_G p.tables e below s _ _ _ (s₁.setTop (mkF m 42 #[.val (.long q1), .second, .val (.long (q1 &&& (9223372036854775807 : Int64))), .second, .val (.long ((q1 &&& (9223372036854775807 : Int64)) / (4096 : Int64))), .second, .val (.long ((q1 &&& (9223372036854775807 : Int64)) - (((q1 &&& (9223372036854775807 : Int64)) / (4096 : Int64)) * (4096 : Int64)))), .second, .unset, .unset] [(.long ((q1 &&& (9223372036854775807 : Int64)) / (4096 : Int64)))]))
      refine own_go (fun t k => XS.lstore X0.here hx rfl (hb hby at_42) rfl (l' := #[.val (.long q1), .second, .val (.long (q1 &&& (9223372036854775807 : Int64))), .second, .val (.long ((q1 &&& (9223372036854775807 : Int64)) / (4096 : Int64))), .second, .val (.long ((q1 &&& (9223372036854775807 : Int64)) - (((q1 &&& (9223372036854775807 : Int64)) / (4096 : Int64)) * (4096 : Int64)))), .second, .val (.long ((q1 &&& (9223372036854775807 : Int64)) / (4096 : Int64))), .second]) rfl k) ?_
      show own_G p.tables e below s _ _ _ (s₁.setTop (mkF m 44 #[.val (.long q1), .second, .val (.long (q1 &&& (9223372036854775807 : Int64))), .second, .val (.long ((q1 &&& (9223372036854775807 : Int64)) / (4096 : Int64))), .second, .val (.long ((q1 &&& (9223372036854775807 : Int64)) - (((q1 &&& (9223372036854775807 : Int64)) / (4096 : Int64)) * (4096 : Int64)))), .second, .val (.long ((q1 &&& (9223372036854775807 : Int64)) / (4096 : Int64))), .second] []))
      refine own_go (fun t k => XS.goto X0.here hx rfl (pc0 := 44) (pc' := 53) rfl (hb hby at_44) (by decide) (by decide) k) ?_
      show own_G p.tables e below s _ _ _ (s₁.setTop (mkF m 53 #[.val (.long q1), .second, .val (.long (q1 &&& (9223372036854775807 : Int64))), .second, .val (.long ((q1 &&& (9223372036854775807 : Int64)) / (4096 : Int64))), .second, .val (.long ((q1 &&& (9223372036854775807 : Int64)) - (((q1 &&& (9223372036854775807 : Int64)) / (4096 : Int64)) * (4096 : Int64)))), .second, .val (.long ((q1 &&& (9223372036854775807 : Int64)) / (4096 : Int64))), .second] []))
      refine own_go (fun t k => XS.lloadN X0.here hx rfl (hb hby at_53) rfl k) ?_
      show own_G p.tables e below s _ _ _ (s₁.setTop (mkF m 54 #[.val (.long q1), .second, .val (.long (q1 &&& (9223372036854775807 : Int64))), .second, .val (.long ((q1 &&& (9223372036854775807 : Int64)) / (4096 : Int64))), .second, .val (.long ((q1 &&& (9223372036854775807 : Int64)) - (((q1 &&& (9223372036854775807 : Int64)) / (4096 : Int64)) * (4096 : Int64)))), .second, .val (.long ((q1 &&& (9223372036854775807 : Int64)) / (4096 : Int64))), .second] [(.long (q1 &&& (9223372036854775807 : Int64)))]))
      obtain ⟨_, _, ⟨T1, L1, k1, n1⟩, -, X1, ⟨Lc1, hQ1, l1, y1, z1⟩, st1⟩ := Jvm.LawKit.callS X0 hx (y := (⟨"com/example/vouchsafe/vouchsafe/Blocks", "count", "(J)J"⟩ : MethodName)) hown (mvT hZ (hw _ (List.mem_of_getElem? (i := 3) rfl))) (mvT hZ (hw _ (List.mem_of_getElem? (i := 4) rfl))) (mvT hZ (hw _ (List.mem_of_getElem? (i := 5) rfl))) (mvT hZ (hw _ (List.mem_of_getElem? (i := 6) rfl))) (by decide) (backOf (W := 0) (rm1 l Z a0 hw [] (q1 &&& (9223372036854775807 : Int64)) h0 n0 Z0) hZ (hw _ (List.mem_of_getElem? (i := 6) rfl)) (hw _ (List.mem_of_getElem? (i := 5) rfl)) (by decide) (by decide)) (g := (mkF m 54 #[.val (.long q1), .second, .val (.long (q1 &&& (9223372036854775807 : Int64))), .second, .val (.long ((q1 &&& (9223372036854775807 : Int64)) / (4096 : Int64))), .second, .val (.long ((q1 &&& (9223372036854775807 : Int64)) - (((q1 &&& (9223372036854775807 : Int64)) / (4096 : Int64)) * (4096 : Int64)))), .second, .val (.long ((q1 &&& (9223372036854775807 : Int64)) / (4096 : Int64))), .second] [(.long (q1 &&& (9223372036854775807 : Int64)))])) rfl (by rw [hml]; rfl) (argsL := [(.long (q1 &&& (9223372036854775807 : Int64)))]) (rest := []) (lenOf pd__J_J rfl) rfl (by show 2 * 0 + _ ≤ _; exact Nat.le_of_eq rfl) (hb hby at_54) (fun _ _ => ⟨rfl, e0, (by decide : 0 + 0 ≤ _), (by decide : 0 + 0 ≤ _)⟩)
      dsimp only [Pt.U, Pt.locs, Pt.cells, Pt.slots] at X1 l1 y1 z1 st1 hQ1
      subst l1 y1 z1
      obtain ⟨rfl, N1q, hh1⟩ := hQ1
      have N1 := Fr.app N0 N1q
      refine own_go st1 ?_
      show own_G p.tables e below s _ _ _ (T1.setTop (mkF m 57 #[.val (.long q1), .second, .val (.long (q1 &&& (9223372036854775807 : Int64))), .second, .val (.long ((q1 &&& (9223372036854775807 : Int64)) / (4096 : Int64))), .second, .val (.long ((q1 &&& (9223372036854775807 : Int64)) - (((q1 &&& (9223372036854775807 : Int64)) / (4096 : Int64)) * (4096 : Int64)))), .second, .val (.long ((q1 &&& (9223372036854775807 : Int64)) / (4096 : Int64))), .second] [(.long ((((q1 &&& (9223372036854775807 : Int64)) + (4096 : Int64)) - (1 : Int64)) / (4096 : Int64)))]))
      refine own_go (fun t k => XS.lload X1.here hx rfl (hb hby at_57) rfl k) ?_
      show own_G p.tables e below s _ _ _ (T1.setTop (mkF m 59 #[.val (.long q1), .second, .val (.long (q1 &&& (9223372036854775807 : Int64))), .second, .val (.long ((q1 &&& (9223372036854775807 : Int64)) / (4096 : Int64))), .second, .val (.long ((q1 &&& (9223372036854775807 : Int64)) - (((q1 &&& (9223372036854775807 : Int64)) / (4096 : Int64)) * (4096 : Int64)))), .second, .val (.long ((q1 &&& (9223372036854775807 : Int64)) / (4096 : Int64))), .second] [(.long ((q1 &&& (9223372036854775807 : Int64)) / (4096 : Int64))), (.long ((((q1 &&& (9223372036854775807 : Int64)) + (4096 : Int64)) - (1 : Int64)) / (4096 : Int64)))]))
      refine own_go (fun t k => Jvm.Free.XT.lcmp X1.here hx rfl (hb hby at_59) rfl k) ?_
      show own_G p.tables e below s _ _ _ (T1.setTop (mkF m 60 #[.val (.long q1), .second, .val (.long (q1 &&& (9223372036854775807 : Int64))), .second, .val (.long ((q1 &&& (9223372036854775807 : Int64)) / (4096 : Int64))), .second, .val (.long ((q1 &&& (9223372036854775807 : Int64)) - (((q1 &&& (9223372036854775807 : Int64)) / (4096 : Int64)) * (4096 : Int64)))), .second, .val (.long ((q1 &&& (9223372036854775807 : Int64)) / (4096 : Int64))), .second] [(.int (Jvm.Free.XT.cmpL ((((q1 &&& (9223372036854775807 : Int64)) + (4096 : Int64)) - (1 : Int64)) / (4096 : Int64)) ((q1 &&& (9223372036854775807 : Int64)) / (4096 : Int64))))]))
      refine own_go (fun t k => XS.ifNo X1.here hx rfl (hb hby at_60) rfl (Jvm.Free.XT.ll_ne_f (own_even (q1 &&& (9223372036854775807 : Int64)) (own_mask q1) hc11 hc37)) k) ?_
      show own_G p.tables e below s _ _ _ (T1.setTop (mkF m 63 #[.val (.long q1), .second, .val (.long (q1 &&& (9223372036854775807 : Int64))), .second, .val (.long ((q1 &&& (9223372036854775807 : Int64)) / (4096 : Int64))), .second, .val (.long ((q1 &&& (9223372036854775807 : Int64)) - (((q1 &&& (9223372036854775807 : Int64)) / (4096 : Int64)) * (4096 : Int64)))), .second, .val (.long ((q1 &&& (9223372036854775807 : Int64)) / (4096 : Int64))), .second] []))
      refine own_go (fun t k => XS.iconst X1.here hx rfl (hb hby at_63) k) ?_
      show own_G p.tables e below s _ _ _ (T1.setTop (mkF m 64 #[.val (.long q1), .second, .val (.long (q1 &&& (9223372036854775807 : Int64))), .second, .val (.long ((q1 &&& (9223372036854775807 : Int64)) / (4096 : Int64))), .second, .val (.long ((q1 &&& (9223372036854775807 : Int64)) - (((q1 &&& (9223372036854775807 : Int64)) / (4096 : Int64)) * (4096 : Int64)))), .second, .val (.long ((q1 &&& (9223372036854775807 : Int64)) / (4096 : Int64))), .second] [(.int (1 : Int32))]))
      refine own_go (fun t k => XS.goto X1.here hx rfl (pc0 := 64) (pc' := 68) rfl (hb hby at_64) (by decide) (by decide) k) ?_
      show own_G p.tables e below s _ _ _ (T1.setTop (mkF m 68 #[.val (.long q1), .second, .val (.long (q1 &&& (9223372036854775807 : Int64))), .second, .val (.long ((q1 &&& (9223372036854775807 : Int64)) / (4096 : Int64))), .second, .val (.long ((q1 &&& (9223372036854775807 : Int64)) - (((q1 &&& (9223372036854775807 : Int64)) / (4096 : Int64)) * (4096 : Int64)))), .second, .val (.long ((q1 &&& (9223372036854775807 : Int64)) / (4096 : Int64))), .second] [(.int (1 : Int32))]))
      exact own_retN X1 hx hlk (t := .boolean) (z' := (1 : Int32)) Bd.returns (by simp) (hb hby at_68) (rfl) (by rw [hh1]; exact ⟨rfl, N1⟩) (by decide) (by decide)
    · refine own_go (fun t k => XS.ifYes X0.here hx rfl (pc0 := 37) (pc' := 47) rfl (hb hby at_37) rfl (Jvm.Free.XT.ll_ne_t hc37) (by decide) (by decide) k) ?_
      show own_G p.tables e below s _ _ _ (s₁.setTop (mkF m 47 #[.val (.long q1), .second, .val (.long (q1 &&& (9223372036854775807 : Int64))), .second, .val (.long ((q1 &&& (9223372036854775807 : Int64)) / (4096 : Int64))), .second, .val (.long ((q1 &&& (9223372036854775807 : Int64)) - (((q1 &&& (9223372036854775807 : Int64)) / (4096 : Int64)) * (4096 : Int64)))), .second, .unset, .unset] []))
      refine own_go (fun t k => XS.lload X0.here hx rfl (hb hby at_47) rfl k) ?_
      show own_G p.tables e below s _ _ _ (s₁.setTop (mkF m 49 #[.val (.long q1), .second, .val (.long (q1 &&& (9223372036854775807 : Int64))), .second, .val (.long ((q1 &&& (9223372036854775807 : Int64)) / (4096 : Int64))), .second, .val (.long ((q1 &&& (9223372036854775807 : Int64)) - (((q1 &&& (9223372036854775807 : Int64)) / (4096 : Int64)) * (4096 : Int64)))), .second, .unset, .unset] [(.long ((q1 &&& (9223372036854775807 : Int64)) / (4096 : Int64)))]))
      refine own_go (fun t k => XS.lconst X0.here hx rfl (hb hby at_49) k) ?_
      show own_G p.tables e below s _ _ _ (s₁.setTop (mkF m 50 #[.val (.long q1), .second, .val (.long (q1 &&& (9223372036854775807 : Int64))), .second, .val (.long ((q1 &&& (9223372036854775807 : Int64)) / (4096 : Int64))), .second, .val (.long ((q1 &&& (9223372036854775807 : Int64)) - (((q1 &&& (9223372036854775807 : Int64)) / (4096 : Int64)) * (4096 : Int64)))), .second, .unset, .unset] [(.long (1 : Int64)), (.long ((q1 &&& (9223372036854775807 : Int64)) / (4096 : Int64)))]))
      refine own_go (fun t k => XS.ladd X0.here hx rfl (hb hby at_50) rfl k) ?_
      show own_G p.tables e below s _ _ _ (s₁.setTop (mkF m 51 #[.val (.long q1), .second, .val (.long (q1 &&& (9223372036854775807 : Int64))), .second, .val (.long ((q1 &&& (9223372036854775807 : Int64)) / (4096 : Int64))), .second, .val (.long ((q1 &&& (9223372036854775807 : Int64)) - (((q1 &&& (9223372036854775807 : Int64)) / (4096 : Int64)) * (4096 : Int64)))), .second, .unset, .unset] [(.long (((q1 &&& (9223372036854775807 : Int64)) / (4096 : Int64)) + (1 : Int64)))]))
      refine own_go (fun t k => XS.lstore X0.here hx rfl (hb hby at_51) rfl (l' := #[.val (.long q1), .second, .val (.long (q1 &&& (9223372036854775807 : Int64))), .second, .val (.long ((q1 &&& (9223372036854775807 : Int64)) / (4096 : Int64))), .second, .val (.long ((q1 &&& (9223372036854775807 : Int64)) - (((q1 &&& (9223372036854775807 : Int64)) / (4096 : Int64)) * (4096 : Int64)))), .second, .val (.long (((q1 &&& (9223372036854775807 : Int64)) / (4096 : Int64)) + (1 : Int64))), .second]) rfl k) ?_
      show own_G p.tables e below s _ _ _ (s₁.setTop (mkF m 53 #[.val (.long q1), .second, .val (.long (q1 &&& (9223372036854775807 : Int64))), .second, .val (.long ((q1 &&& (9223372036854775807 : Int64)) / (4096 : Int64))), .second, .val (.long ((q1 &&& (9223372036854775807 : Int64)) - (((q1 &&& (9223372036854775807 : Int64)) / (4096 : Int64)) * (4096 : Int64)))), .second, .val (.long (((q1 &&& (9223372036854775807 : Int64)) / (4096 : Int64)) + (1 : Int64))), .second] []))
      refine own_go (fun t k => XS.lloadN X0.here hx rfl (hb hby at_53) rfl k) ?_
      show own_G p.tables e below s _ _ _ (s₁.setTop (mkF m 54 #[.val (.long q1), .second, .val (.long (q1 &&& (9223372036854775807 : Int64))), .second, .val (.long ((q1 &&& (9223372036854775807 : Int64)) / (4096 : Int64))), .second, .val (.long ((q1 &&& (9223372036854775807 : Int64)) - (((q1 &&& (9223372036854775807 : Int64)) / (4096 : Int64)) * (4096 : Int64)))), .second, .val (.long (((q1 &&& (9223372036854775807 : Int64)) / (4096 : Int64)) + (1 : Int64))), .second] [(.long (q1 &&& (9223372036854775807 : Int64)))]))
      obtain ⟨_, _, ⟨T2, L2, k2, n2⟩, -, X2, ⟨Lc2, hQ2, l2, y2, z2⟩, st2⟩ := Jvm.LawKit.callS X0 hx (y := (⟨"com/example/vouchsafe/vouchsafe/Blocks", "count", "(J)J"⟩ : MethodName)) hown (mvT hZ (hw _ (List.mem_of_getElem? (i := 3) rfl))) (mvT hZ (hw _ (List.mem_of_getElem? (i := 4) rfl))) (mvT hZ (hw _ (List.mem_of_getElem? (i := 5) rfl))) (mvT hZ (hw _ (List.mem_of_getElem? (i := 6) rfl))) (by decide) (backOf (W := 0) (rm1 l Z a0 hw [] (q1 &&& (9223372036854775807 : Int64)) h0 n0 Z0) hZ (hw _ (List.mem_of_getElem? (i := 6) rfl)) (hw _ (List.mem_of_getElem? (i := 5) rfl)) (by decide) (by decide)) (g := (mkF m 54 #[.val (.long q1), .second, .val (.long (q1 &&& (9223372036854775807 : Int64))), .second, .val (.long ((q1 &&& (9223372036854775807 : Int64)) / (4096 : Int64))), .second, .val (.long ((q1 &&& (9223372036854775807 : Int64)) - (((q1 &&& (9223372036854775807 : Int64)) / (4096 : Int64)) * (4096 : Int64)))), .second, .val (.long (((q1 &&& (9223372036854775807 : Int64)) / (4096 : Int64)) + (1 : Int64))), .second] [(.long (q1 &&& (9223372036854775807 : Int64)))])) rfl (by rw [hml]; rfl) (argsL := [(.long (q1 &&& (9223372036854775807 : Int64)))]) (rest := []) (lenOf pd__J_J rfl) rfl (by show 2 * 0 + _ ≤ _; exact Nat.le_of_eq rfl) (hb hby at_54) (fun _ _ => ⟨rfl, e0, (by decide : 0 + 0 ≤ _), (by decide : 0 + 0 ≤ _)⟩)
      dsimp only [Pt.U, Pt.locs, Pt.cells, Pt.slots] at X2 l2 y2 z2 st2 hQ2
      subst l2 y2 z2
      obtain ⟨rfl, N2q, hh2⟩ := hQ2
      have N2 := Fr.app N0 N2q
      refine own_go st2 ?_
      show own_G p.tables e below s _ _ _ (T2.setTop (mkF m 57 #[.val (.long q1), .second, .val (.long (q1 &&& (9223372036854775807 : Int64))), .second, .val (.long ((q1 &&& (9223372036854775807 : Int64)) / (4096 : Int64))), .second, .val (.long ((q1 &&& (9223372036854775807 : Int64)) - (((q1 &&& (9223372036854775807 : Int64)) / (4096 : Int64)) * (4096 : Int64)))), .second, .val (.long (((q1 &&& (9223372036854775807 : Int64)) / (4096 : Int64)) + (1 : Int64))), .second] [(.long ((((q1 &&& (9223372036854775807 : Int64)) + (4096 : Int64)) - (1 : Int64)) / (4096 : Int64)))]))
      refine own_go (fun t k => XS.lload X2.here hx rfl (hb hby at_57) rfl k) ?_
      show own_G p.tables e below s _ _ _ (T2.setTop (mkF m 59 #[.val (.long q1), .second, .val (.long (q1 &&& (9223372036854775807 : Int64))), .second, .val (.long ((q1 &&& (9223372036854775807 : Int64)) / (4096 : Int64))), .second, .val (.long ((q1 &&& (9223372036854775807 : Int64)) - (((q1 &&& (9223372036854775807 : Int64)) / (4096 : Int64)) * (4096 : Int64)))), .second, .val (.long (((q1 &&& (9223372036854775807 : Int64)) / (4096 : Int64)) + (1 : Int64))), .second] [(.long (((q1 &&& (9223372036854775807 : Int64)) / (4096 : Int64)) + (1 : Int64))), (.long ((((q1 &&& (9223372036854775807 : Int64)) + (4096 : Int64)) - (1 : Int64)) / (4096 : Int64)))]))
      refine own_go (fun t k => Jvm.Free.XT.lcmp X2.here hx rfl (hb hby at_59) rfl k) ?_
      show own_G p.tables e below s _ _ _ (T2.setTop (mkF m 60 #[.val (.long q1), .second, .val (.long (q1 &&& (9223372036854775807 : Int64))), .second, .val (.long ((q1 &&& (9223372036854775807 : Int64)) / (4096 : Int64))), .second, .val (.long ((q1 &&& (9223372036854775807 : Int64)) - (((q1 &&& (9223372036854775807 : Int64)) / (4096 : Int64)) * (4096 : Int64)))), .second, .val (.long (((q1 &&& (9223372036854775807 : Int64)) / (4096 : Int64)) + (1 : Int64))), .second] [(.int (Jvm.Free.XT.cmpL ((((q1 &&& (9223372036854775807 : Int64)) + (4096 : Int64)) - (1 : Int64)) / (4096 : Int64)) (((q1 &&& (9223372036854775807 : Int64)) / (4096 : Int64)) + (1 : Int64))))]))
      refine own_go (fun t k => XS.ifNo X2.here hx rfl (hb hby at_60) rfl (Jvm.Free.XT.ll_ne_f (own_odd (q1 &&& (9223372036854775807 : Int64)) (own_mask q1) hc11 hc37)) k) ?_
      show own_G p.tables e below s _ _ _ (T2.setTop (mkF m 63 #[.val (.long q1), .second, .val (.long (q1 &&& (9223372036854775807 : Int64))), .second, .val (.long ((q1 &&& (9223372036854775807 : Int64)) / (4096 : Int64))), .second, .val (.long ((q1 &&& (9223372036854775807 : Int64)) - (((q1 &&& (9223372036854775807 : Int64)) / (4096 : Int64)) * (4096 : Int64)))), .second, .val (.long (((q1 &&& (9223372036854775807 : Int64)) / (4096 : Int64)) + (1 : Int64))), .second] []))
      refine own_go (fun t k => XS.iconst X2.here hx rfl (hb hby at_63) k) ?_
      show own_G p.tables e below s _ _ _ (T2.setTop (mkF m 64 #[.val (.long q1), .second, .val (.long (q1 &&& (9223372036854775807 : Int64))), .second, .val (.long ((q1 &&& (9223372036854775807 : Int64)) / (4096 : Int64))), .second, .val (.long ((q1 &&& (9223372036854775807 : Int64)) - (((q1 &&& (9223372036854775807 : Int64)) / (4096 : Int64)) * (4096 : Int64)))), .second, .val (.long (((q1 &&& (9223372036854775807 : Int64)) / (4096 : Int64)) + (1 : Int64))), .second] [(.int (1 : Int32))]))
      refine own_go (fun t k => XS.goto X2.here hx rfl (pc0 := 64) (pc' := 68) rfl (hb hby at_64) (by decide) (by decide) k) ?_
      show own_G p.tables e below s _ _ _ (T2.setTop (mkF m 68 #[.val (.long q1), .second, .val (.long (q1 &&& (9223372036854775807 : Int64))), .second, .val (.long ((q1 &&& (9223372036854775807 : Int64)) / (4096 : Int64))), .second, .val (.long ((q1 &&& (9223372036854775807 : Int64)) - (((q1 &&& (9223372036854775807 : Int64)) / (4096 : Int64)) * (4096 : Int64)))), .second, .val (.long (((q1 &&& (9223372036854775807 : Int64)) / (4096 : Int64)) + (1 : Int64))), .second] [(.int (1 : Int32))]))
      exact own_retN X2 hx hlk (t := .boolean) (z' := (1 : Int32)) Bd.returns (by simp) (hb hby at_68) (rfl) (by rw [hh2]; exact ⟨rfl, N2⟩) (by decide) (by decide)
set_option maxRecDepth 65536 in
set_option maxHeartbeats 40000000 in
theorem comes_1 {Post : Tables → Env → Array Value → State → Outcome → State → Prop} (hpost : ∀ tb e args s v u, (limb_1_1.after args s (.returned v) u = true ∧ limb_1_2.after args s (.returned v) u = true ∧ True) → FrameEnd s (.returned v) u (Jvm.fieldLocs frame_1_writes args s ++ Jvm.arrayLocs frame_1_arrays args s ++ Jvm.staticLocs frame_1_statics s) 0 0 → Post tb e args s (.returned v) u) :
    ArmFor flags0 classFile x code maxLocals ret World_1 tables_1 room_1 Calls_1 rest_1 Pre_1 Post := by
  intro l hfl _ _ p e ha hc hk s m args below hf hA hF happ hP
  obtain ⟨hcalls, hrest, hpre⟩ := hP
  obtain ⟨-, -, -, hnamed, -, -, -, hat⟩ := (Spec.applies_iff hf).mp happ
  obtain ⟨hg, hn⟩ := and_e (Cond.before_iff.mp (show (Jvm.Cond.and given_1 narrow_1).before args s = true from hpre))
  obtain ⟨gc, g0'⟩ := and_e hg
  have ga0 := g0'
  obtain ⟨w0, rfl⟩ : ∃ w0 : Value, args = #[w0] := by
    have hs : args.size = 1 := by simpa [Cond.value, given_1] using gc
    obtain ⟨L⟩ := args
    match L, hs with
    | [w0], _ => exact ⟨w0, rfl⟩
  have hw := fun d (hd : d ∈ tables_1) => atoms_spec (ws := Jvm.Cond.code x code maxLocals ret :: tables_1) hat d (List.mem_cons_of_mem _ hd)
  have hfit : Fit s := fun {y c} hc i hi => by
    obtain ⟨ha, rfl⟩ := Array.getElem?_eq_some_iff.mp hc
    have q := List.all_eq_true.mp ((Array.all_eq_true_iff_forall_mem.mp hF) _ (Array.getElem_mem ha)) i (List.mem_range.mpr hi)
    simpa [Array.getElem?_eq_getElem hi] using q
  obtain ⟨i0, ei0⟩ := isL_v ga0
  obtain rfl : w0 = (.long i0) := Option.some.inj ei0
  obtain ⟨n, o, h1, h2, h3, _, L, rfl, ⟨rfl, N⟩, hq⟩ := rm0 l s _ hw tables_1 i0 s.heap s.heap.size (Nat.le_refl _) p e ha hc hk s m _ below hf ((Spec.applies_iff_loose hf).mp happ).1 ⟨rfl, State.Warmed39.refl s, rfl⟩ trivial
  refine ⟨n, _, h1, h2, h3, hpost _ _ _ _ _ _ ⟨Cond.after_iff.mpr rfl, Cond.after_iff.mpr (eq_i res_at (Term.int_eval (1)) rfl), trivial⟩ ⟨hq.1, hq.2.1, (hq.2.2.sift fun y hy => Or.inr (N y hy)).mono (by decide) (by decide)⟩⟩
theorem main_1_1 : Claimed_1_1 := comes_1 fun _ _ _ _ _ _ h hF => ⟨h.1, hF⟩
theorem main_1_2 : Claimed_1_2 := comes_1 fun _ _ _ _ _ _ h hF => ⟨h.2.1, hF⟩
end Jvm.Pilot.@@N@@
namespace Jvm.Pilot.@@N@@
open Jvm Jvm.ClassFile Sem Op Lib Jvm.Free Jvm.Stand Jvm.Pilot.@@N@@.Jvm.D
/-! MADE BY PROGRAM (witnessworld.py) out of the Statement's table words and the real class files: 9 classes; the members and pool entries that the words name. The judged class is class 1, her method 1. -/
namespace start1
open Jvm.ClassFile
def u (s : String) : CpInfo := .utf8 (stringToUtf16 s)
/-- a pool by its gaps: so many unusable entries, then the entry; so many at the end -/
def gap : Nat → List CpInfo → List CpInfo
  | 0, r => r
  | n + 1, r => .unusable :: gap n r
def poolList (es : List (Nat × CpInfo)) (last : Nat) : List CpInfo := es.foldr (fun e r => gap e.1 (e.2 :: r)) (gap last [])
def pool (es : List (Nat × CpInfo)) (last : Nat) : Array CpInfo := ⟨poolList es last⟩
def fileOf (pool : Array CpInfo) (this : Nat) (attrs : Array Attribute := #[]) (ms : Array MethodInfo := #[]) (fl : Nat := 33) (sup : Nat := 0) (ifs : Array Nat := #[]) (fds : Array FieldInfo := #[]) : ClassFile where
  minorVersion := 0
  majorVersion := 65
  constantPool := pool
  accessFlags := fl
  thisClass := this
  superClass := sup
  interfaces := ifs
  fields := fds
  methods := ms
  attributes := attrs
def plain (name : String) (sup : Option ClassId) : Class where
  name := name
  kind := .ordinary
  loader := none
  accessFlags := 33
  super := sup
  interfaces := #[]
  cf := none
  fields := #[]
  methods := #[]
  instanceTypes := #[]
  staticTypes := #[]
  resolved := #[]
  callSites := []
  init := .initialized
  statics := none
  mirror := none

def pool0 : Array CpInfo := pool [(5, u "<init>"), (0, u "()V"), (1, .class_ 10), (1, u "java/lang/Object")] 113

def k0m0 : Method := { name := "<init>", desc := "()V", sig := { parameters := [], returnType := none }, accessFlags := 1, code := none }
/-- java/lang/Object -/
def k0 : Class := { plain "java/lang/Object" none with
  accessFlags := 33
  interfaces := #[]
  cf := some (fileOf pool0 8 #[] #[{ accessFlags := 1, nameIndex := 5, descriptorIndex := 6, attributes := #[] }] 33 0 #[] #[])
  fields := #[]
  methods := #[k0m0]
  instanceTypes := #[]
  staticTypes := #[]
  resolved := Array.replicate 124 none
  statics := none }

def pool1 : Array CpInfo := pool [(2, .class_ 4), (1, u "java/lang/Object"), (0, u "<init>"), (0, u "()V"), (2, .long 9223372036854775807), (1, .long 9223372036854771712), (1, .long 4096), (1, .methodref 16 17), (0, .class_ 18), (0, .nameAndType 19 20), (0, u "com/example/vouchsafe/vouchsafe/Blocks"), (0, u "count"), (0, u "(J)J"), (0, .class_ 22), (0, u "com/example/vouchsafe/vouchsafe/BlocksCountPinLaw"), (2, u "law"), (0, u "(J)Z")] 3

def k1m0 : Method := { name := "<init>", desc := "()V", sig := { parameters := [], returnType := none }, accessFlags := 2, code := none }
def k1c1 : Code := { maxStack := 6, maxLocals := 10, code := code, exceptionTable := #[], attributes := #[] }
def k1m1 : Method := { name := "law", desc := "(J)Z", sig := { parameters := [.long], returnType := some .boolean }, accessFlags := 9, code := some k1c1 }
/-- com/example/vouchsafe/vouchsafe/BlocksCountPinLaw -/
def k1 : Class := { plain "com/example/vouchsafe/vouchsafe/BlocksCountPinLaw" (some 0) with
  accessFlags := 49
  interfaces := #[]
  cf := some (fileOf pool1 21 #[] #[{ accessFlags := 2, nameIndex := 5, descriptorIndex := 6, attributes := #[] }, { accessFlags := 9, nameIndex := 25, descriptorIndex := 26, attributes := #[] }] 49 2 #[] #[])
  fields := #[]
  methods := #[k1m0, k1m1]
  instanceTypes := #[]
  staticTypes := #[]
  resolved := Array.replicate 30 none
  statics := none }

def pool2 : Array CpInfo := pool [(1, .class_ 2), (0, u "com/example/vouchsafe/vouchsafe/Blocks"), (1, .class_ 6), (1, u "java/lang/Object"), (0, u "<init>"), (0, u "()V"), (0, .long 4096), (12, u "SIZE"), (0, u "I"), (2, u "VALUE_BITS"), (3, u "count"), (0, u "(J)J")] 6

def k2m0 : Method := { name := "<init>", desc := "()V", sig := { parameters := [], returnType := none }, accessFlags := 2, code := none }
def k2c1 : Code := { maxStack := 4, maxLocals := 2, code := prog_34_method_2_code, exceptionTable := #[], attributes := #[] }
def k2m1 : Method := { name := "count", desc := "(J)J", sig := { parameters := [.long], returnType := some .long }, accessFlags := 8, code := some k2c1 }
/-- com/example/vouchsafe/vouchsafe/Blocks -/
def k2 : Class := { plain "com/example/vouchsafe/vouchsafe/Blocks" (some 0) with
  accessFlags := 48
  interfaces := #[]
  cf := some (fileOf pool2 1 #[] #[{ accessFlags := 2, nameIndex := 7, descriptorIndex := 8, attributes := #[] }, { accessFlags := 8, nameIndex := 30, descriptorIndex := 31, attributes := #[] }] 48 4 #[] #[{ accessFlags := 24, nameIndex := 22, descriptorIndex := 23, attributes := #[] }, { accessFlags := 24, nameIndex := 26, descriptorIndex := 23, attributes := #[] }])
  fields := #[{ name := "SIZE", type := .int, accessFlags := 24, slot := 0, constantValue := 0 }, { name := "VALUE_BITS", type := .int, accessFlags := 24, slot := 1, constantValue := 0 }]
  methods := #[k2m0, k2m1]
  instanceTypes := #[]
  staticTypes := #[.int, .int]
  resolved := Array.replicate 38 none
  statics := none }

def pool3 : Array CpInfo := pool [(1, u "java/lang/Cloneable"), (0, .class_ 1), (0, u "java/lang/Object"), (0, .class_ 3)] 3

/-- java/lang/Cloneable -/
def k3 : Class := { plain "java/lang/Cloneable" (some 0) with
  accessFlags := 1537
  interfaces := #[]
  cf := some (fileOf pool3 2 #[] #[] 1537 4 #[] #[])
  fields := #[]
  methods := #[]
  instanceTypes := #[]
  staticTypes := #[]
  resolved := Array.replicate 8 none
  statics := none }

def pool4 : Array CpInfo := pool [(1, u "java/io/Serializable"), (0, .class_ 1), (0, u "java/lang/Object"), (0, .class_ 3)] 3

/-- java/io/Serializable -/
def k4 : Class := { plain "java/io/Serializable" (some 0) with
  accessFlags := 1537
  interfaces := #[]
  cf := some (fileOf pool4 2 #[] #[] 1537 4 #[] #[])
  fields := #[]
  methods := #[]
  instanceTypes := #[]
  staticTypes := #[]
  resolved := Array.replicate 8 none
  statics := none }

/-- the primitive byte -/
def k5 : Class := { plain "byte" none with kind := .primitive 'B', accessFlags := 0x411 }
/-- [B -/
def k6 : Class := { plain "[B" (some 0) with kind := .array 5 .byte, interfaces := #[3, 4], accessFlags := 1041 }

/-- the primitive int -/
def k7 : Class := { plain "int" none with kind := .primitive 'I', accessFlags := 0x411 }
/-- [I -/
def k8 : Class := { plain "[I" (some 0) with kind := .array 7 .int, interfaces := #[3, 4], accessFlags := 1041 }

def heap : Heap := #[]
def classes : Array Class := #[k0, k1, k2, k3, k4, k5, k6, k7, k8]
def interned : List (Array UInt16 × Addr) := []
def slotsUsed : Nat := 0
def theMethod : MethodId := ⟨1, 1⟩
def args0 : Array Value := #[.long 5]
def aboutOver (below : List Frame) : State where
  vm := { classes := classes, interned := interned.toArray }
  heap := heap
  slotsUsed := slotsUsed
  threads := #[{ frames := .invoking theMethod args0 :: below }]
def below0 : List Frame := [.native { method := ⟨0, 0⟩, args := #[] }]
def about1 : State := aboutOver below0
def p0 : Program := .bare "" "" ""
def e0 : Env := launch0.env 0 0 0
theorem w_frames : about1.frames = Frame.invoking theMethod args0 :: below0 := rfl
set_option maxRecDepth 65536 in
theorem w_args : argsFit about1.vm theMethod args0 = true := by decide +kernel
set_option maxRecDepth 65536 in
theorem w_heap : heapFits about1 = true := by decide +kernel
set_option maxRecDepth 65536 in
theorem w_runnable : about1.curStatus? = some .runnable := by decide +kernel
set_option maxRecDepth 65536 in
theorem w_alone : about1.alone = true := by decide +kernel
set_option maxRecDepth 65536 in
theorem w_named : about1.methodNamed? x = some theMethod := by decide +kernel
set_option maxRecDepth 65536 in
theorem w_hears : about1.hears theMethod below0 = true := by decide +kernel
set_option maxRecDepth 65536 in
theorem w_ripe : about1.ripe theMethod args0 below0 = true := by decide +kernel
theorem w_running : about1.status = .running := rfl
set_option maxRecDepth 65536 in
theorem w_room : about1.hasRoom e0.platform room_1 = true :=
  launch0.hasRoom_least _ room_1 (by decide +kernel) (by decide +kernel) (by decide +kernel) (by decide +kernel) (by decide +kernel) (by decide +kernel)
theorem allAtoms_all (ts : List Jvm.Cond) (a : Array Jvm.Value) (st : Jvm.State) : (allAtoms ts).before a st = ts.all (fun c => c.before a st) := by
  induction ts with
  | nil => rfl
  | cons c t ih =>
    show (Jvm.Cond.and c (allAtoms t)).before a st = _
    rw [Jvm.Cond.before_and, ih, List.all_cons]
def words1 : List Jvm.Cond := Jvm.Cond.code x code maxLocals ret :: tables_1
/-- a 'code' word, met by the world's own term for the bytes: nothing is compared byte by byte -/
theorem code_word {y : MethodName} {bytes : ByteArray} {mx : Nat} {rt : Option FieldType} {a : Array Value} {s : State} {m : MethodId} {meth : Method} {c : Code} (h1 : s.methodNamed? y = some m) (h2 : s.vm.method? m = some meth) (h3 : meth.code = some c) (h4 : c.code = bytes)
    (h5 : (c.maxLocals == mx && c.exceptionTable.isEmpty && decide (c.maxStack ≤ mostOperands) && decide (meth.sig.returnType = rt) && !meth.locks && decide (parseMethodDescriptor y.desc = some meth.sig)) = true) : (Jvm.Cond.code y bytes mx rt).before a s = true := by
  simp only [Bool.and_eq_true, beq_iff_eq, Bool.not_eq_true', decide_eq_true_eq] at h5
  obtain ⟨⟨⟨⟨⟨g1, g2⟩, g3⟩, g4⟩, g5⟩, g6⟩ := h5
  simp [Cond.before, Cond.holds, Cond.value, h1, h2, h3, h4, g1, g2, g3, g4, g5, g6]
def isCode : Jvm.Cond → Bool
  | .code _ _ _ _ => true
  | _ => false
theorem all_split {L : List Jvm.Cond} {P : Jvm.Cond → Bool} (h1 : L.all (fun c => isCode c || P c) = true) (h2 : ∀ c ∈ L.filter isCode, P c = true) : L.all P = true := by
  refine List.all_eq_true.mpr fun c hc => ?_
  have h := List.all_eq_true.mp h1 c hc
  rcases Bool.eq_false_or_eq_true (isCode c) with hi | hi
  · exact h2 c (List.mem_filter.mpr ⟨hc, hi⟩)
  · simpa [hi] using h
set_option maxRecDepth 65536 in
theorem w_c0 : (Jvm.Cond.code x code maxLocals ret).before args0 about1 = true := code_word (m := ⟨1, 1⟩) (meth := k1m1) (c := k1c1) (by decide +kernel) rfl rfl rfl (by decide +kernel)
set_option maxRecDepth 65536 in
theorem w_c1 : (Jvm.Cond.code ({ cls := "com/example/vouchsafe/vouchsafe/Blocks", name := "count", desc := "(J)J" } : Jvm.MethodName) prog_34_method_2_code (2 : Nat) (Option.some Jvm.ClassFile.FieldType.long)).before args0 about1 = true := code_word (m := ⟨2, 1⟩) (meth := k2m1) (c := k2c1) (by decide +kernel) rfl rfl rfl (by decide +kernel)
def codes1 : List Jvm.Cond := [Jvm.Cond.code x code maxLocals ret, Jvm.Cond.code ({ cls := "com/example/vouchsafe/vouchsafe/Blocks", name := "count", desc := "(J)J" } : Jvm.MethodName) prog_34_method_2_code (2 : Nat) (Option.some Jvm.ClassFile.FieldType.long)]
set_option maxRecDepth 65536 in
theorem codes_eq : words1.filter isCode = codes1 := rfl
theorem w_codes : ∀ c ∈ words1.filter isCode, c.before args0 about1 = true := by
  rw [codes_eq]
  intro c hc
  simp only [codes1, List.mem_cons, List.not_mem_nil, or_false] at hc
  rcases hc with rfl | rfl
  · exact w_c0
  · exact w_c1
set_option maxRecDepth 65536 in
theorem w_t1 : words1.all (fun c => isCode c || c.before args0 about1) = true := by decide +kernel
theorem w_tables : (allAtoms (Jvm.Cond.code x code maxLocals ret :: tables_1)).before args0 about1 = true := by
  rw [allAtoms_all]
  show words1.all (fun c => c.before args0 about1) = true
  refine all_split ?_ w_codes
  rw [w_t1]
set_option maxRecDepth 65536 in
theorem w_case : (Jvm.Cond.and given_1 narrow_1).before args0 about1 = true := by decide +kernel
theorem w_applies : (headSpec (Jvm.Cond.code x code maxLocals ret :: tables_1) room_1).applies x e0.platform about1 = true :=
  (Spec.applies_iff w_frames).mpr ⟨w_running, w_runnable, w_alone, w_named, w_hears, w_ripe, w_room, w_tables⟩
theorem atStart : AtStart classFile x code maxLocals ret World_1 tables_1 room_1 Calls_1 rest_1 Pre_1 launch0 p0 e0 about1 theMethod args0 below0 :=
  ⟨lists_1, trivial, launch0.admits_env _ _ _, launch0.least_env, fairChoices_fair.cas, fairChoices_fair.clock, w_frames, w_args, w_heap, w_applies, trivial, trivial, w_case⟩
end start1
theorem witness_1 : WitnessClaimed_1 := ⟨start1.p0, start1.e0, start1.about1, start1.theMethod, start1.args0, start1.below0, start1.atStart⟩
end Jvm.Pilot.@@N@@
