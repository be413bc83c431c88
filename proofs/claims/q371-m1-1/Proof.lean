import JvmDerived
import JvmDerived.Pilot.@@N@@Statement
import JvmDerived.Pilot.@@N@@Code
set_option linter.unusedVariables false
set_option linter.unusedSimpArgs false
namespace Jvm.RoadKit
open Sem ClassFile Op Lib Jvm.Stand Jvm.Free Jvm.LawKit
section OwnKit
variable {p : Program} {l : Launch} {e : Env} {R : Room} {s : State} {m : MethodId} {args : Array Value} {below : List Frame} {meth : Method} {c : Code} {T : State} {locs : List Loc} {cells slots : Nat}
/-- a run that stands in S comes to an end of the invocation, of which Q is said -/
def own_G (tb : Tables) (e : Env) (below : List Frame) (s : State) (Q : Option Value → Heap → List Loc → Prop) (k n : Nat) (S : State) : Prop :=
  ∃ s₂ o, Steps tb e below S s₂ ∧ s₂.status = .running ∧ Ended s₂ below o ∧ ∃ v L, o = .returned v ∧ Q v s₂.heap L ∧ FrameEnd s o s₂ L k n
variable {tb : Tables} {Q : Option Value → Heap → List Loc → Prop} {k n : Nat}
theorem own_go {A B : State} (st : ∀ t, Steps tb e below A t → Steps tb e below B t) (h : own_G tb e below s Q k n A) : own_G tb e below s Q k n B := by
  obtain ⟨s₂, o, h1, h2⟩ := h
  exact ⟨s₂, o, st _ h1, h2⟩
theorem own_ret (X : Stand p l e R s m args below meth c T locs cells slots) {v : Option Value} (hv : meth.sig.returnType = none → v = none) (hlk : meth.locks = false) (hQ : Q v T.heap locs) (hk : cells ≤ k) (hn : slots ≤ n) {S : State}
    (st : ∀ fs, (∀ (f : JFrame) (acts : List Action), f.method = m → f.locked = none → f.entered = [] → (doReturn e (T.setTop f) acts v).1 = T.setFrames fs) → Steps p.tables e below S (T.setFrames fs)) : own_G p.tables e below s Q k n S := by
  obtain ⟨fs, hr, hrun, hended, hW, hsame⟩ := X.leave hv hlk
  exact ⟨_, _, st fs hr, hrun, hended, _, _, rfl, hQ, ⟨_, rfl⟩, hW, hsame.mono hk hn⟩
variable {pc : Nat} {Ls : Array Slot} {rest : List Value}
theorem own_retN (X : Stand p l e R s m args below meth c T locs cells slots) (hx : p.tables.exec = Jvm.exec) (hlk : meth.locks = false) {t : FieldType} {z z' : Int32} (hret : meth.sig.returnType = some t) (ht : t = .boolean ∨ t = .byte ∨ t = .char ∨ t = .short) (hd : decode c.code pc = .ok (.ireturn, 1)) (hz : nar t z = z') (hQ : Q (some (.int z')) T.heap locs) (hk : cells ≤ k) (hn : slots ≤ n) :
    own_G p.tables e below s Q k n (T.setTop (mkF m pc Ls (.int z :: rest))) := by
  subst hz
  exact own_ret X (fun h => by rw [hret] at h; cases h) hlk hQ hk hn fun fs hr => retN X hx hret ht hd hr
theorem own_retI (X : Stand p l e R s m args below meth c T locs cells slots) (hx : p.tables.exec = Jvm.exec) (hlk : meth.locks = false) {z : Int32} (hret : meth.sig.returnType = some .int) (hd : decode c.code pc = .ok (.ireturn, 1)) (hQ : Q (some (.int z)) T.heap locs) (hk : cells ≤ k) (hn : slots ≤ n) :
    own_G p.tables e below s Q k n (T.setTop (mkF m pc Ls (.int z :: rest))) :=
  own_ret X (fun h => by rw [hret] at h; cases h) hlk hQ hk hn fun fs hr => retOut X hx hret rfl (Or.inl ⟨rfl, Or.inl rfl, _, rfl⟩) hd hr
theorem own_retJ (X : Stand p l e R s m args below meth c T locs cells slots) (hx : p.tables.exec = Jvm.exec) (hlk : meth.locks = false) {z : Int64} (hret : meth.sig.returnType = some .long) (hd : decode c.code pc = .ok (.lreturn, 1)) (hQ : Q (some (.long z)) T.heap locs) (hk : cells ≤ k) (hn : slots ≤ n) :
    own_G p.tables e below s Q k n (T.setTop (mkF m pc Ls (.long z :: rest))) :=
  own_ret X (fun h => by rw [hret] at h; cases h) hlk hQ hk hn fun fs hr => retOut X hx hret rfl (Or.inr (Or.inl ⟨rfl, rfl, _, rfl⟩)) hd hr
theorem own_retA (X : Stand p l e R s m args below meth c T locs cells slots) (hx : p.tables.exec = Jvm.exec) (hlk : meth.locks = false) {t : FieldType} {w : Value} (hret : meth.sig.returnType = some t) (ht : t.isReference = true) (hv : w.isRef = true) (hd : decode c.code pc = .ok (.areturn, 1)) (hQ : Q (some w) T.heap locs) (hk : cells ≤ k) (hn : slots ≤ n) :
    own_G p.tables e below s Q k n (T.setTop (mkF m pc Ls (w :: rest))) :=
  own_ret X (fun h => by rw [hret] at h; cases h) hlk hQ hk hn fun fs hr => retOut X hx hret (by rcases ref_cases hv with rfl | ⟨_, rfl⟩ <;> cases t <;> first | rfl | cases ht) (Or.inr (Or.inr (Or.inr (Or.inr ⟨rfl, ht, hv⟩)))) hd hr
theorem own_cat {v : Value} (h : v.isRef = true) : v.category = 1 := by rcases ref_cases h with rfl | ⟨_, rfl⟩ <;> rfl
theorem own_retV (X : Stand p l e R s m args below meth c T locs cells slots) (hx : p.tables.exec = Jvm.exec) (hlk : meth.locks = false) (hret : meth.sig.returnType = none) (hd : decode c.code pc = .ok (.return_, 1)) (hQ : Q none T.heap locs) (hk : cells ≤ k) (hn : slots ≤ n) :
    own_G p.tables e below s Q k n (T.setTop (mkF m pc Ls [])) :=
  own_ret X (fun _ => rfl) hlk hQ hk hn fun fs hr => X.returnOut hx hret hd hr
end OwnKit
section OwnWide
variable {p : Program} {l : Launch} {e : Env} {R : Room} {s : State} {m : MethodId} {args : Array Value} {below : List Frame} {meth : Method} {c : Code} {T : State} {locs : List Loc} {cells slots : Nat} {Z : State} {a0 : Array Value} {EL : List (String × Nat)} {vm0 : Vm} {k0 : Nat}
def own_GW (Z : State) (EL : List (String × Nat)) (tb : Tables) (e : Env) (below : List Frame) (s : State) (Q : Option Value → Heap → List Loc → Prop) (k n : Nat) (S : State) : Prop :=
  ∃ s₂ o, Steps tb e below S s₂ ∧ s₂.status = .running ∧ Ended s₂ below o ∧ ∃ v L, o = .returned v ∧ Q v s₂.heap L ∧ CHr Z EL s.vm s.heap s₂.vm s₂.heap ∧ ReturnedEndW s o s₂ L k n
variable {tb : Tables} {Q : Option Value → Heap → List Loc → Prop} {k n : Nat}
theorem own_goW {A B : State} (st : ∀ t, Steps tb e below A t → Steps tb e below B t) (h : own_GW Z EL tb e below s Q k n A) : own_GW Z EL tb e below s Q k n B := by
  obtain ⟨s₂, o, h1, h2⟩ := h
  exact ⟨s₂, o, st _ h1, h2⟩
theorem own_retW (X : Stand p l e R (s.setVm vm0) m args below meth c T locs cells slots) (hlk : meth.locks = false) (hS : s.Since vm0 k0) (hk0 : k0 ≤ T.heap.size) (hZ : Z.Warmed39 vm0) (hEL : EW Z a0 EL) (C : CHr Z EL s.vm s.heap vm0 T.heap) {v : Option Value} (hv : meth.sig.returnType = none → v = none) (hQ : Q v T.heap locs) (hk : cells ≤ k) (hn : slots ≤ n) {S : State}
    (st : ∀ fs, (∀ (f : JFrame) (acts : List Action), f.method = m → f.locked = none → f.entered = [] → (doReturn e (T.setTop f) acts v).1 = T.setFrames fs) → Steps p.tables e below S (T.setFrames fs)) : own_GW Z EL p.tables e below s Q k n S := by
  obtain ⟨fs, hr, hrun, hended, hW⟩ := X.leaveW hS hk0 hv hlk
  have D := C.trans (CHv.at X hZ hEL C.1)
  exact ⟨_, _, st fs hr, hrun, hended, _, _, rfl, hQ, D, ⟨hW.1, hW.2.1, hW.2.2.1, hW.2.2.2.mono hk hn⟩⟩
variable {pc : Nat} {Ls : Array Slot} {rest : List Value}
theorem own_retNW (X : Stand p l e R (s.setVm vm0) m args below meth c T locs cells slots) (hx : p.tables.exec = Jvm.exec) (hlk : meth.locks = false) (hS : s.Since vm0 k0) (hk0 : k0 ≤ T.heap.size) (hZ : Z.Warmed39 vm0) (hEL : EW Z a0 EL) (C : CHr Z EL s.vm s.heap vm0 T.heap) {t : FieldType} {z z' : Int32} (hret : meth.sig.returnType = some t) (ht : t = .boolean ∨ t = .byte ∨ t = .char ∨ t = .short) (hd : decode c.code pc = .ok (.ireturn, 1)) (hz : nar t z = z') (hQ : Q (some (.int z')) T.heap locs) (hk : cells ≤ k) (hn : slots ≤ n) :
    own_GW Z EL p.tables e below s Q k n (T.setTop (mkF m pc Ls (.int z :: rest))) := by
  subst hz
  exact own_retW X hlk hS hk0 hZ hEL C (fun h => by rw [hret] at h; cases h) hQ hk hn fun fs hr => retN X hx hret ht hd hr
theorem own_retAW (X : Stand p l e R (s.setVm vm0) m args below meth c T locs cells slots) (hx : p.tables.exec = Jvm.exec) (hlk : meth.locks = false) (hS : s.Since vm0 k0) (hk0 : k0 ≤ T.heap.size) (hZ : Z.Warmed39 vm0) (hEL : EW Z a0 EL) (C : CHr Z EL s.vm s.heap vm0 T.heap) {t : FieldType} {w : Value} (hret : meth.sig.returnType = some t) (ht : t.isReference = true) (hv : w.isRef = true) (hd : decode c.code pc = .ok (.areturn, 1)) (hQ : Q (some w) T.heap locs) (hk : cells ≤ k) (hn : slots ≤ n) :
    own_GW Z EL p.tables e below s Q k n (T.setTop (mkF m pc Ls (w :: rest))) :=
  own_retW X hlk hS hk0 hZ hEL C (fun h => by rw [hret] at h; cases h) hQ hk hn fun fs hr => retOut X hx hret (by rcases ref_cases hv with rfl | ⟨_, rfl⟩ <;> cases t <;> first | rfl | cases ht) (Or.inr (Or.inr (Or.inr (Or.inr ⟨rfl, ht, hv⟩)))) hd hr
end OwnWide
end Jvm.RoadKit
/- laws to paste: Road.backV, Road.eqW, Road.codOf (cut by pick.py; bodies as the Statement names them) -/
namespace Jvm.Pilot.@@N@@
namespace StrChars
open Jvm Sem ClassFile Op Lib Jvm.Stand Jvm.Free.XT Jvm.Free.ALB Jvm.Free.JM Jvm.Free
open Jvm.Lib.Cold (StaticIs)
/-- a char array whose places are chars -/
def Ch (a : Addr) (A : Cell) (U : State) : Prop := Arr .char a A U ∧ Typed .char A
theorem Ch.mv {a : Addr} {A : Cell} {U U' : State} (h : Ch a A U) (hal : U.vm.Alike U'.vm) (hh : U'.heap = U.heap) : Ch a A U' := ⟨h.1.mv hal hh, h.2⟩
theorem Ch.keep {a : Addr} {A : Cell} {U U' : State} (h : Ch a A U) (hal : U.vm.Alike U'.vm) (hk : U'.heap[a]? = some A) : Ch a A U' := ⟨h.1.keep hal hk, h.2⟩
/-- what place i of a char[]'s cell holds -/
def cv (A : Cell) (i : Nat) : Int32 := match A.slots[i]? with | some (.int x) => x | _ => 0
theorem Ch.get {a : Addr} {A : Cell} {U : State} (h : Ch a A U) {i : Nat} (hi : i < A.slots.size) : A.slots[i]? = some (.int (cv A i)) := by
  have e := Array.getElem?_eq_getElem hi
  have f := h.2 i _ e
  unfold cv; rw [e]
  generalize A.slots[i] = v at f
  cases v <;> simp [fits] at f ⊢
/-- the byte that i2b leaves of a char -/
def lo8 (x : Int32) : Int32 := x.toInt8.toInt32
theorem fits_lo8 (y : Int32) : fits .byte (.int (lo8 y)) = true := by
  have h1 := y.toInt8.le_toInt
  have h2 := y.toInt8.toInt_lt
  simp only [lo8, fits, Bool.and_eq_true, decide_eq_true_eq, Int32.le_iff_toInt_le, Int8.toInt_toInt32, show (-128 : Int32).toInt = -128 from by decide, show (127 : Int32).toInt = 127 from by decide]
  omega
/-- A' is A but that each place j of lo .. hi - 1 holds f j -/
def Laid (A A' : Cell) (lo hi : Nat) (f : Nat → Value) : Prop := A'.cls = A.cls ∧ A'.vm = A.vm ∧ A'.slots.size = A.slots.size ∧ ∀ i, A'.slots[i]? = if lo ≤ i ∧ i < hi then some (f i) else A.slots[i]?
theorem Laid.zero (A : Cell) (lo : Nat) (f : Nat → Value) : Laid A A lo (lo + 0) f := ⟨rfl, rfl, rfl, fun i => by rw [if_neg (by omega)]⟩
theorem Laid.step {A Ak : Cell} {lo k : Nat} {f : Nat → Value} {v : Value} (h : Laid A Ak lo k f) (hlo : lo ≤ k) (hk : k < Ak.slots.size) (hv : v = f k) : Laid A (Ak.setSlot k v) lo (k + 1) f := by
  refine ⟨h.1, h.2.1, by simpa [Cell.setSlot] using h.2.2.1, fun i => ?_⟩
  by_cases e : k = i
  · subst e; rw [Cell.slots_setSlot_self v hk, if_pos (by omega), hv]
  · rw [Cell.slots_setSlot_ne v e, h.2.2.2 i]
    by_cases q : lo ≤ i ∧ i < k
    · rw [if_pos q, if_pos (by omega)]
    · rw [if_neg q, if_neg (by omega)]
def U16 : String := "java/lang/StringUTF16"
namespace Cmp5
def yN : MethodName := ⟨"java/lang/StringUTF16", "compress", "([CI[BII)I"⟩
abbrev yB : ByteArray := jdk_52_method_21_code
theorem d0 : decode yB 0 = .ok (.iconst 0, 1) := by decide +kernel
theorem d1 : decode yB 1 = .ok (.istore 5, 2) := by decide +kernel
theorem d3 : decode yB 3 = .ok (.iload 5, 2) := by decide +kernel
theorem d5 : decode yB 5 = .ok (.iload 4, 2) := by decide +kernel
theorem d7 : decode yB 7 = .ok (.if_icmp (.ge) 37, 3) := by decide +kernel
theorem d10 : decode yB 10 = .ok (.aload_n 0, 1) := by decide +kernel
theorem d11 : decode yB 11 = .ok (.iload_n 1, 1) := by decide +kernel
theorem d12 : decode yB 12 = .ok (.caload, 1) := by decide +kernel
theorem d13 : decode yB 13 = .ok (.istore 6, 2) := by decide +kernel
theorem d15 : decode yB 15 = .ok (.iload 6, 2) := by decide +kernel
theorem d17 : decode yB 17 = .ok (.sipush 255, 3) := by decide +kernel
theorem d20 : decode yB 20 = .ok (.if_icmp (.le) 6, 3) := by decide +kernel
theorem d26 : decode yB 26 = .ok (.aload_n 2, 1) := by decide +kernel
theorem d27 : decode yB 27 = .ok (.iload_n 3, 1) := by decide +kernel
theorem d28 : decode yB 28 = .ok (.iload 6, 2) := by decide +kernel
theorem d30 : decode yB 30 = .ok (.i2b, 1) := by decide +kernel
theorem d31 : decode yB 31 = .ok (.bastore, 1) := by decide +kernel
theorem d32 : decode yB 32 = .ok (.iinc 1 1, 3) := by decide +kernel
theorem d35 : decode yB 35 = .ok (.iinc 3 1, 3) := by decide +kernel
theorem d38 : decode yB 38 = .ok (.iinc 5 1, 3) := by decide +kernel
theorem d41 : decode yB 41 = .ok (.goto (-38), 3) := by decide +kernel
theorem d44 : decode yB 44 = .ok (.iload 4, 2) := by decide +kernel
theorem d46 : decode yB 46 = .ok (.ireturn, 1) := by decide +kernel
def site : List Cond := []
def tab : Cond := tabOf yN yB 7 (some .int) site
def P (b : Addr) (A : Cell) (d : Addr) (B : Cell) (o q len : Nat) (args : Array Value) (s : State) : Prop := args = #[.ref b, .int (Int32.ofNat o), .ref d, .int (Int32.ofNat q), .int (Int32.ofNat len)] ∧ Ch b A s ∧ Arr .byte d B s ∧ b ≠ d ∧ o + len ≤ A.slots.size ∧ q + len ≤ B.slots.size ∧ ∀ i, i < len → ¬ 255 < cv A (o + i)
def E (b : Addr) (A : Cell) (d : Addr) (B : Cell) (o q len : Nat) (r : Option Value) (s u : State) : Prop := r = some (.int (Int32.ofNat len)) ∧ ∃ B', Put d B' s u ∧ Laid B B' q (q + len) (fun j => Value.int (lo8 (cv A (o + (j - q)))))
/-- no char of the range above 255: len; the places written hold each char's low byte -/
theorem law (l : Launch) (b : Addr) (A : Cell) (d : Addr) (B : Cell) (o q len : Nat) : Law l yN 5 5 0 0 yB 7 (some .int) site (P b A d B o q len) (E b A d B o q len) (copyLocs d q len) 0 0 := by
  refine Law.of_walk (plainFor_of_name (by decide +kernel)) (by decide +kernel) (by decide +kernel) (by decide) (fun _ _ h => by rw [h.1]; rfl) (fun _ U U' hal hh h => ⟨h.1, h.2.1.mv hal hh, h.2.2.1.mv hal hh, h.2.2.2⟩) (fun r U U' V V' h1 hal h2 h => ⟨h.1, h.2.elim fun B' q => ⟨B', q.1.mv h1 h2, q.2⟩⟩) ?_
  intro p e s m args below meth c s₁ X0 hexec hbytes hml hret hlk hnm hown hh0 W hP
  obtain ⟨rfl, hA, hB, hne, l1, l2, hp⟩ := hP
  have c1 : Steps p.tables e below (s₁.setTop (entryFrame m #[.ref b, .int (Int32.ofNat o), .ref d, .int (Int32.ofNat q), .int (Int32.ofNat len)] 7)) (s₁.setTop (mkF m 0 #[.val (.ref b), .val (.int (Int32.ofNat o)), .val (.ref d), .val (.int (Int32.ofNat q)), .val (.int (Int32.ofNat len)), .unset, .unset] [])) := entry rfl
  have hA0 := hA.1.mv X0.warmed.alike hh0
  have hB0 := hB.mv X0.warmed.alike hh0
  have a31 := hA.1.2.2.2
  have c2 : Steps p.tables e below (s₁.setTop (entryFrame m #[.ref b, .int (Int32.ofNat o), .ref d, .int (Int32.ofNat q), .int (Int32.ofNat len)] 7)) (s₁.setTop (mkF m 3 #[.val (.ref b), .val (.int (Int32.ofNat o)), .val (.ref d), .val (.int (Int32.ofNat q)), .val (.int (Int32.ofNat len)), .val (.int 0), .unset] [])) := c1.trans (by
    refine iconstV X0.here hexec rfl 0 (hb hbytes d0) (by decide) ?_
    refine XS.istore X0.here hexec rfl (hb hbytes d1) rfl rfl ?_
    exact Steps.refl _)
  have loop : ∀ (r i : Nat), i + r = len → ∀ (z : Slot), (z = .unset ∨ ∃ w, z = .val w ∧ w.category = 1) → ∀ (Tl : State) (Bk : Cell), Stand p l e { frames := 0, locals := 0, cells := 0, slots := 0 } s m #[.ref b, .int (Int32.ofNat o), .ref d, .int (Int32.ofNat q), .int (Int32.ofNat len)] below meth c Tl ([] ++ copyLocs d q i) 0 0 → Put d Bk s₁ Tl → Laid B Bk q (q + i) (fun j => Value.int (lo8 (cv A (o + (j - q))))) →
      Steps p.tables e below (s₁.setTop (entryFrame m #[.ref b, .int (Int32.ofNat o), .ref d, .int (Int32.ofNat q), .int (Int32.ofNat len)] 7)) (Tl.setTop (mkF m 3 #[.val (.ref b), .val (.int (Int32.ofNat (o + i))), .val (.ref d), .val (.int (Int32.ofNat (q + i))), .val (.int (Int32.ofNat len)), .val (.int (Int32.ofNat i)), z] [])) → ∃ (T' : State) (B' : Cell) (z' : Slot), Stand p l e { frames := 0, locals := 0, cells := 0, slots := 0 } s m #[.ref b, .int (Int32.ofNat o), .ref d, .int (Int32.ofNat q), .int (Int32.ofNat len)] below meth c T' ([] ++ copyLocs d q len) 0 0 ∧ Put d B' s₁ T' ∧ Laid B B' q (q + len) (fun j => Value.int (lo8 (cv A (o + (j - q))))) ∧
      Steps p.tables e below (s₁.setTop (entryFrame m #[.ref b, .int (Int32.ofNat o), .ref d, .int (Int32.ofNat q), .int (Int32.ofNat len)] 7)) (T'.setTop (mkF m 3 #[.val (.ref b), .val (.int (Int32.ofNat (o + len))), .val (.ref d), .val (.int (Int32.ofNat (q + len))), .val (.int (Int32.ofNat len)), .val (.int (Int32.ofNat len)), z'] [])) := by
    intro r
    induction r with
    | zero =>
      intro i hi z hz Tl Bk Xl pl fl cl
      have hil : i = len := by omega
      rw [hil] at Xl fl cl
      exact ⟨Tl, Bk, z, Xl, pl, fl, cl⟩
    | succ r ih =>
      intro i hi z hz Tl Bk Xl pl fl cl
      have all := X0.warmed.alike.symm.trans Xl.warmed.alike
      have hAl := hA0.keep all (pl.other hne hA0.1)
      have hBk := hB0.like all pl.1 fl.1 fl.2.1 fl.2.2.1
      have hlt : q + i < Bk.slots.size := by rw [fl.2.2.1]; omega
      have c3 : Steps p.tables e below (s₁.setTop (entryFrame m #[.ref b, .int (Int32.ofNat o), .ref d, .int (Int32.ofNat q), .int (Int32.ofNat len)] 7)) (Tl.setTop (mkF m 12 #[.val (.ref b), .val (.int (Int32.ofNat (o + i))), .val (.ref d), .val (.int (Int32.ofNat (q + i))), .val (.int (Int32.ofNat len)), .val (.int (Int32.ofNat i)), z] [.int (Int32.ofNat (o + i)), .ref b])) := cl.trans (by
        refine XS.iload Xl.here hexec rfl (hb hbytes d3) rfl ?_
        refine XS.iload Xl.here hexec rfl (hb hbytes d5) rfl ?_
        refine XS.icmpNo Xl.here hexec rfl (hb hbytes d7) rfl (ii_ge_f (lt32 (by omega) (by omega))) ?_
        refine XS.aloadN Xl.here hexec rfl (hb hbytes d10) rfl rfl ?_
        refine XS.iloadN Xl.here hexec rfl (hb hbytes d11) rfl ?_
        exact Steps.refl _)
      have c4 : Steps p.tables e below (s₁.setTop (entryFrame m #[.ref b, .int (Int32.ofNat o), .ref d, .int (Int32.ofNat q), .int (Int32.ofNat len)] 7)) (Tl.setTop (mkF m 13 #[.val (.ref b), .val (.int (Int32.ofNat (o + i))), .val (.ref d), .val (.int (Int32.ofNat (q + i))), .val (.int (Int32.ofNat len)), .val (.int (Int32.ofNat i)), z] [.int (cv A (o + i))])) := c3.trans (by
        refine Xl.aget hexec hAl rfl (hA.get (i := o + i) (by omega)) rfl rfl (hb hbytes d12) ?_
        exact Steps.refl _)
      have c5 : Steps p.tables e below (s₁.setTop (entryFrame m #[.ref b, .int (Int32.ofNat o), .ref d, .int (Int32.ofNat q), .int (Int32.ofNat len)] 7)) (Tl.setTop (mkF m 15 #[.val (.ref b), .val (.int (Int32.ofNat (o + i))), .val (.ref d), .val (.int (Int32.ofNat (q + i))), .val (.int (Int32.ofNat len)), .val (.int (Int32.ofNat i)), .val (.int (cv A (o + i)))] [])) := c4.trans (by
        refine XS.istoreS Xl.here hexec rfl (hb hbytes d13) rfl rfl hz ?_
        exact Steps.refl _)
      have c6 : Steps p.tables e below (s₁.setTop (entryFrame m #[.ref b, .int (Int32.ofNat o), .ref d, .int (Int32.ofNat q), .int (Int32.ofNat len)] 7)) (Tl.setTop (mkF m 31 #[.val (.ref b), .val (.int (Int32.ofNat (o + i))), .val (.ref d), .val (.int (Int32.ofNat (q + i))), .val (.int (Int32.ofNat len)), .val (.int (Int32.ofNat i)), .val (.int (cv A (o + i)))] [.int (lo8 (cv A (o + i))), .int (Int32.ofNat (q + i)), .ref d])) := c5.trans (by
        refine XS.iload Xl.here hexec rfl (hb hbytes d15) rfl ?_
        refine sipushV Xl.here hexec rfl 255 (hb hbytes d17) (by decide) ?_
        refine XS.icmpYes Xl.here hexec rfl (pc0 := 20) rfl (hb hbytes d20) rfl (ii_le_t (hp i (by omega))) (by decide) rfl ?_
        refine XS.aloadN Xl.here hexec rfl (hb hbytes d26) rfl rfl ?_
        refine XS.iloadN Xl.here hexec rfl (hb hbytes d27) rfl ?_
        refine XS.iload Xl.here hexec rfl (hb hbytes d28) rfl ?_
        refine i2b Xl.here hexec rfl (hb hbytes d30) rfl ?_
        exact Steps.refl _)
      obtain ⟨T7, X7, p7, st7⟩ := Xl.aput hexec hBk rfl hlt rfl (fits_lo8 (cv A (o + i))) (g := (mkF m 31 #[.val (.ref b), .val (.int (Int32.ofNat (o + i))), .val (.ref d), .val (.int (Int32.ofNat (q + i))), .val (.int (Int32.ofNat len)), .val (.int (Int32.ofNat i)), .val (.int (cv A (o + i)))] [.int (lo8 (cv A (o + i))), .int (Int32.ofNat (q + i)), .ref d])) rfl (rest := []) rfl (hb hbytes d31)
      have c8 : Steps p.tables e below (s₁.setTop (entryFrame m #[.ref b, .int (Int32.ofNat o), .ref d, .int (Int32.ofNat q), .int (Int32.ofNat len)] 7)) (T7.setTop (mkF m 32 #[.val (.ref b), .val (.int (Int32.ofNat (o + i))), .val (.ref d), .val (.int (Int32.ofNat (q + i))), .val (.int (Int32.ofNat len)), .val (.int (Int32.ofNat i)), .val (.int (cv A (o + i)))] [])) := c6.trans (st7 _ (Steps.refl _))
      have c9 : Steps p.tables e below (s₁.setTop (entryFrame m #[.ref b, .int (Int32.ofNat o), .ref d, .int (Int32.ofNat q), .int (Int32.ofNat len)] 7)) (T7.setTop (mkF m 3 #[.val (.ref b), .val (.int (Int32.ofNat (o + i) + 1)), .val (.ref d), .val (.int (Int32.ofNat (q + i) + 1)), .val (.int (Int32.ofNat len)), .val (.int (Int32.ofNat i + 1)), .val (.int (cv A (o + i)))] [])) := c8.trans (by
        refine iincV X7.here hexec rfl 1 (hb hbytes d32) (by decide) rfl rfl ?_
        refine iincV X7.here hexec rfl 1 (hb hbytes d35) (by decide) rfl rfl ?_
        refine iincV X7.here hexec rfl 1 (hb hbytes d38) (by decide) rfl rfl ?_
        refine XS.goto X7.here hexec rfl (pc0 := 41) rfl (hb hbytes d41) (by decide) rfl ?_
        exact Steps.refl _)
      have c10 : Steps p.tables e below (s₁.setTop (entryFrame m #[.ref b, .int (Int32.ofNat o), .ref d, .int (Int32.ofNat q), .int (Int32.ofNat len)] 7)) (T7.setTop (mkF m 3 #[.val (.ref b), .val (.int (Int32.ofNat (o + (i + 1)))), .val (.ref d), .val (.int (Int32.ofNat (q + (i + 1)))), .val (.int (Int32.ofNat len)), .val (.int (Int32.ofNat (i + 1))), .val (.int (cv A (o + i)))] [])) := by
        have := c9
        rw [succ32, succ32, succ32] at this
        exact this
      exact ih (i + 1) (by omega) _ (Or.inr ⟨_, rfl, rfl⟩) T7 _ (by rw [copyLocs_step, ← List.append_assoc]; exact X7) (pl.trans p7) (fl.step (by omega) hlt (by simp)) c10
  obtain ⟨T9, B9, z9, X9, p9, f9, g9⟩ := loop len 0 (by omega) .unset (Or.inl rfl) s₁ B (by simpa [copyLocs] using X0) ⟨hB0.1, fun _ _ => rfl, rfl⟩ (Laid.zero _ _ _) c2
  have c11 : Steps p.tables e below (s₁.setTop (entryFrame m #[.ref b, .int (Int32.ofNat o), .ref d, .int (Int32.ofNat q), .int (Int32.ofNat len)] 7)) (T9.setTop (mkF m 46 #[.val (.ref b), .val (.int (Int32.ofNat (o + len))), .val (.ref d), .val (.int (Int32.ofNat (q + len))), .val (.int (Int32.ofNat len)), .val (.int (Int32.ofNat len)), z9] [.int (Int32.ofNat len)])) := g9.trans (by
    refine XS.iload X9.here hexec rfl (hb hbytes d3) rfl ?_
    refine XS.iload X9.here hexec rfl (hb hbytes d5) rfl ?_
    refine XS.icmpYes X9.here hexec rfl (pc0 := 7) rfl (hb hbytes d7) rfl (ii_ge_t (nlt32 (by omega) (Nat.le_refl _))) (by decide) rfl ?_
    refine XS.iload X9.here hexec rfl (hb hbytes d44) rfl ?_
    exact Steps.refl _)
  exact ⟨T9, some (.int (Int32.ofNat len)), _, _, _, X9, by simp, rfl, rfl, (fun h => by cases h), ⟨rfl, B9, p9.from hh0, f9⟩, fun fs hl => c11.trans (X9.ireturnOut hexec hret rfl (Or.inl rfl) (hb hbytes d46) hl)⟩
end Cmp5
namespace Cmp3
def yN : MethodName := ⟨"java/lang/StringUTF16", "compress", "([CII)[B"⟩
abbrev yB : ByteArray := jdk_52_method_16_code
theorem d0 : decode yB 0 = .ok (.iload_n 2, 1) := by decide +kernel
theorem d1 : decode yB 1 = .ok (.newarray .byte, 2) := by decide +kernel
theorem d3 : decode yB 3 = .ok (.astore_n 3, 1) := by decide +kernel
theorem d4 : decode yB 4 = .ok (.aload_n 0, 1) := by decide +kernel
theorem d5 : decode yB 5 = .ok (.iload_n 1, 1) := by decide +kernel
theorem d6 : decode yB 6 = .ok (.aload_n 3, 1) := by decide +kernel
theorem d7 : decode yB 7 = .ok (.iconst 0, 1) := by decide +kernel
theorem d8 : decode yB 8 = .ok (.iload_n 2, 1) := by decide +kernel
theorem d9 : decode yB 9 = .ok (.invokestatic 115, 3) := by decide +kernel
theorem d12 : decode yB 12 = .ok (.istore 4, 2) := by decide +kernel
theorem d14 : decode yB 14 = .ok (.iload 4, 2) := by decide +kernel
theorem d16 : decode yB 16 = .ok (.iload_n 2, 1) := by decide +kernel
theorem d17 : decode yB 17 = .ok (.if_icmp (.eq) 40, 3) := by decide +kernel
theorem d57 : decode yB 57 = .ok (.aload_n 3, 1) := by decide +kernel
theorem d58 : decode yB 58 = .ok (.areturn, 1) := by decide +kernel
def site : List Cond := [.arrayClass .byte, Cmp5.tab] ++ staticW U16 115 Cmp5.yN
def tab : Cond := tabOf yN yB 6 (some (.array .byte)) site
def P (b : Addr) (A : Cell) (o len : Nat) (args : Array Value) (s : State) : Prop := args = #[.ref b, .int (Int32.ofNat o), .int (Int32.ofNat len)] ∧ Ch b A s ∧ o + len ≤ A.slots.size ∧ len ≤ 536870912 ∧ ∀ i, i < len → ¬ 255 < cv A (o + i)
def E (b : Addr) (A : Cell) (o len : Nat) (r : Option Value) (s u : State) : Prop := NewArr .byte "[B" len (fun j => .int (lo8 (cv A (o + j)))) r s u ∧ u.heap.size = s.heap.size + 1
/-- no char of the range above 255: a new byte[] of their low bytes -/
theorem law (l : Launch) (b : Addr) (A : Cell) (o len : Nat) : Law l yN 3 3 1 18 yB 6 (some (.array .byte)) site (P b A o len) (E b A o len) [] 1 len := by
  refine Law.of_walk (plainFor_of_name (by decide +kernel)) (by decide +kernel) (by decide +kernel) (by decide) (fun _ _ h => by rw [h.1]; rfl) (fun _ U U' hal hh h => ⟨h.1, h.2.1.mv hal hh, h.2.2⟩) (fun r U U' V V' h1 hal h2 h => ⟨NewArr.mv r U U' V V' h1 hal h2 h.1, by rw [h1, h2]; exact h.2⟩) ?_
  intro p e s m args below meth c s₁ X0 hexec hbytes hml hret hlk hnm hown hh0 W hP
  obtain ⟨rfl, hA, l1, l2, hp⟩ := hP
  have a31 := hA.1.2.2.2
  have c1 : Steps p.tables e below (s₁.setTop (entryFrame m #[.ref b, .int (Int32.ofNat o), .int (Int32.ofNat len)] 6)) (s₁.setTop (mkF m 0 #[.val (.ref b), .val (.int (Int32.ofNat o)), .val (.int (Int32.ofNat len)), .unset, .unset, .unset] [])) := entry rfl
  have c2 : Steps p.tables e below (s₁.setTop (entryFrame m #[.ref b, .int (Int32.ofNat o), .int (Int32.ofNat len)] 6)) (s₁.setTop (mkF m 1 #[.val (.ref b), .val (.int (Int32.ofNat o)), .val (.int (Int32.ofNat len)), .unset, .unset, .unset] [.int (Int32.ofNat len)])) := c1.trans (by
    refine XS.iloadN X0.here hexec rfl (hb hbytes d0) rfl ?_
    exact Steps.refl _)
  obtain ⟨T3, B3, X3, ba3, bs3, bv3, bh3, bf3, st3⟩ := X0.anew hexec (atype := .byte) (wk W (.arrayClass .byte)) rfl (by show len * 1 ≤ _; omega) (by omega) (g := (mkF m 1 #[.val (.ref b), .val (.int (Int32.ofNat o)), .val (.int (Int32.ofNat len)), .unset, .unset, .unset] [.int (Int32.ofNat len)])) rfl (hb hbytes d1) (rest := []) rfl (Nat.le_refl _) (by show 0 + len ≤ len; omega)
  rw [hh0] at ba3 st3
  have kp3 : XT.Kept s T3 := (XT.Kept.of_eq hh0).push bh3
  have hA3 := hA.keep X3.warmed.alike (kp3 _ _ hA.1.1)
  have hne : b ≠ s.heap.size := hA.1.ne
  have c4 : Steps p.tables e below (s₁.setTop (entryFrame m #[.ref b, .int (Int32.ofNat o), .int (Int32.ofNat len)] 6)) (T3.setTop (mkF m 3 #[.val (.ref b), .val (.int (Int32.ofNat o)), .val (.int (Int32.ofNat len)), .unset, .unset, .unset] [.ref s.heap.size])) := c2.trans (st3 _ (Steps.refl _))
  have c5 : Steps p.tables e below (s₁.setTop (entryFrame m #[.ref b, .int (Int32.ofNat o), .int (Int32.ofNat len)] 6)) (T3.setTop (mkF m 9 #[.val (.ref b), .val (.int (Int32.ofNat o)), .val (.int (Int32.ofNat len)), .val (.ref s.heap.size), .unset, .unset] [.int (Int32.ofNat len), .int 0, .ref s.heap.size, .int (Int32.ofNat o), .ref b])) := c4.trans (by
    refine XS.astoreN X3.here hexec rfl (hb hbytes d3) rfl rfl rfl ?_
    refine XS.aloadN X3.here hexec rfl (hb hbytes d4) rfl rfl ?_
    refine XS.iloadN X3.here hexec rfl (hb hbytes d5) rfl ?_
    refine XS.aloadN X3.here hexec rfl (hb hbytes d6) rfl rfl ?_
    refine iconstV X3.here hexec rfl 0 (hb hbytes d7) (by decide) ?_
    refine XS.iloadN X3.here hexec rfl (hb hbytes d8) rfl ?_
    exact Steps.refl _)
  obtain ⟨v6, T6, X6, E6, g6⟩ := X3.callS hexec (Cmp5.law l b A s.heap.size B3 o 0 len) hown (wks W (staticW U16 115 Cmp5.yN)) (wk W Cmp5.tab) (W := 0) (Nat.le_of_ble_eq_true rfl) (Nat.le_of_ble_eq_true rfl) (Nat.le_refl _) (by show 0 + len + 0 ≤ len; omega) (g := (mkF m 9 #[.val (.ref b), .val (.int (Int32.ofNat o)), .val (.int (Int32.ofNat len)), .val (.ref s.heap.size), .unset, .unset] [.int (Int32.ofNat len), .int (Int32.ofNat 0), .ref s.heap.size, .int (Int32.ofNat o), .ref b])) rfl (by rw [hml]; rfl) c5 (argsL := [.ref b, .int (Int32.ofNat o), .ref s.heap.size, .int (Int32.ofNat 0), .int (Int32.ofNat len)]) (rest := []) rfl rfl (by show 2 * 0 + 0 ≤ _; decide) (hb hbytes d9) (⟨rfl, hA3, ba3, hne, l1, by rw [bs3]; simp, hp⟩)
  obtain ⟨rfl, B6, p6, f6⟩ := E6
  have c7 : Steps p.tables e below (s₁.setTop (entryFrame m #[.ref b, .int (Int32.ofNat o), .int (Int32.ofNat len)] 6)) (T6.setTop (mkF m 12 #[.val (.ref b), .val (.int (Int32.ofNat o)), .val (.int (Int32.ofNat len)), .val (.ref s.heap.size), .unset, .unset] [.int (Int32.ofNat len)])) := g6
  have c8 : Steps p.tables e below (s₁.setTop (entryFrame m #[.ref b, .int (Int32.ofNat o), .int (Int32.ofNat len)] 6)) (T6.setTop (mkF m 58 #[.val (.ref b), .val (.int (Int32.ofNat o)), .val (.int (Int32.ofNat len)), .val (.ref s.heap.size), .val (.int (Int32.ofNat len)), .unset] [.ref s.heap.size])) := c7.trans (by
    refine XS.istore X6.here hexec rfl (hb hbytes d12) rfl rfl ?_
    refine XS.iload X6.here hexec rfl (hb hbytes d14) rfl ?_
    refine XS.iloadN X6.here hexec rfl (hb hbytes d16) rfl ?_
    refine XS.icmpYes X6.here hexec rfl (pc0 := 17) rfl (hb hbytes d17) rfl (ii_eq_t rfl) (by decide) rfl ?_
    refine XS.aloadN X6.here hexec rfl (hb hbytes d57) rfl rfl ?_
    exact Steps.refl _)
  have X8 := X6.wide (L' := []) (cells' := 1) (slots' := len) (fun x hx hlt => by
    simp only [List.nil_append, copyLocs, List.mem_map, List.mem_range] at hx
    obtain ⟨i, -, rfl⟩ := hx
    exact absurd hlt (Nat.lt_irrefl _)) (Nat.le_refl _) (by omega)
  exact ⟨T6, some (.ref s.heap.size), _, _, _, X8, rfl, rfl, rfl, (fun h => by cases h), ⟨⟨rfl, B6, ba3.like (X3.warmed.alike.symm.trans X6.warmed.alike) p6.1 f6.1 f6.2.1 f6.2.2.1, f6.2.1.trans bv3, by rw [X6.warmed.alike.findClass, f6.1]; exact bf3, by rw [f6.2.2.1, bs3]; simp, fun j hj => by rw [f6.2.2.2 j, if_pos (by omega)]; rfl, kp3.put p6 (Nat.le_refl _)⟩, by rw [p6.2.2, bh3, hh0]; simp⟩, fun fs hl => c8.trans (X8.areturnOut hexec rfl hret rfl (hb hbytes d58) hl)⟩
end Cmp3
namespace CodL
def yN : MethodName := ⟨"java/lang/StringUTF16", "coderFromArrayLen", "([BI)B"⟩
abbrev yB : ByteArray := jdk_52_method_15_code
theorem d0 : decode yB 0 = .ok (.iload_n 1, 1) := by decide +kernel
theorem d1 : decode yB 1 = .ok (.aload_n 0, 1) := by decide +kernel
theorem d2 : decode yB 2 = .ok (.arraylength, 1) := by decide +kernel
theorem d3 : decode yB 3 = .ok (.isub, 1) := by decide +kernel
theorem d4 : decode yB 4 = .ok (.bipush 31, 2) := by decide +kernel
theorem d6 : decode yB 6 = .ok (.iushr, 1) := by decide +kernel
theorem d7 : decode yB 7 = .ok (.i2b, 1) := by decide +kernel
theorem d8 : decode yB 8 = .ok (.ireturn, 1) := by decide +kernel
def site : List Cond := []
def tab : Cond := tabOf yN yB 2 (some .byte) site
def P (d : Addr) (B : Cell) (args : Array Value) (s : State) : Prop := args = #[.ref d, .int (Int32.ofNat B.slots.size)] ∧ Arr .byte d B s
def E (r : Option Value) (s u : State) : Prop := XT.PureE (some (.int 0)) r s u
/-- an array as long as the number of chars: LATIN1 -/
theorem law (l : Launch) (d : Addr) (B : Cell) : Law l yN 2 2 0 0 yB 2 (some .byte) site (P d B) E [] 0 0 := by
  refine Law.of_walk (plainFor_of_name (by decide +kernel)) (by decide +kernel) (by decide +kernel) (by decide) (fun _ _ h => by rw [h.1]; rfl) (fun _ U U' hal hh h => ⟨h.1, h.2.mv hal hh⟩) (fun r U U' V V' h1 hal h2 h => XT.PureE.mv r U U' V V' h1 hal h2 h) ?_
  intro p e s m args below meth c s₁ X0 hexec hbytes hml hret hlk hnm hown hh0 W hP
  obtain ⟨rfl, hB⟩ := hP
  have hB0 := hB.mv X0.warmed.alike hh0
  have c1 : Steps p.tables e below (s₁.setTop (entryFrame m #[.ref d, .int (Int32.ofNat B.slots.size)] 2)) (s₁.setTop (mkF m 0 #[.val (.ref d), .val (.int (Int32.ofNat B.slots.size))] [])) := entry rfl
  have c2 : Steps p.tables e below (s₁.setTop (entryFrame m #[.ref d, .int (Int32.ofNat B.slots.size)] 2)) (s₁.setTop (mkF m 2 #[.val (.ref d), .val (.int (Int32.ofNat B.slots.size))] [.ref d, .int (Int32.ofNat B.slots.size)])) := c1.trans (by
    refine XS.iloadN X0.here hexec rfl (hb hbytes d0) rfl ?_
    refine XS.aloadN X0.here hexec rfl (hb hbytes d1) rfl rfl ?_
    exact Steps.refl _)
  have c3 : Steps p.tables e below (s₁.setTop (entryFrame m #[.ref d, .int (Int32.ofNat B.slots.size)] 2)) (s₁.setTop (mkF m 8 #[.val (.ref d), .val (.int (Int32.ofNat B.slots.size))] [.int (lo8 (ushr (Int32.ofNat B.slots.size - Int32.ofNat B.slots.size) 31))])) := c2.trans (by
    refine X0.alen hexec hB0 rfl rfl (hb hbytes d2) ?_
    refine XS.isub X0.here hexec rfl (hb hbytes d3) rfl ?_
    refine bipushV X0.here hexec rfl 31 (hb hbytes d4) (by decide) ?_
    refine iushr X0.here hexec rfl (hb hbytes d6) rfl ?_
    refine i2b X0.here hexec rfl (hb hbytes d7) rfl ?_
    exact Steps.refl _)
  have e0 : lo8 (ushr (Int32.ofNat B.slots.size - Int32.ofNat B.slots.size) 31) = 0 := by rw [Int32.sub_self]; decide
  rw [e0] at c3
  exact ⟨s₁, some (.int 0), _, _, _, X0, rfl, rfl, rfl, (fun h => by cases h), ⟨rfl, hh0⟩, fun fs hl => c3.trans (X0.ireturnOut hexec hret rfl (Or.inr (Or.inr (Or.inl rfl))) (hb hbytes d8) hl)⟩
end CodL
/-- the String at a is Latin-1 over a new byte[] (the heap's one new cell): the low bytes of the len chars of A from o on; every cell but a is kept -/
def Got (a : Addr) (D : Cell) (fV fC : Field) (A : Cell) (o len : Nat) (r : Option Value) (s u : State) : Prop := r = none ∧ ∃ D' V : Cell, Blank "java/lang/String" a D' u ∧ Same D D' [fV.slot, fC.slot] ∧ D'.slots[fV.slot]? = some (.ref s.heap.size) ∧ D'.slots[fC.slot]? = some (.int 0) ∧ Arr .byte s.heap.size V u ∧ V.vm = .none ∧ u.vm.findClass "[B" = some V.cls ∧ V.slots.size = len ∧ (∀ j, j < len → V.slots[j]? = some (.int (lo8 (cv A (o + j))))) ∧ (∀ (y : Addr) (c : Cell), y ≠ a → s.heap[y]? = some c → u.heap[y]? = some c) ∧ u.heap.size = s.heap.size + 1
theorem Got.mv {a : Addr} {D A : Cell} {fV fC : Field} {o len : Nat} : ∀ r (U U' V V' : State), U'.heap = U.heap → V.vm.Alike V'.vm → V'.heap = V.heap → Got a D fV fC A o len r U V → Got a D fV fC A o len r U' V' :=
  fun r U U' V V' h1 hal h2 ⟨e0, D', X, a1, a2, a3, a4, a5, a6, a7, a8, a9, a10, a11⟩ => ⟨e0, D', X, a1.mv hal h2, a2, by rw [h1]; exact a3, a4, by rw [h1]; exact a5.mv hal h2, a6, by rw [hal.findClass]; exact a7, a8, a9, by rw [h1, h2]; exact a10, by rw [h1, h2]; exact a11⟩
namespace New4
def yN : MethodName := ⟨"java/lang/String", "<init>", "([CIILjava/lang/Void;)V"⟩
abbrev yB : ByteArray := jdk_42_method_149_code
theorem d0 : decode yB 0 = .ok (.aload_n 0, 1) := by decide +kernel
theorem d1 : decode yB 1 = .ok (.invokespecial 1, 3) := by decide +kernel
theorem d4 : decode yB 4 = .ok (.iload_n 3, 1) := by decide +kernel
theorem d5 : decode yB 5 = .ok (.ifCond (.ne) 22, 3) := by decide +kernel
theorem d27 : decode yB 27 = .ok (.getstatic 38, 3) := by decide +kernel
theorem d30 : decode yB 30 = .ok (.ifCond (.eq) 28, 3) := by decide +kernel
theorem d33 : decode yB 33 = .ok (.aload_n 1, 1) := by decide +kernel
theorem d34 : decode yB 34 = .ok (.iload_n 2, 1) := by decide +kernel
theorem d35 : decode yB 35 = .ok (.iload_n 3, 1) := by decide +kernel
theorem d36 : decode yB 36 = .ok (.invokestatic 177, 3) := by decide +kernel
theorem d39 : decode yB 39 = .ok (.astore 5, 2) := by decide +kernel
theorem d41 : decode yB 41 = .ok (.aload_n 0, 1) := by decide +kernel
theorem d42 : decode yB 42 = .ok (.aload 5, 2) := by decide +kernel
theorem d44 : decode yB 44 = .ok (.iload_n 3, 1) := by decide +kernel
theorem d45 : decode yB 45 = .ok (.invokestatic 47, 3) := by decide +kernel
theorem d48 : decode yB 48 = .ok (.putfield 15, 3) := by decide +kernel
theorem d51 : decode yB 51 = .ok (.aload_n 0, 1) := by decide +kernel
theorem d52 : decode yB 52 = .ok (.aload 5, 2) := by decide +kernel
theorem d54 : decode yB 54 = .ok (.putfield 9, 3) := by decide +kernel
theorem d57 : decode yB 57 = .ok (.return_, 1) := by decide +kernel
def site : List Cond := [.fieldLink "java/lang/String" 38 "java/lang/String" "COMPACT_STRINGS" "Z", Cmp3.tab, CodL.tab, .laysFinal "java/lang/String" "java/lang/String" "value" "[B", .fieldLink "java/lang/String" 9 "java/lang/String" "value" "[B", .laysFinal "java/lang/String" "java/lang/String" "coder" "B", .fieldLink "java/lang/String" 15 "java/lang/String" "coder" "B"] ++ objW "java/lang/String" 1 ++ staticW "java/lang/String" 177 Cmp3.yN ++ staticW "java/lang/String" 47 CodL.yN
def tab : Cond := tabOf yN yB 6 none site
def P (a : Addr) (D : Cell) (fV fC : Field) (b : Addr) (A : Cell) (z : Int32) (o len : Nat) (args : Array Value) (s : State) : Prop := args = #[.ref a, .ref b, .int (Int32.ofNat o), .int (Int32.ofNat len), .null] ∧ Blank "java/lang/String" a D s ∧ Found "java/lang/String" "value" "[B" fV s ∧ Found "java/lang/String" "coder" "B" fC s ∧ Ch b A s ∧ StaticIs s "java/lang/String" "COMPACT_STRINGS" "Z" (.int z) ∧ ¬ z = 0 ∧ 0 < len ∧ o + len ≤ A.slots.size ∧ len ≤ 536870912 ∧ ∀ i, i < len → ¬ 255 < cv A (o + i)
def E (a : Addr) (D : Cell) (fV fC : Field) (A : Cell) (o len : Nat) (r : Option Value) (s u : State) : Prop := Got a D fV fC A o len r s u
/-- len > 0, no char of the range above 255: a Latin-1 String of their low bytes -/
theorem law (l : Launch) (a : Addr) (D : Cell) (fV fC : Field) (b : Addr) (A : Cell) (z : Int32) (o len : Nat) : Law l yN 5 4 2 35 yB 6 none site (P a D fV fC b A z o len) (E a D fV fC A o len) [⟨a, fC.slot⟩, ⟨a, fV.slot⟩] 1 len := by
  refine Law.of_walk (plainFor_of_name (by decide +kernel)) (by decide +kernel) (by decide +kernel) (by decide) (fun _ _ h => by rw [h.1]; rfl) (fun _ U U' hal hh h => ⟨h.1, h.2.1.mv hal hh, h.2.2.1.al hal, h.2.2.2.1.al hal, h.2.2.2.2.1.mv hal hh, h.2.2.2.2.2.1.there hal hh, h.2.2.2.2.2.2⟩) (fun r U U' V V' h1 hal h2 h => Got.mv r U U' V V' h1 hal h2 h) ?_
  intro p e s m args below meth c s₁ X0 hexec hbytes hml hret hlk hnm hown hh0 W hP
  obtain ⟨rfl, hB, f1, f2, hA, s1, hz, l0, l1, l2, hp⟩ := hP
  have a31 := hA.1.2.2.2
  have c1 : Steps p.tables e below (s₁.setTop (entryFrame m #[.ref a, .ref b, .int (Int32.ofNat o), .int (Int32.ofNat len), .null] 6)) (s₁.setTop (mkF m 0 #[.val (.ref a), .val (.ref b), .val (.int (Int32.ofNat o)), .val (.int (Int32.ofNat len)), .val .null, .unset] [])) := entry rfl
  have c2 : Steps p.tables e below (s₁.setTop (entryFrame m #[.ref a, .ref b, .int (Int32.ofNat o), .int (Int32.ofNat len), .null] 6)) (s₁.setTop (mkF m 1 #[.val (.ref a), .val (.ref b), .val (.int (Int32.ofNat o)), .val (.int (Int32.ofNat len)), .val .null, .unset] [.ref a])) := c1.trans (by
    refine XS.aloadN X0.here hexec rfl (hb hbytes d0) rfl rfl ?_
    exact Steps.refl _)
  obtain ⟨T3, X3, q3, st3⟩ := X0.oinit hexec hown (wks W (objW "java/lang/String" 1)) (g := (mkF m 1 #[.val (.ref a), .val (.ref b), .val (.int (Int32.ofNat o)), .val (.int (Int32.ofNat len)), .val .null, .unset] [.ref a])) rfl (by rw [hml]; rfl) (rest := []) rfl (hb hbytes d1) (W := 0) (by show 2 * 0 + 0 ≤ _; decide) (Nat.le_of_ble_eq_true rfl) (Nat.le_of_ble_eq_true rfl)
  have hh3 := q3.trans hh0
  have c4 : Steps p.tables e below (s₁.setTop (entryFrame m #[.ref a, .ref b, .int (Int32.ofNat o), .int (Int32.ofNat len), .null] 6)) (T3.setTop (mkF m 27 #[.val (.ref a), .val (.ref b), .val (.int (Int32.ofNat o)), .val (.int (Int32.ofNat len)), .val .null, .unset] [])) := (c2.trans (st3 _ (Steps.refl _))).trans (by
    refine XS.iloadN X3.here hexec rfl (hb hbytes d4) rfl ?_
    refine XS.ifYes X3.here hexec rfl (pc0 := 5) rfl (hb hbytes d5) rfl (i0_ne_t (nz32 (by omega) l0)) (by decide) rfl ?_
    exact Steps.refl _)
  obtain ⟨T5, X5, q5, st5⟩ := X3.sget hexec hown (wk W (.fieldLink "java/lang/String" 38 "java/lang/String" "COMPACT_STRINGS" "Z")) s1 (fun _ _ h => by rw [hh3]; exact h) (g := (mkF m 27 #[.val (.ref a), .val (.ref b), .val (.int (Int32.ofNat o)), .val (.int (Int32.ofNat len)), .val .null, .unset] [])) rfl (hb hbytes d27)
  have hh5 := q5.trans hh3
  have c6 : Steps p.tables e below (s₁.setTop (entryFrame m #[.ref a, .ref b, .int (Int32.ofNat o), .int (Int32.ofNat len), .null] 6)) (T5.setTop (mkF m 30 #[.val (.ref a), .val (.ref b), .val (.int (Int32.ofNat o)), .val (.int (Int32.ofNat len)), .val .null, .unset] [.int z])) := c4.trans (st5 _ (Steps.refl _))
  have c7 : Steps p.tables e below (s₁.setTop (entryFrame m #[.ref a, .ref b, .int (Int32.ofNat o), .int (Int32.ofNat len), .null] 6)) (T5.setTop (mkF m 36 #[.val (.ref a), .val (.ref b), .val (.int (Int32.ofNat o)), .val (.int (Int32.ofNat len)), .val .null, .unset] [.int (Int32.ofNat len), .int (Int32.ofNat o), .ref b])) := c6.trans (by
    refine XS.ifNo X5.here hexec rfl (hb hbytes d30) rfl (i0_eq_f hz) ?_
    refine XS.aloadN X5.here hexec rfl (hb hbytes d33) rfl rfl ?_
    refine XS.iloadN X5.here hexec rfl (hb hbytes d34) rfl ?_
    refine XS.iloadN X5.here hexec rfl (hb hbytes d35) rfl ?_
    exact Steps.refl _)
  obtain ⟨v8, T8, X8, E8, g8⟩ := X5.callS hexec (Cmp3.law l b A o len) hown (wks W (staticW "java/lang/String" 177 Cmp3.yN)) (wk W Cmp3.tab) (W := 0) (Nat.le_of_ble_eq_true rfl) (Nat.le_of_ble_eq_true rfl) (Nat.le_refl _) (by show 0 + len ≤ len; omega) (g := (mkF m 36 #[.val (.ref a), .val (.ref b), .val (.int (Int32.ofNat o)), .val (.int (Int32.ofNat len)), .val .null, .unset] [.int (Int32.ofNat len), .int (Int32.ofNat o), .ref b])) rfl (by rw [hml]; rfl) c7 (argsL := [.ref b, .int (Int32.ofNat o), .int (Int32.ofNat len)]) (rest := []) rfl rfl (by show 2 * 0 + 0 ≤ _; decide) (hb hbytes d36) (⟨rfl, hA.mv X5.warmed.alike hh5, l1, l2, hp⟩)
  obtain ⟨e8, z8⟩ := E8
  obtain ⟨rfl, N, n1, n2, n3, n4, n5, n6⟩ := NewArr.mv _ T5 s _ _ hh5.symm (Vm.Alike.refl _) rfl e8
  rw [hh5] at z8
  have hB1 := hB.keep X8.warmed.alike (n6 _ _ hB.1)
  have hne : s.heap.size ≠ a := (Nat.ne_of_lt (Array.getElem?_eq_some_iff.mp hB.1).1).symm
  have c9 : Steps p.tables e below (s₁.setTop (entryFrame m #[.ref a, .ref b, .int (Int32.ofNat o), .int (Int32.ofNat len), .null] 6)) (T8.setTop (mkF m 39 #[.val (.ref a), .val (.ref b), .val (.int (Int32.ofNat o)), .val (.int (Int32.ofNat len)), .val .null, .unset] [.ref s.heap.size])) := g8
  have c10 : Steps p.tables e below (s₁.setTop (entryFrame m #[.ref a, .ref b, .int (Int32.ofNat o), .int (Int32.ofNat len), .null] 6)) (T8.setTop (mkF m 45 #[.val (.ref a), .val (.ref b), .val (.int (Int32.ofNat o)), .val (.int (Int32.ofNat len)), .val .null, .val (.ref s.heap.size)] [.int (Int32.ofNat N.slots.size), .ref s.heap.size, .ref a])) := by
    have hc : Steps p.tables e below (s₁.setTop (entryFrame m #[.ref a, .ref b, .int (Int32.ofNat o), .int (Int32.ofNat len), .null] 6)) (T8.setTop (mkF m 45 #[.val (.ref a), .val (.ref b), .val (.int (Int32.ofNat o)), .val (.int (Int32.ofNat len)), .val .null, .val (.ref s.heap.size)] [.int (Int32.ofNat len), .ref s.heap.size, .ref a])) := c9.trans (by
      refine XS.astore X8.here hexec rfl (hb hbytes d39) rfl rfl rfl ?_
      refine XS.aloadN X8.here hexec rfl (hb hbytes d41) rfl rfl ?_
      refine XS.aload X8.here hexec rfl (hb hbytes d42) rfl rfl ?_
      refine XS.iloadN X8.here hexec rfl (hb hbytes d44) rfl ?_
      exact Steps.refl _)
    rw [n4]; exact hc
  obtain ⟨v11, T11, X11, E11, g11⟩ := X8.callS hexec (CodL.law l s.heap.size N) hown (wks W (staticW "java/lang/String" 47 CodL.yN)) (wk W CodL.tab) (W := 1) (Nat.le_of_ble_eq_true rfl) (Nat.le_of_ble_eq_true rfl) (Nat.le_refl _) (by show 0 + len + 0 ≤ len; omega) (g := (mkF m 45 #[.val (.ref a), .val (.ref b), .val (.int (Int32.ofNat o)), .val (.int (Int32.ofNat len)), .val .null, .val (.ref s.heap.size)] [.int (Int32.ofNat N.slots.size), .ref s.heap.size, .ref a])) rfl (by rw [hml]; rfl) c10 (argsL := [.ref s.heap.size, .int (Int32.ofNat N.slots.size)]) (rest := [.ref a]) rfl rfl (by show 2 * 0 + (1 + 0) ≤ _; decide) (hb hbytes d45) (⟨rfl, n1⟩)
  obtain ⟨rfl, q11⟩ := E11
  have hB11 := hB1.mv (X8.warmed.alike.symm.trans X11.warmed.alike) q11
  have c12 : Steps p.tables e below (s₁.setTop (entryFrame m #[.ref a, .ref b, .int (Int32.ofNat o), .int (Int32.ofNat len), .null] 6)) (T11.setTop (mkF m 48 #[.val (.ref a), .val (.ref b), .val (.int (Int32.ofNat o)), .val (.int (Int32.ofNat len)), .val .null, .val (.ref s.heap.size)] [.int 0, .ref a])) := g11
  obtain ⟨T13, X13, p13, bl13, sl13, st13⟩ := X11.finit hexec hown (wk W (.fieldLink "java/lang/String" 15 "java/lang/String" "coder" "B")) (Or.inr ⟨_, (wk W (.laysFinal "java/lang/String" "java/lang/String" "coder" "B"))⟩) (Or.inl ⟨rfl, hnm⟩) f2 (Or.inl rfl) hB11 (t := .byte) (by decide +kernel) rfl (g := (mkF m 48 #[.val (.ref a), .val (.ref b), .val (.int (Int32.ofNat o)), .val (.int (Int32.ofNat len)), .val .null, .val (.ref s.heap.size)] [.int 0, .ref a])) rfl (rest := []) rfl (hb hbytes d48)
  have c14 : Steps p.tables e below (s₁.setTop (entryFrame m #[.ref a, .ref b, .int (Int32.ofNat o), .int (Int32.ofNat len), .null] 6)) (T13.setTop (mkF m 54 #[.val (.ref a), .val (.ref b), .val (.int (Int32.ofNat o)), .val (.int (Int32.ofNat len)), .val .null, .val (.ref s.heap.size)] [.ref s.heap.size, .ref a])) := (c12.trans (st13 _ (Steps.refl _))).trans (by
    refine XS.aloadN X13.here hexec rfl (hb hbytes d51) rfl rfl ?_
    refine XS.aload X13.here hexec rfl (hb hbytes d52) rfl rfl ?_
    exact Steps.refl _)
  obtain ⟨T15, X15, p15, bl15, sl15, st15⟩ := X13.finit hexec hown (wk W (.fieldLink "java/lang/String" 9 "java/lang/String" "value" "[B")) (Or.inr ⟨_, (wk W (.laysFinal "java/lang/String" "java/lang/String" "value" "[B"))⟩) (Or.inl ⟨rfl, hnm⟩) f1 (Or.inl rfl) bl13 (t := (.array .byte)) (by decide +kernel) rfl (g := (mkF m 54 #[.val (.ref a), .val (.ref b), .val (.int (Int32.ofNat o)), .val (.int (Int32.ofNat len)), .val .null, .val (.ref s.heap.size)] [.ref s.heap.size, .ref a])) rfl (rest := []) rfl (hb hbytes d54)
  have c16 : Steps p.tables e below (s₁.setTop (entryFrame m #[.ref a, .ref b, .int (Int32.ofNat o), .int (Int32.ofNat len), .null] 6)) (T15.setTop (mkF m 57 #[.val (.ref a), .val (.ref b), .val (.int (Int32.ofNat o)), .val (.int (Int32.ofNat len)), .val .null, .val (.ref s.heap.size)] [])) := c14.trans (st15 _ (Steps.refl _))
  have ap := apart (Or.inr ⟨_, (wk W (.laysFinal "java/lang/String" "java/lang/String" "value" "[B"))⟩) (Or.inr ⟨_, (wk W (.laysFinal "java/lang/String" "java/lang/String" "coder" "B"))⟩) f1 f2 (t₁ := .array .byte) (t₂ := .byte) (by decide +kernel) (by decide +kernel) (by decide)
  have al := X8.warmed.alike.symm.trans X15.warmed.alike
  have n7 : T11.heap[s.heap.size]? = some N := by rw [q11]; exact n1.1
  exact ⟨T15, none, _, _, _, X15, by simp, rfl, by omega, (fun _ => rfl), ⟨rfl, _, N, bl15, ((Same.refl D _).set _ (by simp)).set _ (by simp), sl15, (Cell.slots_setSlot_ne _ ap).trans sl13, n1.keep al (p15.other hne (p13.other hne n7)), n2, by rw [al.findClass]; exact n3, n4, n5, fun y c h1 h2 => p15.other h1 (p13.other h1 (by rw [q11]; exact n6 y c h2)), by rw [p15.2.2, p13.2.2, q11]; exact z8⟩, fun fs hl => c16.trans (X15.returnOut hexec hret (hb hbytes d57) hl)⟩
end New4
namespace New1
def yN : MethodName := ⟨"java/lang/String", "<init>", "([C)V"⟩
abbrev yB : ByteArray := jdk_42_method_3_code
theorem d0 : decode yB 0 = .ok (.aload_n 0, 1) := by decide +kernel
theorem d1 : decode yB 1 = .ok (.aload_n 1, 1) := by decide +kernel
theorem d2 : decode yB 2 = .ok (.iconst 0, 1) := by decide +kernel
theorem d3 : decode yB 3 = .ok (.aload_n 1, 1) := by decide +kernel
theorem d4 : decode yB 4 = .ok (.arraylength, 1) := by decide +kernel
theorem d5 : decode yB 5 = .ok (.aconst_null, 1) := by decide +kernel
theorem d6 : decode yB 6 = .ok (.invokespecial 27, 3) := by decide +kernel
theorem d9 : decode yB 9 = .ok (.return_, 1) := by decide +kernel
def site : List Cond := [New4.tab] ++ initW "java/lang/String" 27 New4.yN
def tab : Cond := tabOf yN yB 2 none site
def P (a : Addr) (D : Cell) (fV fC : Field) (b : Addr) (A : Cell) (z : Int32) (args : Array Value) (s : State) : Prop := args = #[.ref a, .ref b] ∧ Blank "java/lang/String" a D s ∧ Found "java/lang/String" "value" "[B" fV s ∧ Found "java/lang/String" "coder" "B" fC s ∧ Ch b A s ∧ StaticIs s "java/lang/String" "COMPACT_STRINGS" "Z" (.int z) ∧ ¬ z = 0 ∧ 0 < A.slots.size ∧ A.slots.size ≤ 536870912 ∧ ∀ i, i < A.slots.size → ¬ 255 < cv A i
def E (a : Addr) (D : Cell) (fV fC : Field) (A : Cell) (r : Option Value) (s u : State) : Prop := Got a D fV fC A 0 A.slots.size r s u
/-- new String(chars), not empty, no char above 255: a Latin-1 String of their low bytes -/
theorem law (l : Launch) (a : Addr) (D : Cell) (fV fC : Field) (b : Addr) (A : Cell) (z : Int32) : Law l yN 2 1 3 52 yB 2 none site (P a D fV fC b A z) (E a D fV fC A) [⟨a, fC.slot⟩, ⟨a, fV.slot⟩] 1 A.slots.size := by
  refine Law.of_walk (plainFor_of_name (by decide +kernel)) (by decide +kernel) (by decide +kernel) (by decide) (fun _ _ h => by rw [h.1]; rfl) (fun _ U U' hal hh h => ⟨h.1, h.2.1.mv hal hh, h.2.2.1.al hal, h.2.2.2.1.al hal, h.2.2.2.2.1.mv hal hh, h.2.2.2.2.2.1.there hal hh, h.2.2.2.2.2.2⟩) (fun r U U' V V' h1 hal h2 h => Got.mv r U U' V V' h1 hal h2 h) ?_
  intro p e s m args below meth c s₁ X0 hexec hbytes hml hret hlk hnm hown hh0 W hP
  obtain ⟨rfl, hB, f1, f2, hA, s1, hz, l0, l2, hp⟩ := hP
  have c1 : Steps p.tables e below (s₁.setTop (entryFrame m #[.ref a, .ref b] 2)) (s₁.setTop (mkF m 0 #[.val (.ref a), .val (.ref b)] [])) := entry rfl
  have c2 : Steps p.tables e below (s₁.setTop (entryFrame m #[.ref a, .ref b] 2)) (s₁.setTop (mkF m 6 #[.val (.ref a), .val (.ref b)] [.null, .int (Int32.ofNat A.slots.size), .int 0, .ref b, .ref a])) := c1.trans (by
    refine XS.aloadN X0.here hexec rfl (hb hbytes d0) rfl rfl ?_
    refine XS.aloadN X0.here hexec rfl (hb hbytes d1) rfl rfl ?_
    refine iconstV X0.here hexec rfl 0 (hb hbytes d2) (by decide) ?_
    refine XS.aloadN X0.here hexec rfl (hb hbytes d3) rfl rfl ?_
    refine X0.alen hexec (hA.1.mv X0.warmed.alike hh0) rfl rfl (hb hbytes d4) ?_
    refine XS.aconstNull X0.here hexec rfl (hb hbytes d5) ?_
    exact Steps.refl _)
  obtain ⟨v3, T3, X3, E3, g3⟩ := X0.callN hexec (New4.law l a D fV fC b A z 0 A.slots.size) rfl hown (wks W (initW "java/lang/String" 27 New4.yN)) (W New4.tab (by simp only [site, List.mem_cons, List.mem_append, true_or, or_true])) (W := 0) (Nat.le_of_ble_eq_true rfl) (Nat.le_of_ble_eq_true rfl) (Nat.le_refl _) (by show 0 + A.slots.size ≤ A.slots.size; omega) (g := (mkF m 6 #[.val (.ref a), .val (.ref b)] [.null, .int (Int32.ofNat A.slots.size), .int (Int32.ofNat 0), .ref b, .ref a])) rfl (by rw [hml]; rfl) c2 (argsL := [.ref b, .int (Int32.ofNat 0), .int (Int32.ofNat A.slots.size), .null]) (rest := []) rfl rfl (by show 2 * 0 + 0 ≤ _; decide) (hb hbytes d6) (⟨rfl, hB.mv X0.warmed.alike hh0, f1.al X0.warmed.alike, f2.al X0.warmed.alike, hA.mv X0.warmed.alike hh0, s1.there X0.warmed.alike hh0, hz, l0, by omega, l2, fun i hi => by rw [Nat.zero_add]; exact hp i hi⟩)
  have e0 := Got.mv _ s₁ s _ _ hh0.symm (Vm.Alike.refl _) rfl E3
  obtain rfl := e0.1
  have c4 : Steps p.tables e below (s₁.setTop (entryFrame m #[.ref a, .ref b] 2)) (T3.setTop (mkF m 9 #[.val (.ref a), .val (.ref b)] [])) := g3
  exact ⟨T3, none, _, _, _, X3, by simp, rfl, by omega, (fun _ => rfl), e0, fun fs hl => c4.trans (X3.returnOut hexec hret (hb hbytes d9) hl)⟩
theorem pays {l : Launch} {R : Room} {p : Program} {e : Env} {below : List Frame} {s : State} {sargs : Array Value} {len W : Nat} (a : Addr) (D : Cell) (fV fC : Field) (b : Addr) (A : Cell) (z : Int32) (htab : tab.before sargs s = true) (hfr : 4 ≤ R.frames) (hlo : W + 65 ≤ R.locals) :
    Back l R p e below s sargs yN len W (fun A₁ a₁ => A₁.cells + 1 ≤ R.cells ∧ A₁.slots + A.slots.size ≤ R.slots ∧ P a D fV fC b A z a₁ A₁.U) (fun A₁ _ v₁ B₁ => E a D fV fC A v₁ A₁.U B₁.U ∧ B₁.locs = A₁.locs ++ [⟨a, fC.slot⟩, ⟨a, fV.slot⟩] ∧ B₁.cells = A₁.cells + 1 ∧ B₁.slots = A₁.slots + A.slots.size) :=
  (law l a D fV fC b A z).pays htab hfr (by omega)
end New1
/-- the byte, read back as charAt reads it, is the char -/
theorem lo8_mask {x : Int32} (h0 : ¬ x < 0) (h1 : ¬ 255 < x) : lo8 x &&& 255 = x := by
  have t : ∀ k : Fin 256, lo8 (Int32.ofNat k.val) &&& 255 = Int32.ofNat k.val := by decide +kernel
  rw [Int32.lt_iff_toInt_lt] at h0 h1
  have e0 : (0 : Int32).toInt = 0 := rfl
  have e1 : (255 : Int32).toInt = 255 := rfl
  obtain ⟨k, hk⟩ : ∃ k : Nat, x.toInt = k := ⟨x.toInt.toNat, by omega⟩
  have hx : x = Int32.ofNat k := Int32.toInt_inj.mp (by rw [hk, Int32.toInt_ofNat_small (by omega)])
  rw [hx]
  exact t ⟨k, by omega⟩
end StrChars
namespace StrChars.Road
open Jvm Sem ClassFile Op Lib Jvm.Stand Jvm.Free Jvm.Free.XT
open Jvm.Lib.Cold (StaticIs)
abbrev ST : String := "java/lang/String"
/-- every table word that New1's law asks, flat -/
abbrev words : List Jvm.Cond := [.code New1.yN New1.yB 2 none, .initialized ST, .methodLink ST 27 New4.yN, .instanceMethod New4.yN,
  .code New4.yN New4.yB 6 none, .fieldLink ST 38 ST "COMPACT_STRINGS" "Z", .laysFinal ST ST "value" "[B", .fieldLink ST 9 ST "value" "[B", .laysFinal ST ST "coder" "B", .fieldLink ST 15 ST "coder" "B",
  .methodLink ST 1 Lib.objectInit, .instanceMethod Lib.objectInit, .code Lib.objectInit ⟨#[0xb1]⟩ 1 none, .methodLink ST 177 Cmp3.yN, .static Cmp3.yN, .methodLink ST 47 CodL.yN, .static CodL.yN,
  .code Cmp3.yN Cmp3.yB 6 (some (.array .byte)), .initialized U16, .arrayClass .byte, .methodLink U16 115 Cmp5.yN, .static Cmp5.yN, .code Cmp5.yN Cmp5.yB 7 (some .int), .code CodL.yN CodL.yB 2 (some .byte)]
theorem tab_of {a : Array Value} {s : State} (h : ∀ w ∈ words, w.before a s = true) : New1.tab.before a s = true := by
  have h5 : Cmp5.tab.before a s = true := unparts (wk h (.code Cmp5.yN Cmp5.yB 7 (some .int))) (wks h (.initialized Cmp5.yN.cls :: Cmp5.site))
  have hc : CodL.tab.before a s = true := unparts (wk h (.code CodL.yN CodL.yB 2 (some .byte))) (wks h (.initialized CodL.yN.cls :: CodL.site))
  have q5 : ∀ w ∈ Cmp5.tab :: words, w.before a s = true := fun w hw => (List.mem_cons.mp hw).elim (fun e => e ▸ h5) (h w)
  have h3 : Cmp3.tab.before a s = true := unparts (wk q5 (.code Cmp3.yN Cmp3.yB 6 (some (.array .byte)))) (wks q5 (.initialized Cmp3.yN.cls :: Cmp3.site))
  have q3 : ∀ w ∈ Cmp3.tab :: CodL.tab :: words, w.before a s = true := fun w hw => (List.mem_cons.mp hw).elim (fun e => e ▸ h3) fun hw => (List.mem_cons.mp hw).elim (fun e => e ▸ hc) (h w)
  have h4 : New4.tab.before a s = true := unparts (wk q3 (.code New4.yN New4.yB 6 none)) (wks q3 (.initialized New4.yN.cls :: New4.site))
  have q4 : ∀ w ∈ New4.tab :: words, w.before a s = true := fun w hw => (List.mem_cons.mp hw).elim (fun e => e ▸ h4) (h w)
  exact unparts (wk q4 (.code New1.yN New1.yB 2 none)) (wks q4 (.initialized New1.yN.cls :: New1.site))
/-- the words ride from the start Z to the walk's own state -/
theorem moved {Z s : State} {a0 args : Array Value} (hZ : Z.Warmed39 s.vm) (hw : ∀ d ∈ words, d.before a0 Z = true) : ∀ d ∈ words, d.before args s = true := fun d hd => by
  have q := hw d hd
  have t : ∀ d ∈ words, d = .arrayClass .byte ∨ (d.onTables && d.keepsFace) = true := by decide +kernel
  rcases t d hd with rfl | t
  · exact RoadKit.mvA hZ q
  · exact RoadKit.mv hZ q t
/-- WHAT COMES BACK, over the tables of the start Z: h the heap at the call, h' behind it -/
def Q (Z : State) (x : Addr) (A : Cell) (h : Heap) (v : Option Value) (h' : Heap) (L : List Loc) : Prop := v = none ∧ (∀ y ∈ L, y.base = x) ∧ RoadKit.Keep h h' [x] ∧ h'.size = h.size + 1 ∧ RoadKit.Exa Z h' x ST ∧ RoadKit.Fld Z h' x ST "value" "[B" (.ref h.size) ∧ RoadKit.Fld Z h' x ST "coder" "B" (.int 0) ∧
  (∃ V : Cell, RoadKit.Arr Z h' h.size V .byte ∧ V.vm = .none ∧ Z.vm.findClass "[B" = some V.cls ∧ V.slots.size = A.slots.size ∧ ∀ j, j < A.slots.size → V.slots[j]? = some (.int (lo8 (cv A j)))) ∧
  ∀ (O n d : String) (w : Value), RoadKit.Fld Z h x O n d w → RoadKit.slotOf Z O n d ≠ RoadKit.slotOf Z ST "value" "[B" → RoadKit.slotOf Z O n d ≠ RoadKit.slotOf Z ST "coder" "B" → RoadKit.Fld Z h' x O n d w
/-- **new String(chars) AT A CALL, IN THE ROAD'S FORM**: for specialBack behind newO: x the fresh String, b the char[] with the cell A -/
theorem back {p : Program} {l : Launch} {e : Env} {R : Room} {s : State} {args : Array Value} {below : List Frame} {len W : Nat} {Z : State} {a0 : Array Value} {h : Heap} (hZ : Z.Warmed39 s.vm) (hw : ∀ d ∈ words, d.before a0 Z = true) {kI : Nat} (wi : (Jvm.Cond.instantiable ST kI).before a0 Z = true)
    {x b : Addr} {A : Cell} {z : Int32} {v0 c0 : Value} (E : RoadKit.Exa Z h x ST) (V : RoadKit.Fld Z h x ST "value" "[B" v0) (C : RoadKit.Fld Z h x ST "coder" "B" c0) (K : RoadKit.Arr Z h b A .char) (hty : Typed .char A) (S : RoadKit.Sta Z h ST "COMPACT_STRINGS" "Z" (.int z)) (hz : ¬ z = 0)
    (l0 : 0 < A.slots.size) (l2 : A.slots.size ≤ 536870912) (hp : ∀ i, i < A.slots.size → ¬ 255 < cv A i) (hfr : 4 ≤ R.frames) (hlo : W + 65 ≤ R.locals) :
    Back l R p e below s args New1.yN len W (fun P a => a = #[.ref x, .ref b] ∧ P.U.heap = h ∧ P.cells + 1 ≤ R.cells ∧ P.slots + A.slots.size ≤ R.slots)
      (fun P _ v B => ∃ L, Q Z x A h v B.U.heap L ∧ B.locs = P.locs ++ L ∧ B.cells = P.cells + 1 ∧ B.slots = P.slots + A.slots.size) := by
  intro m meth c P g ig mk a X hg hsize hdg hW hn hp'
  obtain ⟨rfl, rfl, r1, r2⟩ := hp'
  have al : Z.vm.Alike P.U.vm := hZ.alike.trans X.warmed.alike
  obtain ⟨D, cfV, kV, iV, fV, hD, gV, stV, knV, obV, asV, slV⟩ := id V
  obtain ⟨D', cfC, kC, iC, fC, hD', gC, stC, -, -, asC, slC⟩ := id C
  cases hD.symm.trans hD'
  obtain ⟨D2, kD, e1, e2, e3, e4, e5⟩ := id E
  cases hD.symm.trans e1
  obtain ⟨c2, k2, i1, i2, i3, -⟩ := Cond.instantiable_spec wi
  cases e2.symm.trans i1
  cases e3.symm.trans i2
  obtain ⟨kU, u1, u2⟩ := al.2.2 _ _ e3
  have hB : Blank ST x D P.U := ⟨hD, ⟨knV, fun q hq => by rw [hq] at obV; cases obV⟩, by rw [al.findClass]; exact e2, kU, u1, by rw [u2]; exact i3, by rw [u2]; exact e5 i3⟩
  have F1 : Found ST "value" "[B" fV P.U := ⟨SBG.found_only al ⟨cfV, kV, iV, gV⟩, stV⟩
  have F2 : Found ST "coder" "B" fC P.U := ⟨SBG.found_only al ⟨cfC, kC, iC, gC⟩, stC⟩
  have hA : Ch b A P.U := ⟨⟨K.1, State.isArrayOf_alike al K.2.1, K.2.2, by omega⟩, hty⟩
  have hS : StaticIs P.U ST "COMPACT_STRINGS" "Z" (.int z) := by
    obtain ⟨cfS, iS, kS, fS, st, cS, t1, t2, t3, t4, t5, t6, t7⟩ := S
    exact StaticIs.there (s := { Z with heap := P.U.heap }) ⟨cfS, iS, kS, fS, st, cS, t1, t2, t3, t4, t5, (fun q => by rw [q] at t6; cases t6), t7⟩ al rfl
  obtain ⟨v, B, X', ⟨⟨hv, E', V', q1, q2, q3, q4, q5, q6, q7, q8, q9, q10, q11⟩, hl, hc, hs⟩, st⟩ := New1.pays x D fV fC b A z (tab_of (moved hZ hw)) hfr hlo m meth c P g ig mk _ X hg hsize hdg hW hn ⟨r1, r2, rfl, hB, F1, F2, hA, hS, hz, l0, l2, hp⟩
  have al' : Z.vm.Alike B.U.vm := hZ.alike.trans X'.warmed.alike
  have hsz : E'.slots.size = D.slots.size := by
    obtain ⟨-, -, -, kB, w1, w2, w3⟩ := q1
    obtain ⟨kB', y1, y2⟩ := al'.2.2 _ _ e3
    rw [q2.2.1] at w1
    cases w1.symm.trans y1
    rw [w3, e5 i3, y2]
  refine ⟨v, B, X', ⟨_, ⟨hv, ?_, ⟨by omega, fun y cy hy hn' => q10 y cy (by simpa using hn') hy, fun y cy hy => ?_⟩, q11, ⟨E', _, q1.1, by rw [q2.2.1]; exact e2, by rw [q2.2.1]; exact e3, by rw [q2.1]; exact obV, fun _ => by rw [hsz]; exact e5 i3⟩,
    ⟨E', cfV, kV, iV, fV, q1.1, gV, stV, by rw [q2.1]; exact knV, by rw [q2.1]; exact obV, by rw [q2.2.1]; exact asV, q3⟩, ⟨E', cfC, kC, iC, fC, q1.1, gC, stC, by rw [q2.1]; exact knV, by rw [q2.1]; exact obV, by rw [q2.2.1]; exact asC, q4⟩,
    ⟨V', ⟨q5.1, State.isArrayOf_alike al'.symm q5.2.1, q5.2.2.1⟩, q6, by rw [← al'.findClass]; exact q7, q8, fun j hj => by have := q9 j hj; rwa [Nat.zero_add] at this⟩, fun O n d w F n1 n2 => ?_⟩, hl, hc, hs⟩, st⟩
  · intro y hy
    simp only [List.mem_cons, List.not_mem_nil, or_false] at hy
    rcases hy with rfl | rfl <;> rfl
  · by_cases q : y = x
    · subst q
      cases hD.symm.trans hy
      exact ⟨E', q1.1, q2.2.1, q2.1, hsz⟩
    · exact ⟨cy, q10 y cy q hy, rfl, rfl, rfl⟩
  · obtain ⟨D3, cf, k, i, f, g1, g2, g3, g4, g5, g6, g7⟩ := F
    cases hD.symm.trans g1
    simp only [RoadKit.slotOf, g2, gV, gC, Option.map_some, Option.getD_some] at n1 n2
    exact ⟨E', cf, k, i, f, q1.1, g2, g3, by rw [q2.1]; exact g4, by rw [q2.1]; exact g5, by rw [q2.2.1]; exact g6, by rw [q2.2.2 f.slot (by simp [n1, n2])]; exact g7⟩
end StrChars.Road
namespace StrChars.Road
open Jvm Sem ClassFile Op Lib Jvm.Stand Jvm.Free Jvm.Free.XT
/-- WHAT COMES BACK, the byte[] as a list of values -/
def QA (Z : State) (x : Addr) (zn : Int32) (cs : List Int32) (h : Heap) (v : Option Value) (h' : Heap) (L : List Loc) : Prop := v = none ∧ (∀ y ∈ L, y.base = x) ∧ RoadKit.Keep h h' [x] ∧ h'.size = h.size + 1 ∧ RoadKit.Exa Z h' x ST ∧ RoadKit.Fld Z h' x ST "value" "[B" (.ref h.size) ∧ RoadKit.Fld Z h' x ST "coder" "B" (.int 0) ∧
  (∃ kb, Z.vm.findClass "[B" = some kb ∧ RoadKit.Arv Z h' h.size kb .byte zn (cs.map fun c => .int (lo8 c)) (.int 0)) ∧
  ∀ (O n d : String) (w : Value), RoadKit.Fld Z h x O n d w → RoadKit.slotOf Z O n d ≠ RoadKit.slotOf Z ST "value" "[B" → RoadKit.slotOf Z O n d ≠ RoadKit.slotOf Z ST "coder" "B" → RoadKit.Fld Z h' x O n d w
/-- **new String(chars) AT A CALL, THE ARRAYS AS LISTS**: the char[] at b holds cs, not empty, no char above 255 -/
theorem backArv {p : Program} {l : Launch} {e : Env} {R : Room} {s : State} {args : Array Value} {below : List Frame} {len W : Nat} {Z : State} {a0 : Array Value} {h : Heap} (hZ : Z.Warmed39 s.vm) (hw : ∀ d ∈ words, d.before a0 Z = true) {kI : Nat} (wi : (Jvm.Cond.instantiable ST kI).before a0 Z = true)
    {x b : Addr} {k : ClassId} {zn z : Int32} {cs : List Int32} {dv v0 c0 : Value} (E : RoadKit.Exa Z h x ST) (V : RoadKit.Fld Z h x ST "value" "[B" v0) (C : RoadKit.Fld Z h x ST "coder" "B" c0) (K : RoadKit.Arv Z h b k .char zn (cs.map Value.int) dv) (S : RoadKit.Sta Z h ST "COMPACT_STRINGS" "Z" (.int z)) (hz : ¬ z = 0)
    (hlen : zn.toNatClampNeg = cs.length) (h0 : 0 < cs.length) (hbig : cs.length ≤ 536870912) (hall : ∀ c ∈ cs, ¬ 255 < c) (hfr : 4 ≤ R.frames) (hlo : W + 65 ≤ R.locals) :
    Back l R p e below s args New1.yN len W (fun P a => a = #[.ref x, .ref b] ∧ P.U.heap = h ∧ P.cells + 1 ≤ R.cells ∧ P.slots + cs.length ≤ R.slots)
      (fun P _ v B => ∃ L, QA Z x zn cs h v B.U.heap L ∧ B.locs = P.locs ++ L ∧ B.cells = P.cells + 1 ∧ B.slots = P.slots + cs.length) := by
  obtain ⟨A, K1, K2, K3, K4, K5, K6⟩ := K
  have e : A.slots.size = cs.length := K3.trans hlen
  have hat : ∀ (i : Nat) (hi : i < cs.length), A.slots[i]? = some (.int cs[i]) := fun i hi => by rw [K5 i (by omega)]; simp [List.getD_eq_getElem?_getD, hi]
  have hcv : ∀ (i : Nat) (hi : i < cs.length), cv A i = cs[i] := fun i hi => by unfold cv; rw [hat i hi]
  have hty : Typed .char A := fun i v hv => by
    have hi : i < A.slots.size := (Array.getElem?_eq_some_iff.mp hv).1
    have q := K5 i hi
    rw [hv] at q
    rw [Option.some.inj q]
    exact K6 i hi
  refine Back.mono (back hZ hw wi E V C K1 hty S hz (by omega) (by omega) (fun i hi => by rw [hcv i (by omega)]; exact hall _ (List.getElem_mem _)) hfr hlo) (fun P a hp => ⟨hp.1, hp.2.1, hp.2.2.1, by rw [e]; exact hp.2.2.2⟩) (fun P a v B hp hq => ?_)
  obtain ⟨L, ⟨q1, q2, q3, q4, q5, q6, q7, ⟨V', v1, v2, v3, v4, v5⟩, q9⟩, hl, hc, hs⟩ := hq
  refine ⟨L, ⟨q1, q2, q3, q4, q5, q6, q7, ⟨V'.cls, v3, V', v1, rfl, by rw [v4, e, hlen], K4, fun i hi => ?_, fun i hi => ?_⟩, q9⟩, hl, hc, by rw [hs, e]⟩
  · have hi' : i < cs.length := by omega
    rw [v5 i (by omega), hcv i hi']; simp [List.getD_eq_getElem?_getD, hi']
  · have hi' : i < cs.length := by omega
    simp only [List.getD_eq_getElem?_getD, List.getElem?_map, List.getElem?_eq_getElem hi', Option.map_some, Option.getD_some]
    exact fits_lo8 _
end StrChars.Road
namespace StrChars.Road
open Jvm Sem ClassFile Op Lib Jvm.Stand Jvm.Free Jvm.Free.XT
/-- WHAT COMES BACK, in the writer's own shape -/
def QV (Z : State) (x : Addr) (N : Int32) (bs : List Int32) (h : Heap) (n0 : Nat) (v : Option Value) (h' : Heap) (L : List Loc) : Prop := v = none ∧ RoadKit.Fr n0 L ∧ RoadKit.Keep h h' [x] ∧ RoadKit.Exa Z h' x ST ∧ RoadKit.Fld Z h' x ST "coder" "B" (.int 0) ∧
  ∃ (t : Addr) (kb : ClassId), n0 ≤ t ∧ h.size ≤ t ∧ ¬ t = x ∧ RoadKit.Fld Z h' x ST "value" "[B" (.ref t) ∧ RoadKit.Arv Z h' t kb .byte N (bs.map Value.int) (.int 0)
/-- **new String(chars) AT A CALL, FOR THE WRITER**: a char[] of n known ints, each 0 to 255 -/
theorem backV {p : Program} {l : Launch} {e : Env} {R : Room} {s : State} {args : Array Value} {below : List Frame} {len W : Nat} {Z : State} {a0 : Array Value} {h : Heap} (hZ : Z.Warmed39 s.vm) (hw : ∀ d ∈ words, d.before a0 Z = true) {kI : Nat} (wi : (Jvm.Cond.instantiable ST kI).before a0 Z = true)
    {x b : Addr} {kC : ClassId} {cs bs : List Int32} {d v0 c0 : Value} {z N : Int32} {n n0 : Nat} (hx0 : n0 ≤ x) (hh0 : n0 ≤ h.size) (E : RoadKit.Exa Z h x ST) (V : RoadKit.Fld Z h x ST "value" "[B" v0) (C : RoadKit.Fld Z h x ST "coder" "B" c0) (K : RoadKit.Arv Z h b kC .char N (cs.map Value.int) d) (S : RoadKit.Sta Z h ST "COMPACT_STRINGS" "Z" (.int z)) (hz : ¬ z = 0)
    (hn : cs.length = n) (hN : N = Int32.ofNat n) (l0 : 0 < n) (l2 : n ≤ 4000) (hp : ∀ c ∈ cs, ¬ c < 0 ∧ ¬ (255 : Int32) < c) (hb : bs = cs.map (fun c => c.toInt8.toInt32)) (hfr : 4 ≤ R.frames) (hlo : W + 65 ≤ R.locals) :
    Back l R p e below s args (⟨"java/lang/String", "<init>", "([C)V"⟩ : MethodName) len W (fun P a => a = #[.ref x, .ref b] ∧ P.U.heap = h ∧ P.cells + 1 ≤ R.cells ∧ P.slots + n ≤ R.slots)
      (fun P _ v B => ∃ L, QV Z x N bs h n0 v B.U.heap L ∧ B.locs = P.locs ++ L ∧ B.cells = P.cells + 1 ∧ B.slots = P.slots + n) := by
  subst hn hN hb
  refine Back.mono (backArv hZ hw wi E V C K S hz (n32 (by omega)) l0 (by omega) (fun c hc => (hp c hc).2) hfr hlo) (fun P a hp => hp) (fun P a v B hp hq => ?_)
  obtain ⟨L, ⟨q1, q2, q3, q4, q5, q6, q7, ⟨kb, v1, v2⟩, q9⟩, hl, hc, hs⟩ := hq
  exact ⟨L, ⟨q1, fun y hy => by rw [q2 y hy]; exact hx0, q3, q5, q7, h.size, kb, hh0, Nat.le_refl _, Nat.ne_of_gt E.lt, q6, by rw [List.map_map]; exact v2⟩, hl, hc, hs⟩
end StrChars.Road
namespace StrChars
open Jvm Sem ClassFile Op Lib Jvm.Stand Jvm.Free.XT Jvm.Free.ALB Jvm.Free.JM Jvm.Free
open Jvm.Lib.Cold (StaticIs)
def hi8 (x : Int32) : Int32 := lo8 (x >>> ((8 : Int32) &&& 31))
/-- what StringUTF16.getChar makes of two bytes -/
def pairCh (u v : Int32) : Int32 := (((u &&& 255) <<< ((0 : Int32) &&& 31)) ||| ((v &&& 255) <<< ((8 : Int32) &&& 31))).toUInt32.toUInt16.toUInt32.toInt32
theorem lo8_and (x : Int32) : (lo8 x &&& 255).toBitVec.toNat = x.toBitVec.toNat % 256 := by
  have h : (lo8 x).toBitVec = (x.toBitVec.signExtend 8).signExtend 32 := by rw [lo8, Int8.toBitVec_toInt32, Int32.toBitVec_toInt8]
  rw [Int32.toBitVec_and, BitVec.toNat_and, h]
  have e : ((x.toBitVec.signExtend 8).signExtend 32).toNat % 256 = x.toBitVec.toNat % 256 := by
    rw [BitVec.toNat_signExtend]
    have hlt := x.toBitVec.isLt
    simp only [BitVec.toNat_setWidth, BitVec.toNat_signExtend]
    split <;> split <;> omega
  rw [← e]
  exact Nat.and_two_pow_sub_one_eq_mod _ 8
theorem pair_says {c : Int32} (h0 : ¬ c < 0) (h1 : ¬ 65535 < c) : pairCh (lo8 c) (hi8 c) = c := by
  rw [Int32.lt_iff_toInt_lt] at h0 h1
  have e0 : (0 : Int32).toInt = 0 := rfl
  have e1 : (65535 : Int32).toInt = 65535 := rfl
  have hc : c.toInt = c.toBitVec.toNat := by
    have := c.toBitVec.isLt
    have e : c.toInt = c.toBitVec.toInt := rfl
    rw [e] at h0 h1
    rw [e]
    rw [BitVec.toInt_eq_toNat_cond] at h0 h1 ⊢
    split at h0 <;> split <;> omega
  have hn : c.toBitVec.toNat < 65536 := by omega
  have a1 := lo8_and c
  have a2 : (hi8 c &&& 255).toBitVec.toNat = c.toBitVec.toNat / 256 := by
    rw [hi8, lo8_and]
    have e : ((8 : Int32) &&& 31) = 8 := by decide
    rw [e, Int32.toBitVec_shiftRight]
    have e2 : ((8 : Int32).toBitVec.smod 32) = 8#32 := by decide
    rw [e2, BitVec.sshiftRight_eq', BitVec.toNat_sshiftRight_of_msb_false (by rw [BitVec.msb_eq_false_iff_two_mul_lt]; omega)]
    show c.toBitVec.toNat >>> 8 % 256 = _
    rw [Nat.shiftRight_eq_div_pow]
    omega
  unfold pairCh
  apply Int32.toBitVec_inj.mp
  apply BitVec.eq_of_toNat_eq
  have f0 : ((0 : Int32) &&& 31) = 0 := by decide
  have f8 : ((8 : Int32) &&& 31) = 8 := by decide
  rw [f0, f8]
  have g : (((lo8 c &&& 255) <<< (0 : Int32)) ||| ((hi8 c &&& 255) <<< (8 : Int32))).toBitVec.toNat = c.toBitVec.toNat := by
    rw [Int32.toBitVec_or, Int32.toBitVec_shiftLeft, Int32.toBitVec_shiftLeft]
    have s0 : ((0 : Int32).toBitVec.smod 32) = 0#32 := by decide
    have s8 : ((8 : Int32).toBitVec.smod 32) = 8#32 := by decide
    rw [s0, s8, BitVec.toNat_or]
    simp only [BitVec.shiftLeft_eq', BitVec.toNat_shiftLeft, a1, a2]
    show (c.toBitVec.toNat % 256) <<< 0 % 2 ^ 32 ||| (c.toBitVec.toNat / 256) <<< 8 % 2 ^ 32 = _
    rw [Nat.shiftLeft_zero, Nat.mod_eq_of_lt (show c.toBitVec.toNat % 256 < 2 ^ 32 by omega), Nat.mod_eq_of_lt (show (c.toBitVec.toNat / 256) <<< 8 < 2 ^ 32 by rw [Nat.shiftLeft_eq]; omega), Nat.or_comm, ← Nat.shiftLeft_add_eq_or_of_lt (by omega), Nat.shiftLeft_eq]
    omega
  show BitVec.toNat (((((lo8 c &&& 255) <<< (0 : Int32)) ||| ((hi8 c &&& 255) <<< (8 : Int32))).toBitVec.setWidth 16).setWidth 32) = _
  rw [BitVec.toNat_setWidth, BitVec.toNat_setWidth, g]
  omega
end StrChars
namespace StrChars
open Jvm Sem ClassFile Op Lib Jvm.Stand Jvm.Free.XT Jvm.Free.ALB Jvm.Free.JM Jvm.Free
open Jvm.Lib.Cold (StaticIs)
/-- the array's cell V codes the n chars f 0 .. f (n - 1) by the coder cd, as the JDK does: coder 1 just where some char is above 255 -/
def Cod (cd : Int32) (n : Nat) (f : Nat → Int32) (V : Cell) : Prop := (cd = 0 ∧ V.slots.size = n ∧ ∀ j, j < n → V.slots[j]? = some (.int (lo8 (f j))) ∧ ¬ 255 < f j) ∨ (cd = 1 ∧ V.slots.size = 2 * n ∧ (∀ j, j < n → V.slots[2 * j]? = some (.int (lo8 (f j))) ∧ V.slots[2 * j + 1]? = some (.int (hi8 (f j)))) ∧ ∃ j, j < n ∧ 255 < f j)
/-- **x is a String of the n chars f 0 .. f (n - 1)**, Latin-1 or UTF-16; its array at t has the cell V -/
def Txt (x t : Addr) (V : Cell) (cd : Int32) (n : Nat) (f : Nat → Int32) (U : State) : Prop := Exact "java/lang/String" x U ∧ Has x "java/lang/String" "value" "[B" (.ref t) U ∧ Has x "java/lang/String" "coder" "B" (.int cd) U ∧ XT.Arr .byte t V U ∧ Cod cd n f V ∧ ∀ j, j < n → ¬ f j < 0 ∧ ¬ 65535 < f j
theorem Txt.mv {x t : Addr} {V : Cell} {cd : Int32} {n : Nat} {f : Nat → Int32} {U U' : State} (h : Txt x t V cd n f U) (hal : U.vm.Alike U'.vm) (hh : U'.heap = U.heap) : Txt x t V cd n f U' := ⟨h.1.mv hal hh, h.2.1.mv hal hh, h.2.2.1.mv hal hh, h.2.2.2.1.mv hal hh, h.2.2.2.2⟩
end StrChars
namespace StrChars.Road
open Jvm Sem ClassFile Op Lib Jvm.Stand Jvm.Free Jvm.Free.XT
open Jvm.Lib.Cold (StaticIs)
theorem consq {a : Array Value} {s : State} {c : Jvm.Cond} {L : List Jvm.Cond} (h0 : c.before a s = true) (h : ∀ w ∈ L, w.before a s = true) : ∀ w ∈ c :: L, w.before a s = true := fun w hw => (List.mem_cons.mp hw).elim (fun e => e ▸ h0) (h w)
/-- the bytes of the chars cs, low before high -/
def wideBytes : List Int32 → List Value
  | [] => []
  | c :: cs => .int (lo8 c) :: .int (hi8 c) :: wideBytes cs
theorem wide_lo (d : Value) : ∀ (cs : List Int32) (j : Nat), j < cs.length → (wideBytes cs).getD (2 * j) d = .int (lo8 (cs.getD j 0))
  | [], j, h => absurd h (Nat.not_lt_zero j)
  | c :: cs, 0, _ => rfl
  | c :: cs, j + 1, h => by
    have q := wide_lo d cs j (by simpa using h)
    rw [show 2 * (j + 1) = 2 * j + 1 + 1 from by omega]
    simpa [wideBytes] using q
theorem wide_hi (d : Value) : ∀ (cs : List Int32) (j : Nat), j < cs.length → (wideBytes cs).getD (2 * j + 1) d = .int (hi8 (cs.getD j 0))
  | [], j, h => absurd h (Nat.not_lt_zero j)
  | c :: cs, 0, _ => rfl
  | c :: cs, j + 1, h => by
    have q := wide_hi d cs j (by simpa using h)
    rw [show 2 * (j + 1) + 1 = 2 * j + 1 + 1 + 1 from by omega]
    simpa [wideBytes] using q
theorem low_at (d : Value) (cs : List Int32) (j : Nat) (h : j < cs.length) : (cs.map fun c => Value.int (lo8 c)).getD j d = .int (lo8 (cs.getD j 0)) := by
  simp [List.getD_eq_getElem?_getD, h]
/-- an array of N2 bytes vs codes the chars cs by the coder cd -/
def CodA (cs : List Int32) (cd N2 : Int32) (vs : List Value) : Prop := (cd = 0 ∧ N2 = Int32.ofNat cs.length ∧ vs = (cs.map fun c => Value.int (lo8 c)) ∧ ∀ c ∈ cs, ¬ 255 < c) ∨ (cd = 1 ∧ N2 = Int32.ofNat (2 * cs.length) ∧ vs = wideBytes cs ∧ ∃ c ∈ cs, 255 < c)
theorem CodA.cod {cs : List Int32} {cd N2 : Int32} {vs : List Value} {V : Cell} (h : CodA cs cd N2 vs) (hn : 2 * cs.length < 2 ^ 31) (hs : V.slots.size = N2.toNatClampNeg) (hv : RoadKit.Has V vs (.int 0)) : Cod cd cs.length (fun j => cs.getD j 0) V := by
  rcases h with ⟨rfl, rfl, rfl, h⟩ | ⟨rfl, rfl, rfl, c, hc, hw⟩
  · rw [n32 (by omega)] at hs
    exact Or.inl ⟨rfl, hs, fun j hj => ⟨by rw [hv j (by omega), low_at _ _ _ hj], by
      have e : cs.getD j 0 = cs[j] := by simp [List.getD_eq_getElem?_getD, hj]
      show ¬ 255 < cs.getD j 0
      rw [e]; exact h _ (List.getElem_mem _)⟩⟩
  · rw [n32 (by omega)] at hs
    obtain ⟨j, hj, rfl⟩ := List.getElem_of_mem hc
    exact Or.inr ⟨rfl, hs, fun j hj => ⟨by rw [hv _ (by omega), wide_lo _ _ _ hj], by rw [hv _ (by omega), wide_hi _ _ _ hj]⟩, j, hj, by
      have e : cs.getD j 0 = cs[j] := by simp [List.getD_eq_getElem?_getD, hj]
      show 255 < cs.getD j 0
      rw [e]; exact hw⟩
/-- an object of exactly java/lang/String, its two fields found: as the laws ask it -/
theorem strObj {Z U : State} {a0 : Array Value} {kI : Nat} (wi : (Jvm.Cond.instantiable ST kI).before a0 Z = true) (al : Z.vm.Alike U.vm) {x : Addr} {v0 c0 : Value} (E : RoadKit.Exa Z U.heap x ST) (V : RoadKit.Fld Z U.heap x ST "value" "[B" v0) (C : RoadKit.Fld Z U.heap x ST "coder" "B" c0) :
    ∃ (D : Cell) (fV fC : Field), Blank ST x D U ∧ Found ST "value" "[B" fV U ∧ Found ST "coder" "B" fC U ∧ D.slots[fV.slot]? = some v0 ∧ D.slots[fC.slot]? = some c0 ∧ RoadKit.slotOf Z ST "value" "[B" = fV.slot ∧ RoadKit.slotOf Z ST "coder" "B" = fC.slot := by
  obtain ⟨D, cfV, kV, iV, fV, hD, gV, stV, knV, obV, asV, slV⟩ := V
  obtain ⟨D', cfC, kC, iC, fC, hD', gC, stC, -, -, asC, slC⟩ := C
  cases hD.symm.trans hD'
  obtain ⟨D2, kD, e1, e2, e3, e4, e5⟩ := E
  cases hD.symm.trans e1
  obtain ⟨c2, k2, i1, i2, i3, -⟩ := Cond.instantiable_spec wi
  cases e2.symm.trans i1
  cases e3.symm.trans i2
  obtain ⟨kU, u1, u2⟩ := al.2.2 _ _ e3
  exact ⟨D, fV, fC, ⟨hD, ⟨knV, fun q hq => by rw [hq] at obV; cases obV⟩, by rw [al.findClass]; exact e2, kU, u1, by rw [u2]; exact i3, by rw [u2]; exact e5 i3⟩, ⟨SBG.found_only al ⟨cfV, kV, iV, gV⟩, stV⟩, ⟨SBG.found_only al ⟨cfC, kC, iC, gC⟩, stC⟩, slV, slC, by simp [RoadKit.slotOf, gV], by simp [RoadKit.slotOf, gC]⟩
theorem sta_is {Z U : State} (al : Z.vm.Alike U.vm) {C n d : String} {v : Value} (S : RoadKit.Sta Z U.heap C n d v) : StaticIs U C n d v := by
  obtain ⟨cfS, iS, kS, fS, st, cS, t1, t2, t3, t4, t5, t6, t7⟩ := S
  exact StaticIs.there (s := { Z with heap := U.heap }) ⟨cfS, iS, kS, fS, st, cS, t1, t2, t3, t4, t5, (fun q => by rw [q] at t6; cases t6), t7⟩ al rfl
end StrChars.Road
namespace StrChars
open Jvm Sem ClassFile Op Lib Jvm.Stand Jvm.Free.XT Jvm.Free.ALB Jvm.Free.JM Jvm.Free
open Jvm.Lib.Cold (StaticIs)
/-- what place i of a byte[]'s cell holds -/
def yv (A : Cell) (i : Nat) : Int32 := match A.slots[i]? with | some (.int x) => x | _ => 0
theorem yv_get {a : Addr} {A : Cell} {U : State} (h : XT.Arr .byte a A U) (ht : Typed .byte A) {i : Nat} (hi : i < A.slots.size) : A.slots[i]? = some (.int (yv A i)) := by
  have e := Array.getElem?_eq_getElem hi
  have f := ht i _ e
  unfold yv; rw [e]
  generalize A.slots[i] = v at f
  cases v <;> simp [fits] at f ⊢
/-- the two arrays are equal, place for place -/
def EqC (A B : Cell) : Prop := A.slots.size = B.slots.size ∧ ∀ i, i < A.slots.size → yv A i = yv B i
/-- a boolean that says whether p -/
def Says01 (q : Prop) (r : Option Value) (s u : State) : Prop := ∃ v : Int32, r = some (.int v) ∧ u.heap = s.heap ∧ ((v = 1 ∧ q) ∨ (v = 0 ∧ ¬ q))
theorem Says01.mv {q : Prop} : ∀ r (U U' V V' : State), U'.heap = U.heap → V.vm.Alike V'.vm → V'.heap = V.heap → Says01 q r U V → Says01 q r U' V' :=
  fun r U U' V V' h1 _ h2 ⟨v, a, b, c⟩ => ⟨v, a, by rw [h1, h2]; exact b, c⟩
namespace LEq
def yN : MethodName := ⟨"java/lang/StringLatin1", "equals", "([B[B)Z"⟩
abbrev yB : ByteArray := jdk_43_method_13_code
theorem d0 : decode yB 0 = .ok (.aload_n 0, 1) := by decide +kernel
theorem d1 : decode yB 1 = .ok (.arraylength, 1) := by decide +kernel
theorem d2 : decode yB 2 = .ok (.aload_n 1, 1) := by decide +kernel
theorem d3 : decode yB 3 = .ok (.arraylength, 1) := by decide +kernel
theorem d4 : decode yB 4 = .ok (.if_icmp (.ne) 30, 3) := by decide +kernel
theorem d7 : decode yB 7 = .ok (.iconst 0, 1) := by decide +kernel
theorem d8 : decode yB 8 = .ok (.istore_n 2, 1) := by decide +kernel
theorem d9 : decode yB 9 = .ok (.iload_n 2, 1) := by decide +kernel
theorem d10 : decode yB 10 = .ok (.aload_n 0, 1) := by decide +kernel
theorem d11 : decode yB 11 = .ok (.arraylength, 1) := by decide +kernel
theorem d12 : decode yB 12 = .ok (.if_icmp (.ge) 20, 3) := by decide +kernel
theorem d15 : decode yB 15 = .ok (.aload_n 0, 1) := by decide +kernel
theorem d16 : decode yB 16 = .ok (.iload_n 2, 1) := by decide +kernel
theorem d17 : decode yB 17 = .ok (.baload, 1) := by decide +kernel
theorem d18 : decode yB 18 = .ok (.aload_n 1, 1) := by decide +kernel
theorem d19 : decode yB 19 = .ok (.iload_n 2, 1) := by decide +kernel
theorem d20 : decode yB 20 = .ok (.baload, 1) := by decide +kernel
theorem d21 : decode yB 21 = .ok (.if_icmp (.eq) 5, 3) := by decide +kernel
theorem d24 : decode yB 24 = .ok (.iconst 0, 1) := by decide +kernel
theorem d25 : decode yB 25 = .ok (.ireturn, 1) := by decide +kernel
theorem d26 : decode yB 26 = .ok (.iinc 2 1, 3) := by decide +kernel
theorem d29 : decode yB 29 = .ok (.goto (-20), 3) := by decide +kernel
theorem d32 : decode yB 32 = .ok (.iconst 1, 1) := by decide +kernel
theorem d33 : decode yB 33 = .ok (.ireturn, 1) := by decide +kernel
theorem d34 : decode yB 34 = .ok (.iconst 0, 1) := by decide +kernel
theorem d35 : decode yB 35 = .ok (.ireturn, 1) := by decide +kernel
def site : List Cond := []
def tab : Cond := tabOf yN yB 3 (some .boolean) site
def P (a : Addr) (A : Cell) (b : Addr) (B : Cell) (args : Array Value) (s : State) : Prop := args = #[.ref a, .ref b] ∧ XT.Arr .byte a A s ∧ Typed .byte A ∧ XT.Arr .byte b B s ∧ Typed .byte B
/-- whether two byte[] are equal, place for place -/
theorem law (l : Launch) (a : Addr) (A : Cell) (b : Addr) (B : Cell) : Law l yN 2 2 0 0 yB 3 (some .boolean) site (P a A b B) (Says01 (EqC A B)) [] 0 0 := by
  refine Law.of_walk (plainFor_of_name (by decide +kernel)) (by decide +kernel) (by decide +kernel) (by decide) (fun _ _ h => by rw [h.1]; rfl) (fun _ U U' hal hh h => ⟨h.1, h.2.1.mv hal hh, h.2.2.1, h.2.2.2.1.mv hal hh, h.2.2.2.2⟩) (fun r U U' V V' h1 hal h2 h => Says01.mv r U U' V V' h1 hal h2 h) ?_
  intro p e s m args below meth c s₁ X0 hexec hbytes hml hret hlk hnm hown hh0 W hP
  obtain ⟨rfl, hA, tA, hB, tB⟩ := hP
  have a31 := hA.2.2.2
  have b31 := hB.2.2.2
  have hA0 := hA.mv X0.warmed.alike hh0
  have hB0 := hB.mv X0.warmed.alike hh0
  have c1 : Steps p.tables e below (s₁.setTop (entryFrame m #[.ref a, .ref b] 3)) (s₁.setTop (mkF m 0 #[.val (.ref a), .val (.ref b), .unset] [])) := entry rfl
  have c2 : Steps p.tables e below (s₁.setTop (entryFrame m #[.ref a, .ref b] 3)) (s₁.setTop (mkF m 4 #[.val (.ref a), .val (.ref b), .unset] [.int (Int32.ofNat B.slots.size), .int (Int32.ofNat A.slots.size)])) := c1.trans (by
    refine XS.aloadN X0.here hexec rfl (hb hbytes d0) rfl rfl ?_
    refine X0.alen hexec hA0 rfl rfl (hb hbytes d1) ?_
    refine XS.aloadN X0.here hexec rfl (hb hbytes d2) rfl rfl ?_
    refine X0.alen hexec hB0 rfl rfl (hb hbytes d3) ?_
    exact Steps.refl _)
  by_cases hs : A.slots.size = B.slots.size
  · have c3 : Steps p.tables e below (s₁.setTop (entryFrame m #[.ref a, .ref b] 3)) (s₁.setTop (mkF m 9 #[.val (.ref a), .val (.ref b), .val (.int 0)] [])) := c2.trans (by
      refine XS.icmpNo X0.here hexec rfl (hb hbytes d4) rfl (ii_ne_f (by rw [hs])) ?_
      refine iconstV X0.here hexec rfl 0 (hb hbytes d7) (by decide) ?_
      refine XS.istoreN X0.here hexec rfl (hb hbytes d8) rfl rfl ?_
      exact Steps.refl _)
    have loop : ∀ (r i : Nat), i + r = A.slots.size → (∀ j, j < i → yv A j = yv B j) → Steps p.tables e below (s₁.setTop (entryFrame m #[.ref a, .ref b] 3)) (s₁.setTop (mkF m 9 #[.val (.ref a), .val (.ref b), .val (.int (Int32.ofNat i))] [])) → ∃ (pc : Nat) (Ls : Array Slot) (v : Int32), (pc = 25 ∨ pc = 33) ∧ ((v = 1 ∧ EqC A B) ∨ (v = 0 ∧ ¬ EqC A B)) ∧ Steps p.tables e below (s₁.setTop (entryFrame m #[.ref a, .ref b] 3)) (s₁.setTop (mkF m pc Ls [.int v])) := by
      intro r
      induction r with
      | zero =>
        intro i hi he cl
        exact ⟨33, _, 1, Or.inr rfl, Or.inl ⟨rfl, hs, fun j hj => he j (by omega)⟩, cl.trans (by
          refine XS.iloadN X0.here hexec rfl (hb hbytes d9) rfl ?_
          refine XS.aloadN X0.here hexec rfl (hb hbytes d10) rfl rfl ?_
          refine X0.alen hexec hA0 rfl rfl (hb hbytes d11) ?_
          refine XS.icmpYes X0.here hexec rfl (pc0 := 12) rfl (hb hbytes d12) rfl (ii_ge_t (nlt32 (by omega) (by omega))) (by decide) rfl ?_
          refine iconstV X0.here hexec rfl 1 (hb hbytes d32) (by decide) ?_
          exact Steps.refl _)⟩
      | succ r ih =>
        intro i hi he cl
        have c4 : Steps p.tables e below (s₁.setTop (entryFrame m #[.ref a, .ref b] 3)) (s₁.setTop (mkF m 21 #[.val (.ref a), .val (.ref b), .val (.int (Int32.ofNat i))] [.int (yv B i), .int (yv A i)])) := cl.trans (by
          refine XS.iloadN X0.here hexec rfl (hb hbytes d9) rfl ?_
          refine XS.aloadN X0.here hexec rfl (hb hbytes d10) rfl rfl ?_
          refine X0.alen hexec hA0 rfl rfl (hb hbytes d11) ?_
          refine XS.icmpNo X0.here hexec rfl (hb hbytes d12) rfl (ii_ge_f (lt32 (by omega) (by omega))) ?_
          refine XS.aloadN X0.here hexec rfl (hb hbytes d15) rfl rfl ?_
          refine XS.iloadN X0.here hexec rfl (hb hbytes d16) rfl ?_
          refine X0.aget hexec hA0 rfl (yv_get hA tA (i := i) (by omega)) rfl rfl (hb hbytes d17) ?_
          refine XS.aloadN X0.here hexec rfl (hb hbytes d18) rfl rfl ?_
          refine XS.iloadN X0.here hexec rfl (hb hbytes d19) rfl ?_
          refine X0.aget hexec hB0 rfl (yv_get hB tB (i := i) (by omega)) rfl rfl (hb hbytes d20) ?_
          exact Steps.refl _)
        by_cases hv : yv A i = yv B i
        · have c5 : Steps p.tables e below (s₁.setTop (entryFrame m #[.ref a, .ref b] 3)) (s₁.setTop (mkF m 9 #[.val (.ref a), .val (.ref b), .val (.int (Int32.ofNat i + 1))] [])) := c4.trans (by
            refine XS.icmpYes X0.here hexec rfl (pc0 := 21) rfl (hb hbytes d21) rfl (ii_eq_t hv) (by decide) rfl ?_
            refine iincV X0.here hexec rfl 1 (hb hbytes d26) (by decide) rfl rfl ?_
            refine XS.goto X0.here hexec rfl (pc0 := 29) rfl (hb hbytes d29) (by decide) rfl ?_
            exact Steps.refl _)
          rw [succ32] at c5
          exact ih (i + 1) (by omega) (fun j hj => by
            by_cases e : j = i
            · rw [e]; exact hv
            · exact he j (by omega)) c5
        · exact ⟨25, _, 0, Or.inl rfl, Or.inr ⟨rfl, fun q => hv (q.2 i (by omega))⟩, c4.trans (by
            refine XS.icmpNo X0.here hexec rfl (hb hbytes d21) rfl (ii_eq_f hv) ?_
            refine iconstV X0.here hexec rfl 0 (hb hbytes d24) (by decide) ?_
            exact Steps.refl _)⟩
    obtain ⟨pc, Ls, v, hpc, hv, cz⟩ := loop A.slots.size 0 (by omega) (fun j hj => absurd hj (Nat.not_lt_zero j)) c3
    have nv : narrow .boolean (.int v) = .int v := by rcases hv with ⟨rfl, -⟩ | ⟨rfl, -⟩ <;> rfl
    rcases hpc with rfl | rfl
    · exact ⟨s₁, some (.int v), _, _, _, X0, rfl, rfl, rfl, (fun h => by cases h), ⟨v, rfl, hh0, hv⟩, fun fs hl => cz.trans (X0.ireturnOut hexec hret nv (Or.inr (Or.inl rfl)) (hb hbytes d25) hl)⟩
    · exact ⟨s₁, some (.int v), _, _, _, X0, rfl, rfl, rfl, (fun h => by cases h), ⟨v, rfl, hh0, hv⟩, fun fs hl => cz.trans (X0.ireturnOut hexec hret nv (Or.inr (Or.inl rfl)) (hb hbytes d33) hl)⟩
  · have c3 : Steps p.tables e below (s₁.setTop (entryFrame m #[.ref a, .ref b] 3)) (s₁.setTop (mkF m 35 #[.val (.ref a), .val (.ref b), .unset] [.int 0])) := c2.trans (by
      refine XS.icmpYes X0.here hexec rfl (pc0 := 4) rfl (hb hbytes d4) rfl (ii_ne_t (ne32 a31 b31 hs)) (by decide) rfl ?_
      refine iconstV X0.here hexec rfl 0 (hb hbytes d34) (by decide) ?_
      exact Steps.refl _)
    exact ⟨s₁, some (.int 0), _, _, _, X0, rfl, rfl, rfl, (fun h => by cases h), ⟨0, rfl, hh0, Or.inr ⟨rfl, fun q => hs q.1⟩⟩, fun fs hl => c3.trans (X0.ireturnOut hexec hret rfl (Or.inr (Or.inl rfl)) (hb hbytes d35) hl)⟩
end LEq
theorem Cod.ty {cd : Int32} {n : Nat} {f : Nat → Int32} {V : Cell} (h : Cod cd n f V) : Typed .byte V := fun i v hv => by
  have hi : i < V.slots.size := (Array.getElem?_eq_some_iff.mp hv).1
  rcases h with ⟨-, k1, k2⟩ | ⟨-, k1, k2, -⟩
  · rw [(k2 i (by omega)).1] at hv; cases hv; exact fits_lo8 _
  · rcases Nat.mod_two_eq_zero_or_one i with e | e
    · obtain ⟨j, rfl⟩ : ∃ j, i = 2 * j := ⟨i / 2, by omega⟩
      rw [(k2 j (by omega)).1] at hv; cases hv; exact fits_lo8 _
    · obtain ⟨j, rfl⟩ : ∃ j, i = 2 * j + 1 := ⟨i / 2, by omega⟩
      rw [(k2 j (by omega)).2] at hv; cases hv; exact fits_lo8 _
/-- the same text -/
def SameT (n : Nat) (f : Nat → Int32) (k : Nat) (g : Nat → Int32) : Prop := n = k ∧ ∀ j, j < n → f j = g j
theorem lo8_inj {x y : Int32} (h0 : ¬ x < 0) (h1 : ¬ 255 < x) (k0 : ¬ y < 0) (k1 : ¬ 255 < y) (h : lo8 x = lo8 y) : x = y := by
  rw [← lo8_mask h0 h1, ← lo8_mask k0 k1, h]
/-- arrays coded by one coder are equal just where the texts are -/
theorem Cod.eqv {cd : Int32} {n k : Nat} {f g : Nat → Int32} {V V' : Cell} (h : Cod cd n f V) (h' : Cod cd k g V') (hf : ∀ j, j < n → ¬ f j < 0 ∧ ¬ 65535 < f j) (hg : ∀ j, j < k → ¬ g j < 0 ∧ ¬ 65535 < g j) : EqC V V' ↔ SameT n f k g := by
  have yvv : ∀ {W : Cell} {i : Nat} {x : Int32}, W.slots[i]? = some (.int x) → yv W i = x := fun q => by unfold yv; rw [q]
  rcases h with ⟨rfl, k1, k2⟩ | ⟨rfl, k1, k2, -⟩
  · rcases h' with ⟨-, m1, m2⟩ | ⟨e, -⟩
    · constructor
      · rintro ⟨e1, e2⟩
        refine ⟨by omega, fun j hj => ?_⟩
        have q := e2 j (by omega)
        rw [yvv (k2 j hj).1, yvv (m2 j (by omega)).1] at q
        exact lo8_inj (hf j hj).1 (k2 j hj).2 (hg j (by omega)).1 (m2 j (by omega)).2 q
      · rintro ⟨rfl, e2⟩
        refine ⟨by omega, fun j hj => ?_⟩
        rw [yvv (k2 j (by omega)).1, yvv (m2 j (by omega)).1, e2 j (by omega)]
    · exact absurd e (by decide)
  · rcases h' with ⟨e, -⟩ | ⟨-, m1, m2, -⟩
    · exact absurd e (by decide)
    · constructor
      · rintro ⟨e1, e2⟩
        refine ⟨by omega, fun j hj => ?_⟩
        have q1 := e2 (2 * j) (by omega)
        have q2 := e2 (2 * j + 1) (by omega)
        rw [yvv (k2 j hj).1, yvv (m2 j (by omega)).1] at q1
        rw [yvv (k2 j hj).2, yvv (m2 j (by omega)).2] at q2
        rw [← pair_says (hf j hj).1 (hf j hj).2, ← pair_says (hg j (by omega)).1 (hg j (by omega)).2, q1, q2]
      · rintro ⟨rfl, e2⟩
        refine ⟨by omega, fun i hi => ?_⟩
        rcases Nat.mod_two_eq_zero_or_one i with e | e
        · obtain ⟨j, rfl⟩ : ∃ j, i = 2 * j := ⟨i / 2, by omega⟩
          rw [yvv (k2 j (by omega)).1, yvv (m2 j (by omega)).1, e2 j (by omega)]
        · obtain ⟨j, rfl⟩ : ∃ j, i = 2 * j + 1 := ⟨i / 2, by omega⟩
          rw [yvv (k2 j (by omega)).2, yvv (m2 j (by omega)).2, e2 j (by omega)]
/-- two codings differ: so do the texts -/
theorem Cod.dif {cd cd' : Int32} {n k : Nat} {f g : Nat → Int32} {V V' : Cell} (h : Cod cd n f V) (h' : Cod cd' k g V') (hne : ¬ cd = cd') : ¬ SameT n f k g := by
  rintro ⟨rfl, e⟩
  rcases h with ⟨rfl, -, k2⟩ | ⟨rfl, -, -, j, hj, hw⟩
  · rcases h' with ⟨rfl, -⟩ | ⟨-, -, -, j, hj, hw⟩
    · exact hne rfl
    · exact (k2 j hj).2 (by rw [e j hj]; exact hw)
  · rcases h' with ⟨-, -, m2⟩ | ⟨rfl, -⟩
    · exact (m2 j hj).2 (by rw [← e j hj]; exact hw)
    · exact hne rfl
/-- an object of exactly C is an instance of C -/
theorem cinst {p : Program} {l : Launch} {e : Env} {R : Room} {s : State} {m : MethodId} {args : Array Value} {below : List Frame} {meth : Method} {c : Code} {T : State} {locs : List Loc} {cells slots : Nat} (X : Stand p l e R s m args below meth c T locs cells slots) (hexec : p.tables.exec = Jvm.exec) {own C : String} {index : Nat} (hown : s.vm.findClass own = some m.cls) (hlink : (Cond.classLink own index C).before args s = true) {a : Addr} (hE : Exact C a T)
    {g : JFrame} (hg : g.method = m) {rest : List Value} (hstack : g.stack = .ref a :: rest) (hdg : decode c.code g.pc = .ok (.instanceof index, 3)) :
    ∃ T', Stand p l e R s m args below meth c T' locs cells slots ∧ T'.heap = T.heap ∧ ∀ target, Steps p.tables e below (T'.setTop { g with pc := g.pc + 3, stack := .int 1 :: rest }) target → Steps p.tables e below (T.setTop g) target := by
  obtain ⟨cB, h1, D, h2, h3, h4⟩ := hE
  have h1' : s.vm.findClass C = some cB := by rw [← X.warmed.alike.findClass]; exact h1
  obtain ⟨vm', X', st⟩ := X.instanceofYes hexec hown hlink h2 h4 h1' (by rw [h3]; exact Jvm.Free.SB.assignable_self _ _) hg hstack hdg
  exact ⟨_, X', rfl, st⟩
theorem cself {p : Program} {l : Launch} {e : Env} {R : Room} {s : State} {m : MethodId} {args : Array Value} {below : List Frame} {meth : Method} {c : Code} {T : State} {locs : List Loc} {cells slots : Nat} (X : Stand p l e R s m args below meth c T locs cells slots) (hexec : p.tables.exec = Jvm.exec) {own C : String} {index : Nat} (hown : s.vm.findClass own = some m.cls) (hlink : (Cond.classLink own index C).before args s = true) {a : Addr} (hE : Exact C a T)
    {g : JFrame} (hg : g.method = m) {rest : List Value} (hstack : g.stack = .ref a :: rest) (hdg : decode c.code g.pc = .ok (.checkcast index, 3)) :
    ∃ T', Stand p l e R s m args below meth c T' locs cells slots ∧ T'.heap = T.heap ∧ ∀ target, Steps p.tables e below (T'.setTop { g with pc := g.pc + 3, stack := .ref a :: rest }) target → Steps p.tables e below (T.setTop g) target := by
  obtain ⟨cB, h1, D, h2, h3, h4⟩ := hE
  have h1' : s.vm.findClass C = some cB := by rw [← X.warmed.alike.findClass]; exact h1
  obtain ⟨vm', X', st⟩ := X.checkcastYes hexec hown hlink h2 h4 h1' (by rw [h3]; exact Jvm.Free.SB.assignable_self _ _) hg hstack hdg
  exact ⟨_, X', rfl, fun t h => st t (by rw [← hstack] at h; exact h)⟩
namespace SEq
def yN : MethodName := ⟨"java/lang/String", "equals", "(Ljava/lang/Object;)Z"⟩
abbrev yB : ByteArray := jdk_42_method_66_code
theorem d0 : decode yB 0 = .ok (.aload_n 0, 1) := by decide +kernel
theorem d1 : decode yB 1 = .ok (.aload_n 1, 1) := by decide +kernel
theorem d2 : decode yB 2 = .ok (.if_acmp (.ne) 5, 3) := by decide +kernel
theorem d5 : decode yB 5 = .ok (.iconst 1, 1) := by decide +kernel
theorem d6 : decode yB 6 = .ok (.ireturn, 1) := by decide +kernel
theorem d7 : decode yB 7 = .ok (.aload_n 1, 1) := by decide +kernel
theorem d8 : decode yB 8 = .ok (.instanceof 10, 3) := by decide +kernel
theorem d11 : decode yB 11 = .ok (.ifCond (.eq) 43, 3) := by decide +kernel
theorem d14 : decode yB 14 = .ok (.aload_n 1, 1) := by decide +kernel
theorem d15 : decode yB 15 = .ok (.checkcast 10, 3) := by decide +kernel
theorem d18 : decode yB 18 = .ok (.astore_n 2, 1) := by decide +kernel
theorem d19 : decode yB 19 = .ok (.getstatic 38, 3) := by decide +kernel
theorem d22 : decode yB 22 = .ok (.ifCond (.eq) 14, 3) := by decide +kernel
theorem d25 : decode yB 25 = .ok (.aload_n 0, 1) := by decide +kernel
theorem d26 : decode yB 26 = .ok (.getfield 15, 3) := by decide +kernel
theorem d29 : decode yB 29 = .ok (.aload_n 2, 1) := by decide +kernel
theorem d30 : decode yB 30 = .ok (.getfield 15, 3) := by decide +kernel
theorem d33 : decode yB 33 = .ok (.if_icmp (.ne) 21, 3) := by decide +kernel
theorem d36 : decode yB 36 = .ok (.aload_n 0, 1) := by decide +kernel
theorem d37 : decode yB 37 = .ok (.getfield 9, 3) := by decide +kernel
theorem d40 : decode yB 40 = .ok (.aload_n 2, 1) := by decide +kernel
theorem d41 : decode yB 41 = .ok (.getfield 9, 3) := by decide +kernel
theorem d44 : decode yB 44 = .ok (.invokestatic 541, 3) := by decide +kernel
theorem d47 : decode yB 47 = .ok (.ifCond (.eq) 7, 3) := by decide +kernel
theorem d50 : decode yB 50 = .ok (.iconst 1, 1) := by decide +kernel
theorem d51 : decode yB 51 = .ok (.goto 4, 3) := by decide +kernel
theorem d54 : decode yB 54 = .ok (.iconst 0, 1) := by decide +kernel
theorem d55 : decode yB 55 = .ok (.ireturn, 1) := by decide +kernel
def site : List Cond := [.classLink "java/lang/String" 10 "java/lang/String", .fieldLink "java/lang/String" 38 "java/lang/String" "COMPACT_STRINGS" "Z", .fieldLink "java/lang/String" 15 "java/lang/String" "coder" "B", .fieldLink "java/lang/String" 9 "java/lang/String" "value" "[B", LEq.tab] ++ staticW "java/lang/String" 541 LEq.yN
def tab : Cond := tabOf yN yB 3 (some .boolean) site
def P (x t : Addr) (V : Cell) (cd : Int32) (n : Nat) (f : Nat → Int32) (y t' : Addr) (V' : Cell) (cd' : Int32) (k : Nat) (g : Nat → Int32) (z : Int32) (args : Array Value) (s : State) : Prop := args = #[.ref x, .ref y] ∧ Txt x t V cd n f s ∧ Txt y t' V' cd' k g s ∧ StaticIs s "java/lang/String" "COMPACT_STRINGS" "Z" (.int z) ∧ ¬ z = 0
/-- equals(Object) of two Strings: whether the texts are the same -/
theorem law (l : Launch) (x t : Addr) (V : Cell) (cd : Int32) (n : Nat) (f : Nat → Int32) (y t' : Addr) (V' : Cell) (cd' : Int32) (k : Nat) (g : Nat → Int32) (z : Int32) : Law l yN 2 1 1 14 yB 3 (some .boolean) site (P x t V cd n f y t' V' cd' k g z) (Says01 (SameT n f k g)) [] 0 0 := by
  refine Law.of_walk (plainFor_of_name (by decide +kernel)) (by decide +kernel) (by decide +kernel) (by decide) (fun _ _ h => by rw [h.1]; rfl) (fun _ U U' hal hh h => ⟨h.1, h.2.1.mv hal hh, h.2.2.1.mv hal hh, h.2.2.2.1.there hal hh, h.2.2.2.2⟩) (fun r U U' V V' h1 hal h2 h => Says01.mv r U U' V V' h1 hal h2 h) ?_
  intro p e s m args below meth c s₁ X0 hexec hbytes hml hret hlk hnm hown hh0 W hP
  obtain ⟨rfl, hx, hy, s1, hz⟩ := hP
  have c1 : Steps p.tables e below (s₁.setTop (entryFrame m #[.ref x, .ref y] 3)) (s₁.setTop (mkF m 2 #[.val (.ref x), .val (.ref y), .unset] [.ref y, .ref x])) := Steps.trans (entry rfl) (by
    show Steps p.tables e below (s₁.setTop (mkF m 0 #[.val (.ref x), .val (.ref y), .unset] [])) _
    refine XS.aloadN X0.here hexec rfl (hb hbytes d0) rfl rfl ?_
    refine XS.aloadN X0.here hexec rfl (hb hbytes d1) rfl rfl ?_
    exact Steps.refl _)
  by_cases hxy : x = y
  · have c2 : Steps p.tables e below (s₁.setTop (entryFrame m #[.ref x, .ref y] 3)) (s₁.setTop (mkF m 6 #[.val (.ref x), .val (.ref y), .unset] [.int 1])) := c1.trans (by
      refine acmpNo X0.here hexec rfl (hb hbytes d2) rfl rfl rfl (by simp [acmp, hxy]) ?_
      refine iconstV X0.here hexec rfl 1 (hb hbytes d5) (by decide) ?_
      exact Steps.refl _)
    subst hxy
    have ec : cd = cd' := by
      obtain ⟨D, fd, a1, a2, a3⟩ := hx.2.2.1
      obtain ⟨D', fd', b1, b2, b3⟩ := hy.2.2.1
      cases a1.symm.trans b1
      obtain ⟨q1, q2, q3, q4⟩ := a2.1
      obtain ⟨r1, r2, r3, r4⟩ := b2.1
      cases q4.symm.trans r4
      cases a3.symm.trans b3; rfl
    have et : t = t' := by
      obtain ⟨D, fd, a1, a2, a3⟩ := hx.2.1
      obtain ⟨D', fd', b1, b2, b3⟩ := hy.2.1
      cases a1.symm.trans b1
      obtain ⟨q1, q2, q3, q4⟩ := a2.1
      obtain ⟨r1, r2, r3, r4⟩ := b2.1
      cases q4.symm.trans r4
      cases a3.symm.trans b3; rfl
    subst ec et
    have ev : V = V' := by cases hx.2.2.2.1.1.symm.trans hy.2.2.2.1.1; rfl
    subst ev
    have hs : SameT n f k g := (Cod.eqv hx.2.2.2.2.1 hy.2.2.2.2.1 hx.2.2.2.2.2 hy.2.2.2.2.2).mp ⟨rfl, fun _ _ => rfl⟩
    exact ⟨s₁, some (.int 1), _, _, _, X0, rfl, rfl, rfl, (fun h => by cases h), ⟨1, rfl, hh0, Or.inl ⟨rfl, hs⟩⟩, fun fs hl => c2.trans (X0.ireturnOut hexec hret rfl (Or.inr (Or.inl rfl)) (hb hbytes d6) hl)⟩
  · have c2 : Steps p.tables e below (s₁.setTop (entryFrame m #[.ref x, .ref y] 3)) (s₁.setTop (mkF m 8 #[.val (.ref x), .val (.ref y), .unset] [.ref y])) := c1.trans (by
      refine acmpYes X0.here hexec rfl (pc0 := 2) rfl (hb hbytes d2) rfl rfl rfl (by simp [acmp, hxy]) (by decide) rfl ?_
      refine XS.aloadN X0.here hexec rfl (hb hbytes d7) rfl rfl ?_
      exact Steps.refl _)
    obtain ⟨T3, X3, q3, st3⟩ := cinst X0 hexec hown (wk W (.classLink "java/lang/String" 10 "java/lang/String")) (hy.mv X0.warmed.alike hh0).1 (g := (mkF m 8 #[.val (.ref x), .val (.ref y), .unset] [.ref y])) rfl (rest := []) rfl (hb hbytes d8)
    have hh3 := q3.trans hh0
    have c4 : Steps p.tables e below (s₁.setTop (entryFrame m #[.ref x, .ref y] 3)) (T3.setTop (mkF m 15 #[.val (.ref x), .val (.ref y), .unset] [.ref y])) := (c2.trans (st3 _ (Steps.refl _))).trans (by
      refine XS.ifNo X3.here hexec rfl (hb hbytes d11) rfl (i0_eq_f (by decide)) ?_
      refine XS.aloadN X3.here hexec rfl (hb hbytes d14) rfl rfl ?_
      exact Steps.refl _)
    obtain ⟨T5, X5, q5, st5⟩ := cself X3 hexec hown (wk W (.classLink "java/lang/String" 10 "java/lang/String")) (hy.mv X3.warmed.alike hh3).1 (g := (mkF m 15 #[.val (.ref x), .val (.ref y), .unset] [.ref y])) rfl (rest := []) rfl (hb hbytes d15)
    have hh5 := q5.trans hh3
    have c6 : Steps p.tables e below (s₁.setTop (entryFrame m #[.ref x, .ref y] 3)) (T5.setTop (mkF m 19 #[.val (.ref x), .val (.ref y), .val (.ref y)] [])) := (c4.trans (st5 _ (Steps.refl _))).trans (by
      refine XS.astoreN X5.here hexec rfl (hb hbytes d18) rfl rfl rfl ?_
      exact Steps.refl _)
    obtain ⟨T7, X7, q7, st7⟩ := X5.sget hexec hown (wk W (.fieldLink "java/lang/String" 38 "java/lang/String" "COMPACT_STRINGS" "Z")) s1 (fun _ _ h => by rw [hh5]; exact h) (g := (mkF m 19 #[.val (.ref x), .val (.ref y), .val (.ref y)] [])) rfl (hb hbytes d19)
    have hh7 := q7.trans hh5
    have c8 : Steps p.tables e below (s₁.setTop (entryFrame m #[.ref x, .ref y] 3)) (T7.setTop (mkF m 26 #[.val (.ref x), .val (.ref y), .val (.ref y)] [.ref x])) := (c6.trans (st7 _ (Steps.refl _))).trans (by
      refine XS.ifNo X7.here hexec rfl (hb hbytes d22) rfl (i0_eq_f hz) ?_
      refine XS.aloadN X7.here hexec rfl (hb hbytes d25) rfl rfl ?_
      exact Steps.refl _)
    obtain ⟨T9, X9, q9, st9⟩ := X7.hget hexec hown (wk W (.fieldLink "java/lang/String" 15 "java/lang/String" "coder" "B")) (hx.mv X7.warmed.alike hh7).2.2.1 (g := (mkF m 26 #[.val (.ref x), .val (.ref y), .val (.ref y)] [.ref x])) rfl (rest := []) rfl (hb hbytes d26)
    have hh9 := q9.trans hh7
    have c10 : Steps p.tables e below (s₁.setTop (entryFrame m #[.ref x, .ref y] 3)) (T9.setTop (mkF m 30 #[.val (.ref x), .val (.ref y), .val (.ref y)] [.ref y, .int cd])) := (c8.trans (st9 _ (Steps.refl _))).trans (by
      refine XS.aloadN X9.here hexec rfl (hb hbytes d29) rfl rfl ?_
      exact Steps.refl _)
    obtain ⟨T11, X11, q11, st11⟩ := X9.hget hexec hown (wk W (.fieldLink "java/lang/String" 15 "java/lang/String" "coder" "B")) (hy.mv X9.warmed.alike hh9).2.2.1 (g := (mkF m 30 #[.val (.ref x), .val (.ref y), .val (.ref y)] [.ref y, .int cd])) rfl (rest := [.int cd]) rfl (hb hbytes d30)
    have hh11 := q11.trans hh9
    have c12 : Steps p.tables e below (s₁.setTop (entryFrame m #[.ref x, .ref y] 3)) (T11.setTop (mkF m 33 #[.val (.ref x), .val (.ref y), .val (.ref y)] [.int cd', .int cd])) := c10.trans (st11 _ (Steps.refl _))
    by_cases hcd : cd = cd'
    · subst hcd
      have c13 : Steps p.tables e below (s₁.setTop (entryFrame m #[.ref x, .ref y] 3)) (T11.setTop (mkF m 37 #[.val (.ref x), .val (.ref y), .val (.ref y)] [.ref x])) := c12.trans (by
        refine XS.icmpNo X11.here hexec rfl (hb hbytes d33) rfl (ii_ne_f rfl) ?_
        refine XS.aloadN X11.here hexec rfl (hb hbytes d36) rfl rfl ?_
        exact Steps.refl _)
      obtain ⟨T14, X14, q14, st14⟩ := X11.hget hexec hown (wk W (.fieldLink "java/lang/String" 9 "java/lang/String" "value" "[B")) (hx.mv X11.warmed.alike hh11).2.1 (g := (mkF m 37 #[.val (.ref x), .val (.ref y), .val (.ref y)] [.ref x])) rfl (rest := []) rfl (hb hbytes d37)
      have hh14 := q14.trans hh11
      have c15 : Steps p.tables e below (s₁.setTop (entryFrame m #[.ref x, .ref y] 3)) (T14.setTop (mkF m 41 #[.val (.ref x), .val (.ref y), .val (.ref y)] [.ref y, .ref t])) := (c13.trans (st14 _ (Steps.refl _))).trans (by
        refine XS.aloadN X14.here hexec rfl (hb hbytes d40) rfl rfl ?_
        exact Steps.refl _)
      obtain ⟨T16, X16, q16, st16⟩ := X14.hget hexec hown (wk W (.fieldLink "java/lang/String" 9 "java/lang/String" "value" "[B")) (hy.mv X14.warmed.alike hh14).2.1 (g := (mkF m 41 #[.val (.ref x), .val (.ref y), .val (.ref y)] [.ref y, .ref t])) rfl (rest := [.ref t]) rfl (hb hbytes d41)
      have hh16 := q16.trans hh14
      have c17 : Steps p.tables e below (s₁.setTop (entryFrame m #[.ref x, .ref y] 3)) (T16.setTop (mkF m 44 #[.val (.ref x), .val (.ref y), .val (.ref y)] [.ref t', .ref t])) := c15.trans (st16 _ (Steps.refl _))
      obtain ⟨v18, T18, X18, E18, g18⟩ := X16.callS hexec (LEq.law l t V t' V') hown (wks W (staticW "java/lang/String" 541 LEq.yN)) (wk W LEq.tab) (W := 0) (Nat.le_of_ble_eq_true rfl) (Nat.le_of_ble_eq_true rfl) (Nat.le_refl _) (Nat.le_refl _) (g := (mkF m 44 #[.val (.ref x), .val (.ref y), .val (.ref y)] [.ref t', .ref t])) rfl (by rw [hml]; rfl) c17 (argsL := [.ref t, .ref t']) (rest := []) rfl rfl (by show 2 * 0 + 0 ≤ _; decide) (hb hbytes d44) (⟨rfl, hx.2.2.2.1.mv X16.warmed.alike hh16, hx.2.2.2.2.1.ty, hy.2.2.2.1.mv X16.warmed.alike hh16, hy.2.2.2.2.1.ty⟩)
      obtain ⟨v, rfl, q18, hv⟩ := E18
      have iff := Cod.eqv hx.2.2.2.2.1 hy.2.2.2.2.1 hx.2.2.2.2.2 hy.2.2.2.2.2
      rcases hv with ⟨rfl, he⟩ | ⟨rfl, he⟩
      · have c19 : Steps p.tables e below (s₁.setTop (entryFrame m #[.ref x, .ref y] 3)) (T18.setTop (mkF m 55 #[.val (.ref x), .val (.ref y), .val (.ref y)] [.int 1])) := Steps.trans g18 (by
          refine XS.ifNo X18.here hexec rfl (hb hbytes d47) rfl (i0_eq_f (by decide)) ?_
          refine iconstV X18.here hexec rfl 1 (hb hbytes d50) (by decide) ?_
          refine XS.goto X18.here hexec rfl (pc0 := 51) rfl (hb hbytes d51) (by decide) rfl ?_
          exact Steps.refl _)
        exact ⟨T18, some (.int 1), _, _, _, X18, rfl, rfl, rfl, (fun h => by cases h), ⟨1, rfl, q18.trans hh16, Or.inl ⟨rfl, iff.mp he⟩⟩, fun fs hl => c19.trans (X18.ireturnOut hexec hret rfl (Or.inr (Or.inl rfl)) (hb hbytes d55) hl)⟩
      · have c19 : Steps p.tables e below (s₁.setTop (entryFrame m #[.ref x, .ref y] 3)) (T18.setTop (mkF m 55 #[.val (.ref x), .val (.ref y), .val (.ref y)] [.int 0])) := Steps.trans g18 (by
          refine XS.ifYes X18.here hexec rfl (pc0 := 47) rfl (hb hbytes d47) rfl (i0_eq_t rfl) (by decide) rfl ?_
          refine iconstV X18.here hexec rfl 0 (hb hbytes d54) (by decide) ?_
          exact Steps.refl _)
        exact ⟨T18, some (.int 0), _, _, _, X18, rfl, rfl, rfl, (fun h => by cases h), ⟨0, rfl, q18.trans hh16, Or.inr ⟨rfl, fun q => he (iff.mpr q)⟩⟩, fun fs hl => c19.trans (X18.ireturnOut hexec hret rfl (Or.inr (Or.inl rfl)) (hb hbytes d55) hl)⟩
    · have c13 : Steps p.tables e below (s₁.setTop (entryFrame m #[.ref x, .ref y] 3)) (T11.setTop (mkF m 55 #[.val (.ref x), .val (.ref y), .val (.ref y)] [.int 0])) := c12.trans (by
        refine XS.icmpYes X11.here hexec rfl (pc0 := 33) rfl (hb hbytes d33) rfl (ii_ne_t hcd) (by decide) rfl ?_
        refine iconstV X11.here hexec rfl 0 (hb hbytes d54) (by decide) ?_
        exact Steps.refl _)
      exact ⟨T11, some (.int 0), _, _, _, X11, rfl, rfl, rfl, (fun h => by cases h), ⟨0, rfl, hh11, Or.inr ⟨rfl, Cod.dif hx.2.2.2.2.1 hy.2.2.2.2.1 hcd⟩⟩, fun fs hl => c13.trans (X11.ireturnOut hexec hret rfl (Or.inr (Or.inl rfl)) (hb hbytes d55) hl)⟩
theorem pays {l : Launch} {R : Room} {p : Program} {e : Env} {below : List Frame} {s : State} {sargs : Array Value} {len W : Nat} (x t : Addr) (V : Cell) (cd : Int32) (n : Nat) (f : Nat → Int32) (y t' : Addr) (V' : Cell) (cd' : Int32) (k : Nat) (g : Nat → Int32) (z : Int32) (htab : tab.before sargs s = true) (hfr : 2 ≤ R.frames) (hlo : W + 28 ≤ R.locals) :
    Back l R p e below s sargs yN len W (fun A₁ a₁ => A₁.cells + 0 ≤ R.cells ∧ A₁.slots + 0 ≤ R.slots ∧ P x t V cd n f y t' V' cd' k g z a₁ A₁.U) (fun A₁ _ v₁ B₁ => Says01 (SameT n f k g) v₁ A₁.U B₁.U ∧ B₁.locs = A₁.locs ++ [] ∧ B₁.cells = A₁.cells + 0 ∧ B₁.slots = A₁.slots + 0) :=
  (law l x t V cd n f y t' V' cd' k g z).pays htab hfr (by omega)
end SEq
end StrChars
namespace StrChars.Road
open Jvm Sem ClassFile Op Lib Jvm.Stand Jvm.Free Jvm.Free.XT
open Jvm.Lib.Cold (StaticIs)
/-- the words of String.equals(Object) -/
abbrev wordsEq : List Jvm.Cond := [.code SEq.yN SEq.yB 3 (some .boolean), .initialized ST, .classLink ST 10 ST, .fieldLink ST 38 ST "COMPACT_STRINGS" "Z", .fieldLink ST 15 ST "coder" "B", .fieldLink ST 9 ST "value" "[B", .methodLink ST 541 LEq.yN, .static LEq.yN, .code LEq.yN LEq.yB 3 (some .boolean), .initialized "java/lang/StringLatin1"]
theorem tabEq_of {a : Array Value} {s : State} (h : ∀ w ∈ wordsEq, w.before a s = true) : SEq.tab.before a s = true := by
  have hl : LEq.tab.before a s = true := unparts (wk h (.code LEq.yN LEq.yB 3 (some .boolean))) (wks h (.initialized LEq.yN.cls :: LEq.site))
  have q := consq hl h
  exact unparts (wk q (.code SEq.yN SEq.yB 3 (some .boolean))) (wks q (.initialized SEq.yN.cls :: SEq.site))
theorem movedEq {Z s : State} {a0 args : Array Value} (hZ : Z.Warmed39 s.vm) (hw : ∀ d ∈ wordsEq, d.before a0 Z = true) : ∀ d ∈ wordsEq, d.before args s = true := fun d hd => by
  have t : ∀ d ∈ wordsEq, (d.onTables && d.keepsFace) = true := by decide +kernel
  exact RoadKit.mv hZ (hw d hd) (t d hd)
/-- the road's facts of a String, as the laws ask it -/
theorem txt_of {Z U : State} {a0 : Array Value} {kI : Nat} (wi : (Jvm.Cond.instantiable ST kI).before a0 Z = true) (al : Z.vm.Alike U.vm) {x t : Addr} {kb : ClassId} {cs : List Int32} {cd N2 : Int32} {vs : List Value} (E : RoadKit.Exa Z U.heap x ST) (V : RoadKit.Fld Z U.heap x ST "value" "[B" (.ref t)) (C : RoadKit.Fld Z U.heap x ST "coder" "B" (.int cd)) (K : RoadKit.Arv Z U.heap t kb .byte N2 vs (.int 0)) (hc : CodA cs cd N2 vs) (hb : ∀ c ∈ cs, ¬ c < 0 ∧ ¬ (65535 : Int32) < c) (l2 : cs.length ≤ 4000) :
    ∃ A, Txt x t A cd cs.length (fun j => cs.getD j 0) U := by
  obtain ⟨A, K1, K2, K3, K4, K5, K6⟩ := K
  have hcod := hc.cod (by omega) K3 K5
  obtain ⟨D, fV, fC, hB, F1, F2, g1, g2, -, -⟩ := strObj wi al E V C
  exact ⟨A, ⟨_, hB.2.2.1, D, hB.1, rfl, by cases q : D.vm <;> first | rfl | exact absurd q (hB.2.1.2 _)⟩, Has.of hB F1 g1, Has.of hB F2 g2, ⟨K1.1, State.isArrayOf_alike al K1.2.1, K1.2.2, by rcases hcod with ⟨-, q, -⟩ | ⟨-, q, -⟩ <;> omega⟩, hcod, fun j hj => by
    have e : cs.getD j 0 = cs[j] := by simp [List.getD_eq_getElem?_getD, hj]
    show ¬ cs.getD j 0 < 0 ∧ ¬ 65535 < cs.getD j 0
    rw [e]; exact hb _ (List.getElem_mem _)⟩
theorem same_list (cs ds : List Int32) : SameT cs.length (fun j => cs.getD j 0) ds.length (fun j => ds.getD j 0) ↔ cs = ds := by
  constructor
  · rintro ⟨e, q⟩
    refine List.ext_getElem e fun j h1 h2 => ?_
    have := q j h1
    simpa [List.getD_eq_getElem?_getD, h1, h2] using this
  · rintro rfl
    exact ⟨rfl, fun _ _ => rfl⟩
/-- **equals(Object) OF TWO SUCH STRINGS**: 1 just where the chars are the same -/
theorem eqW {p : Program} {l : Launch} {e : Env} {R : Room} {s : State} {args : Array Value} {below : List Frame} {len W : Nat} {Z : State} {a0 : Array Value} {h : Heap} (hZ : Z.Warmed39 s.vm) (hw : ∀ d ∈ wordsEq, d.before a0 Z = true) {kI : Nat} (wi : (Jvm.Cond.instantiable ST kI).before a0 Z = true)
    {x t : Addr} {kb : ClassId} {cs : List Int32} {cd N2 : Int32} {vs : List Value} (E : RoadKit.Exa Z h x ST) (V : RoadKit.Fld Z h x ST "value" "[B" (.ref t)) (C : RoadKit.Fld Z h x ST "coder" "B" (.int cd)) (K : RoadKit.Arv Z h t kb .byte N2 vs (.int 0)) (hc : CodA cs cd N2 vs) (hb : ∀ c ∈ cs, ¬ c < 0 ∧ ¬ (65535 : Int32) < c) (l2 : cs.length ≤ 4000)
    {y t' : Addr} {kb' : ClassId} {ds : List Int32} {cd' N2' : Int32} {vs' : List Value} (E' : RoadKit.Exa Z h y ST) (V' : RoadKit.Fld Z h y ST "value" "[B" (.ref t')) (C' : RoadKit.Fld Z h y ST "coder" "B" (.int cd')) (K' : RoadKit.Arv Z h t' kb' .byte N2' vs' (.int 0)) (hc' : CodA ds cd' N2' vs') (hb' : ∀ c ∈ ds, ¬ c < 0 ∧ ¬ (65535 : Int32) < c) (l2' : ds.length ≤ 4000)
    {z : Int32} (S : RoadKit.Sta Z h ST "COMPACT_STRINGS" "Z" (.int z)) (hz : ¬ z = 0) (hfr : 2 ≤ R.frames) (hlo : W + 28 ≤ R.locals) :
    Back l R p e below s args (⟨"java/lang/String", "equals", "(Ljava/lang/Object;)Z"⟩ : MethodName) len W (fun P a => a = #[.ref x, .ref y] ∧ P.U.heap = h ∧ P.cells + 0 ≤ R.cells ∧ P.slots + 0 ≤ R.slots)
      (fun P _ v B => ∃ L, (((v = some (.int 1) ∧ cs = ds) ∨ (v = some (.int 0) ∧ ¬ cs = ds)) ∧ L = [] ∧ B.U.heap = h) ∧ B.locs = P.locs ++ L ∧ B.cells = P.cells + 0 ∧ B.slots = P.slots + 0) := by
  intro m meth c P g ig mk a X hg hsize hdg hW hn hp'
  obtain ⟨rfl, rfl, r1, r2⟩ := hp'
  have al : Z.vm.Alike P.U.vm := hZ.alike.trans X.warmed.alike
  obtain ⟨A, hx⟩ := txt_of wi al E V C K hc hb l2
  obtain ⟨A', hy⟩ := txt_of wi al E' V' C' K' hc' hb' l2'
  obtain ⟨v, B, X', ⟨⟨w, hv, hh, hq⟩, hl, hk, hs⟩, st⟩ := SEq.pays x t A cd cs.length (fun j => cs.getD j 0) y t' A' cd' ds.length (fun j => ds.getD j 0) z (tabEq_of (movedEq hZ hw)) hfr hlo m meth c P g ig mk _ X hg hsize hdg hW hn ⟨r1, r2, rfl, hx, hy, sta_is al S, hz⟩
  refine ⟨v, B, X', ⟨[], ⟨?_, rfl, hh⟩, hl, hk, hs⟩, st⟩
  rcases hq with ⟨rfl, q⟩ | ⟨rfl, q⟩
  · exact Or.inl ⟨hv, (same_list cs ds).mp q⟩
  · exact Or.inr ⟨hv, fun e => q ((same_list cs ds).mpr e)⟩
end StrChars.Road
namespace StrChars.Road
open Jvm Sem ClassFile Op Lib Jvm.Stand Jvm.Free Jvm.Free.XT
open Jvm.Lib.Cold (StaticIs)
/-- what backV says of its String, as the contracts of this text ask it: cs's low bytes, coder 0 -/
theorem codOf {cs : List Int32} {n : Nat} (hn : cs.length = n) (hb : ∀ c ∈ cs, ¬ 255 < c) : CodA cs 0 (Int32.ofNat n) ((cs.map lo8).map Value.int) := Or.inl ⟨rfl, by rw [hn], by simp [List.map_map, Function.comp_def], hb⟩
end StrChars.Road
end Jvm.Pilot.@@N@@
namespace Jvm.Pilot.@@N@@
open Jvm Jvm.ClassFile Sem Op Lib Jvm.Free Jvm.Stand Jvm.LawKit Jvm.RoadKit Bundle Jvm.Pilot.@@N@@.Jvm.D
def own_EL : List (String × Nat) := [("com/example/vouchsafe/vouchsafe/AuditTally", 36), ("com/example/vouchsafe/vouchsafe/AuditTally", 38), ("com/example/vouchsafe/vouchsafe/AuditTally", 40), ("com/example/vouchsafe/vouchsafe/AuditTallyLastPinLaw", 17), ("com/example/vouchsafe/vouchsafe/AuditTallyLastPinLaw", 19), ("com/example/vouchsafe/vouchsafe/AuditTallyLastPinLaw", 21), ("com/example/vouchsafe/vouchsafe/AuditTallyLastPinLaw", 37), ("com/example/vouchsafe/vouchsafe/AuditTallyLastPinLaw", 39), ("com/example/vouchsafe/vouchsafe/AuditTallyLastPinLaw", 41), ("com/example/vouchsafe/vouchsafe/AuditTallyLastPinLaw", 43), ("com/example/vouchsafe/vouchsafe/LogEntry", 29)]
theorem own_hEL {Z : State} {a0 : Array Value} (hw : ∀ d ∈ tables_1, d.before a0 Z = true) : EW Z a0 own_EL := EW.cons (hw _ (List.mem_of_getElem? (i := 115) rfl)) (by decide) (EW.cons (hw _ (List.mem_of_getElem? (i := 112) rfl)) (by decide) (EW.cons (hw _ (List.mem_of_getElem? (i := 58) rfl)) (by decide) (EW.cons (hw _ (List.mem_of_getElem? (i := 114) rfl)) (by decide) (EW.cons (hw _ (List.mem_of_getElem? (i := 111) rfl)) (by decide) (EW.cons (hw _ (List.mem_of_getElem? (i := 50) rfl)) (by decide) (EW.cons (hw _ (List.mem_of_getElem? (i := 68) rfl)) (by decide) (EW.cons (hw _ (List.mem_of_getElem? (i := 69) rfl)) (by decide) (EW.cons (hw _ (List.mem_of_getElem? (i := 113) rfl)) (by decide) (EW.cons (hw _ (List.mem_of_getElem? (i := 70) rfl)) (by decide) (EW.cons (hw _ (List.mem_of_getElem? (i := 97) rfl)) (by decide) (EW.nil)))))))))))
theorem own_wS {Z : State} {a0 : Array Value} (hw : ∀ d ∈ tables_1, d.before a0 Z = true) : ∀ d ∈ Bundle.stringAtoms, d.before a0 Z = true := fun d hd => hw d ((by decide +kernel : ∀ d ∈ Bundle.stringAtoms, d ∈ tables_1) d hd)
theorem own_wE {Z : State} {a0 : Array Value} (hw : ∀ d ∈ tables_1, d.before a0 Z = true) : ∀ d ∈ StrChars.Road.wordsEq, d.before a0 Z = true := fun d hd => hw d ((by decide +kernel : ∀ d ∈ StrChars.Road.wordsEq, d ∈ tables_1) d hd)
theorem own_wV {Z : State} {a0 : Array Value} (hw : ∀ d ∈ tables_1, d.before a0 Z = true) : ∀ d ∈ StrChars.Road.words, d.before a0 Z = true := fun d hd => hw d ((by decide +kernel : ∀ d ∈ StrChars.Road.words, d ∈ tables_1) d hd)
/-- a String that spells these bytes -/
def own_S (Z : State) (h : Heap) (a : Addr) (z : Int32) (vs : List Value) : Prop := Exa Z h a "java/lang/String" ∧ Fld Z h a "java/lang/String" "coder" "B" (.int 0) ∧ ∃ (b : Addr) (k : ClassId), Fld Z h a "java/lang/String" "value" "[B" (.ref b) ∧ Arv Z h b k .byte z vs (.int 0)
theorem own_byte (x : Int32) : ¬ (nar .char ((x &&& (255 : Int32)).toUInt32.toUInt16.toUInt32.toInt32)) < 0 ∧ ¬ ((255 : Int32) < nar .char ((x &&& (255 : Int32)).toUInt32.toUInt16.toUInt32.toInt32)) := by
  have e0 : nar .char ((x &&& (255 : Int32)).toUInt32.toUInt16.toUInt32.toInt32) = (x &&& (255 : Int32)).toUInt32.toUInt16.toUInt32.toInt32 := by simp only [nar, UInt32.toUInt32_toInt32, UInt16.toUInt16_toUInt32]
  have h : (x &&& (255 : Int32)).toUInt32.toUInt16.toUInt32.toInt32 = x &&& (255 : Int32) := by
    have h2 : (x &&& (255 : Int32)).toBitVec.toNat ≤ 255 := by
      rw [Int32.toBitVec_and, BitVec.toNat_and]
      exact Nat.and_le_right
    apply Int32.toBitVec_inj.mp
    apply BitVec.eq_of_toNat_eq
    show ((x &&& (255 : Int32)).toUInt32.toUInt16.toUInt32).toNat = ((x &&& (255 : Int32)).toUInt32).toNat
    have h3 : ((x &&& (255 : Int32)).toUInt32).toNat ≤ 255 := h2
    rw [UInt16.toNat_toUInt32, UInt32.toNat_toUInt16]
    omega
  have h1 : ¬ ((x &&& (255 : Int32)) < 0) := fun h => absurd ((Jvm.Free.XT.and_neg32 _ _).mp h).2 (by decide)
  rw [e0, h]
  refine ⟨h1, ?_⟩
  rw [Int32.lt_iff_toInt_lt]
  have e : (255 : Int32).toInt = 255 := rfl
  have h2 : (x &&& (255 : Int32)).toBitVec.toNat ≤ 255 := by
    rw [Int32.toBitVec_and, BitVec.toNat_and]
    exact Nat.and_le_right
  have h3 : (x &&& (255 : Int32)).toInt = ((x &&& (255 : Int32)).toBitVec.toNat : Int) := by
    show (x &&& (255 : Int32)).toBitVec.toInt = _
    rw [BitVec.toInt_eq_toNat_of_lt (by omega)]
  omega
theorem own_more (q : Int64) : ¬ ((q &&& (9223372036854775807 : Int64)) + (1 : Int64) = 0) := fun h => by
  have h1 : ¬ ((q &&& (9223372036854775807 : Int64)) < 0) := fun h => absurd ((Jvm.Free.XT.and_neg64 _ _).mp h).2 (by decide)
  have h2 : (q &&& (9223372036854775807 : Int64)) = (-1 : Int64) := by
    have := congrArg (· - (1 : Int64)) h
    simpa [Int64.add_sub_cancel] using this
  rw [h2] at h1
  exact h1 (by decide)
theorem dr_0 : decode jdk_30_method_1_code 0 = .ok (.aload_n 0, 1) := by decide +kernel
theorem dr_1 : decode jdk_30_method_1_code 1 = .ok (.invokespecial 1, 3) := by decide +kernel
theorem dr_4 : decode jdk_30_method_1_code 4 = .ok (.return_, 1) := by decide +kernel
theorem pn_java_lang_Record : plainName "java/lang/Record" = true := by first | (simp [plainName, overriddenIn]; done) | decide +kernel
theorem ef_r (m : MethodId) (x0 : Addr) : entryFrame m #[(.ref x0)] 1 = mkF m 0 #[.val (.ref x0)] [] := by first | (simp [entryFrame, mkF, argsToLocals, Value.category]; done) | rfl
def Qr (Z : State) (a1 : Addr) (h0 : Heap) (n0 : Nat) (v : Option Value) (h : Heap) (L : List Loc) : Prop := v = none ∧ Fr n0 L ∧ h = h0
set_option maxRecDepth 65536 in
set_option maxHeartbeats 40000000 in
theorem rmr (l : Launch) (Z : State) (a0 : Array Value) (hw : ∀ d ∈ tables_1, d.before a0 Z = true) (ws : List Jvm.Cond) (a1 : Addr) (h0 : Heap) (n0 : Nat) (Z0 : n0 ≤ h0.size)  :
    MetFree l (⟨"java/lang/Record", "<init>", "()V"⟩ : MethodName) (head1 (Jvm.Cond.code (⟨"java/lang/Record", "<init>", "()V"⟩ : MethodName) jdk_30_method_1_code 1 none :: ws) ({ frames := 1, cells := 0, slots := 0, locals := 12 } : Room)) (fun a U => a = #[(.ref a1)] ∧ Z.Warmed39 U.vm ∧ U.heap = h0) (fun _ _ _ _ _ => True) (fun _ U o U' => ∃ v L, o = .returned v ∧ Qr Z a1 h0 n0 v U'.heap L ∧ FrameEnd U o U' L ({ frames := 1, cells := 0, slots := 0, locals := 12 } : Room).cells ({ frames := 1, cells := 0, slots := 0, locals := 12 } : Room).slots) := by
  refine MetFree.of_bodySF (plainFor_of_name pn_java_lang_Record) hisR ?_
  intro p e s m args below meth c s₁ Bd hml0 hP hK
  obtain ⟨rfl, hZ, hh⟩ := hP
  have hx := Bd.exec
  have hby := Bd.bytes
  have hlk : meth.locks = false := BodyLoose.notSynchronized Bd
  have hml : c.maxLocals = 1 := hml0
  have hown : s.vm.findClass "java/lang/Record" = some m.cls := findClass_of_methodNamed Bd.named
  have hnm := (name_of_methodNamed Bd.named Bd.method).1
  have X0 : Stand p l e ({ frames := 1, cells := 0, slots := 0, locals := 12 } : Room) s m #[(.ref a1)] below meth c s₁ [] 0 0 := Stand.of_body Bd
  have e0 : s₁.heap = h0 := by rw [← hh, Bd.state]; rfl
  have N0 := Fr.nil n0
  show own_G p.tables e below s (Qr Z a1 h0 n0) ({ frames := 1, cells := 0, slots := 0, locals := 12 } : Room).cells ({ frames := 1, cells := 0, slots := 0, locals := 12 } : Room).slots (s₁.setTop (entryFrame m #[(.ref a1)] 1))
  refine own_go (fun t k => castTop (ef_r m a1) k) ?_
  show own_G p.tables e below s _ _ _ (s₁.setTop (mkF m 0 #[.val (.ref a1)] []))
  refine own_go (fun t k => XS.aloadN X0.here hx rfl (hb hby dr_0) rfl rfl k) ?_
  show own_G p.tables e below s _ _ _ (s₁.setTop (mkF m 1 #[.val (.ref a1)] [(.ref a1)]))
  obtain ⟨T1, X1, e1, st1⟩ := initO X0 hx hZ hown (hw _ (List.mem_of_getElem? (i := 41) rfl)) (hw _ (List.mem_of_getElem? (i := 12) rfl)) (hw _ (List.mem_of_getElem? (i := 13) rfl)) e0 (g := (mkF m 1 #[.val (.ref a1)] [(.ref a1)])) rfl (by rw [hml]; rfl) rfl (hb hby dr_1) (by decide) (W := 0) (by show 2 * 0 + _ ≤ _; exact Nat.le_of_eq rfl) (by decide)
  refine own_go st1 ?_
  show own_G p.tables e below s _ _ _ (T1.setTop (mkF m 4 #[.val (.ref a1)] []))
  exact own_retV X1 hx hlk Bd.returns (hb hby dr_4) (by rw [e1]; exact ⟨rfl, N0, rfl⟩) (by decide) (by decide)
theorem da0_0 : decode prog_12_method_1_code 0 = .ok (.aload_n 0, 1) := by decide +kernel
theorem pd___V : parseMethodDescriptor "()V" = some ⟨[], none⟩ := by decide +kernel
theorem da0_1 : decode prog_12_method_1_code 1 = .ok (.invokespecial 1, 3) := by decide +kernel
theorem da0_4 : decode prog_12_method_1_code 4 = .ok (.aload_n 0, 1) := by decide +kernel
theorem da0_5 : decode prog_12_method_1_code 5 = .ok (.lload_n 1, 1) := by decide +kernel
theorem da0_6 : decode prog_12_method_1_code 6 = .ok (.putfield 7, 3) := by decide +kernel
theorem da0_9 : decode prog_12_method_1_code 9 = .ok (.aload_n 0, 1) := by decide +kernel
theorem da0_10 : decode prog_12_method_1_code 10 = .ok (.lload_n 3, 1) := by decide +kernel
theorem da0_11 : decode prog_12_method_1_code 11 = .ok (.putfield 13, 3) := by decide +kernel
theorem da0_14 : decode prog_12_method_1_code 14 = .ok (.aload_n 0, 1) := by decide +kernel
theorem da0_15 : decode prog_12_method_1_code 15 = .ok (.iload 5, 2) := by decide +kernel
theorem da0_17 : decode prog_12_method_1_code 17 = .ok (.putfield 16, 3) := by decide +kernel
theorem da0_20 : decode prog_12_method_1_code 20 = .ok (.aload_n 0, 1) := by decide +kernel
theorem da0_21 : decode prog_12_method_1_code 21 = .ok (.aload 6, 2) := by decide +kernel
theorem da0_23 : decode prog_12_method_1_code 23 = .ok (.putfield 20, 3) := by decide +kernel
theorem da0_26 : decode prog_12_method_1_code 26 = .ok (.return_, 1) := by decide +kernel
theorem pn_com_example_vouchsafe_vouchsafe_AuditTally : plainName "com/example/vouchsafe/vouchsafe/AuditTally" = true := by first | (simp [plainName, overriddenIn]; done) | decide +kernel
theorem ef_a0 (m : MethodId) (x0 : Addr) (x1 : Int64) (x2 : Int64) (x3 : Int32) (x4 : Addr) : entryFrame m #[(.ref x0), (.long x1), (.long x2), (.int x3), (.ref x4)] 7 = mkF m 0 #[.val (.ref x0), .val (.long x1), .second, .val (.long x2), .second, .val (.int x3), .val (.ref x4)] [] := by first | (simp [entryFrame, mkF, argsToLocals, Value.category]; done) | rfl
def Qa0 (Z : State) (a1 x1 : Addr) (q1 q2 : Int64) (h0 : Heap) (n0 : Nat) (v : Option Value) (h : Heap) (L : List Loc) : Prop := v = none ∧ Fr n0 L ∧ Keep h0 h [a1] ∧ Fld Z h a1 "com/example/vouchsafe/vouchsafe/AuditTally" "audits" "J" (.long q1) ∧ Fld Z h a1 "com/example/vouchsafe/vouchsafe/AuditTally" "passed" "J" (.long q2) ∧ Fld Z h a1 "com/example/vouchsafe/vouchsafe/AuditTally" "lastPassed" "Z" (.int (0 : Int32))
set_option maxRecDepth 65536 in
set_option maxHeartbeats 40000000 in
theorem rma0 (l : Launch) (Z : State) (a0 : Array Value) (hw : ∀ d ∈ tables_1, d.before a0 Z = true) (ws : List Jvm.Cond) (a1 x1 : Addr) (q1 q2 : Int64) (h0 : Heap) (n0 : Nat) (Z0 : n0 ≤ h0.size) (E1 : Exa Z h0 a1 "com/example/vouchsafe/vouchsafe/AuditTally") (Faudits : Fld Z h0 a1 "com/example/vouchsafe/vouchsafe/AuditTally" "audits" "J" (.long (0 : Int64))) (Fpassed : Fld Z h0 a1 "com/example/vouchsafe/vouchsafe/AuditTally" "passed" "J" (.long (0 : Int64))) (FlastPassed : Fld Z h0 a1 "com/example/vouchsafe/vouchsafe/AuditTally" "lastPassed" "Z" (.int (0 : Int32))) (Fnewest : Fld Z h0 a1 "com/example/vouchsafe/vouchsafe/AuditTally" "newest" "Ljava/lang/String;" .null) (g1 : n0 ≤ a1) :
    MetFree l (⟨"com/example/vouchsafe/vouchsafe/AuditTally", "<init>", "(JJZLjava/lang/String;)V"⟩ : MethodName) (head1 (Jvm.Cond.code (⟨"com/example/vouchsafe/vouchsafe/AuditTally", "<init>", "(JJZLjava/lang/String;)V"⟩ : MethodName) prog_12_method_1_code 7 none :: ws) ({ frames := 2, cells := 0, slots := 0, locals := 24 } : Room)) (fun a U => a = #[(.ref a1), (.long q1), (.long q2), (.int (0 : Int32)), (.ref x1)] ∧ Z.Warmed39 U.vm ∧ U.heap = h0) (fun _ _ _ _ _ => True) (fun _ U o U' => ∃ v L, o = .returned v ∧ Qa0 Z a1 x1 q1 q2 h0 n0 v U'.heap L ∧ FrameEnd U o U' L ({ frames := 2, cells := 0, slots := 0, locals := 24 } : Room).cells ({ frames := 2, cells := 0, slots := 0, locals := 24 } : Room).slots) := by
  refine MetFree.of_bodySF (plainFor_of_name pn_com_example_vouchsafe_vouchsafe_AuditTally) hisR ?_
  intro p e s m args below meth c s₁ Bd hml0 hP hK
  obtain ⟨rfl, hZ, hh⟩ := hP
  have hx := Bd.exec
  have hby := Bd.bytes
  have hlk : meth.locks = false := BodyLoose.notSynchronized Bd
  have hml : c.maxLocals = 7 := hml0
  have hown : s.vm.findClass "com/example/vouchsafe/vouchsafe/AuditTally" = some m.cls := findClass_of_methodNamed Bd.named
  have hnm := (name_of_methodNamed Bd.named Bd.method).1
  have X0 : Stand p l e ({ frames := 2, cells := 0, slots := 0, locals := 24 } : Room) s m #[(.ref a1), (.long q1), (.long q2), (.int (0 : Int32)), (.ref x1)] below meth c s₁ [] 0 0 := Stand.of_body Bd
  have e0 : s₁.heap = h0 := by rw [← hh, Bd.state]; rfl
  have N0 := Fr.nil n0
  show own_G p.tables e below s (Qa0 Z a1 x1 q1 q2 h0 n0) ({ frames := 2, cells := 0, slots := 0, locals := 24 } : Room).cells ({ frames := 2, cells := 0, slots := 0, locals := 24 } : Room).slots (s₁.setTop (entryFrame m #[(.ref a1), (.long q1), (.long q2), (.int (0 : Int32)), (.ref x1)] 7))
  refine own_go (fun t k => castTop (ef_a0 m a1 q1 q2 (0 : Int32) x1) k) ?_
  show own_G p.tables e below s _ _ _ (s₁.setTop (mkF m 0 #[.val (.ref a1), .val (.long q1), .second, .val (.long q2), .second, .val (.int (0 : Int32)), .val (.ref x1)] []))
  refine own_go (fun t k => XS.aloadN X0.here hx rfl (hb hby da0_0) rfl rfl k) ?_
  show own_G p.tables e below s _ _ _ (s₁.setTop (mkF m 1 #[.val (.ref a1), .val (.long q1), .second, .val (.long q2), .second, .val (.int (0 : Int32)), .val (.ref x1)] [(.ref a1)]))
  obtain ⟨_, _, ⟨T2, L2, k2, n2⟩, -, X2, ⟨Lc2, hQ2, l2, y2, z2⟩, st2⟩ := X0.specialBack hx (y := (⟨"java/lang/Record", "<init>", "()V"⟩ : MethodName)) rfl hown (mvT hZ (hw _ (List.mem_of_getElem? (i := 36) rfl))) (mvT hZ (hw _ (List.mem_of_getElem? (i := 37) rfl))) (mvT hZ (hw _ (List.mem_of_getElem? (i := 40) rfl))) (by decide) (backOf (W := 0) (rmr l Z a0 hw [] a1 h0 n0 Z0) hZ (hw _ (List.mem_of_getElem? (i := 40) rfl)) (hw _ (List.mem_of_getElem? (i := 39) rfl)) (by decide) (by decide)) (g := (mkF m 1 #[.val (.ref a1), .val (.long q1), .second, .val (.long q2), .second, .val (.int (0 : Int32)), .val (.ref x1)] [(.ref a1)])) rfl (by rw [hml]; rfl) (Steps.refl _) (a := a1) (argsL := []) (rest := []) (lenOf pd___V rfl) rfl (by show 2 * 0 + _ ≤ _; exact Nat.le_of_eq rfl) (hb hby da0_1) (fun _ _ => ⟨rfl, e0, (by decide : 0 + 0 ≤ _), (by decide : 0 + 0 ≤ _)⟩)
  dsimp only [Pt.U, Pt.locs, Pt.cells, Pt.slots] at X2 l2 y2 z2 st2 hQ2
  subst l2 y2 z2
  obtain ⟨rfl, N2q, hh2⟩ := hQ2
  have N2 := Fr.app N0 N2q
  refine own_go (fun t k => st2.trans k) ?_
  show own_G p.tables e below s _ _ _ (T2.setTop (mkF m 4 #[.val (.ref a1), .val (.long q1), .second, .val (.long q2), .second, .val (.int (0 : Int32)), .val (.ref x1)] []))
  refine own_go (fun t k => XS.aloadN X2.here hx rfl (hb hby da0_4) rfl rfl k) ?_
  show own_G p.tables e below s _ _ _ (T2.setTop (mkF m 5 #[.val (.ref a1), .val (.long q1), .second, .val (.long q2), .second, .val (.int (0 : Int32)), .val (.ref x1)] [(.ref a1)]))
  refine own_go (fun t k => XS.lloadN X2.here hx rfl (hb hby da0_5) rfl k) ?_
  show own_G p.tables e below s _ _ _ (T2.setTop (mkF m 6 #[.val (.ref a1), .val (.long q1), .second, .val (.long q2), .second, .val (.int (0 : Int32)), .val (.ref x1)] [(.long q1), (.ref a1)]))
  obtain ⟨T3, h3, X3, e3, W3, st3⟩ := putF X2 hx hZ hown (host := "") (Or.inl (hw _ (List.mem_of_getElem? (i := 42) rfl))) Via.refl hh2 Faudits E1 (Or.inr ⟨(hw _ (List.mem_of_getElem? (i := 43) rfl)), rfl, hnm⟩) (hw _ (List.mem_of_getElem? (i := 31) rfl)) (ty := .long) (by decide) rfl rfl (g := (mkF m 6 #[.val (.ref a1), .val (.long q1), .second, .val (.long q2), .second, .val (.int (0 : Int32)), .val (.ref x1)] [(.long q1), (.ref a1)])) rfl rfl (hb hby da0_6)
  have N3 := Fr.snoc X3 N2 g1
  refine own_go st3 ?_
  have f4 := Fld.same W3 Faudits
  have f5 := Exa.wr W3 E1
  have f6 := Fld.other W3 Fpassed (Or.inr (slot_ne (Or.inr (hw _ (List.mem_of_getElem? (i := 45) rfl))) (Or.inr (hw _ (List.mem_of_getElem? (i := 43) rfl))) (by decide) (t := .long) (t' := .long) (by decide) (by decide)))
  have f7 := Fld.other W3 FlastPassed (Or.inr (slot_ne (Or.inr (hw _ (List.mem_of_getElem? (i := 47) rfl))) (Or.inr (hw _ (List.mem_of_getElem? (i := 43) rfl))) (by decide) (t := .boolean) (t' := .long) (by decide) (by decide)))
  have f8 := Fld.other W3 Fnewest (Or.inr (slot_ne (Or.inr (hw _ (List.mem_of_getElem? (i := 49) rfl))) (Or.inr (hw _ (List.mem_of_getElem? (i := 43) rfl))) (by decide) (t := (.object "java/lang/String")) (t' := .long) (by decide) (by decide)))
  have z9 := Nat.le_trans Z0 (Keep.of_wr W3).1
  have k10 := (Keep.refl h0 [a1]).wr W3 (Or.inl (List.mem_of_getElem? (i := 0) rfl))
  show own_G p.tables e below s _ _ _ (T3.setTop (mkF m 9 #[.val (.ref a1), .val (.long q1), .second, .val (.long q2), .second, .val (.int (0 : Int32)), .val (.ref x1)] []))
  refine own_go (fun t k => XS.aloadN X3.here hx rfl (hb hby da0_9) rfl rfl k) ?_
  show own_G p.tables e below s _ _ _ (T3.setTop (mkF m 10 #[.val (.ref a1), .val (.long q1), .second, .val (.long q2), .second, .val (.int (0 : Int32)), .val (.ref x1)] [(.ref a1)]))
  refine own_go (fun t k => XS.lloadN X3.here hx rfl (hb hby da0_10) rfl k) ?_
  show own_G p.tables e below s _ _ _ (T3.setTop (mkF m 11 #[.val (.ref a1), .val (.long q1), .second, .val (.long q2), .second, .val (.int (0 : Int32)), .val (.ref x1)] [(.long q2), (.ref a1)]))
  obtain ⟨T11, h11, X11, e11, W11, st11⟩ := putF X3 hx hZ hown (host := "") (Or.inl (hw _ (List.mem_of_getElem? (i := 44) rfl))) Via.refl e3 f6 f5 (Or.inr ⟨(hw _ (List.mem_of_getElem? (i := 45) rfl)), rfl, hnm⟩) (hw _ (List.mem_of_getElem? (i := 31) rfl)) (ty := .long) (by decide) rfl rfl (g := (mkF m 11 #[.val (.ref a1), .val (.long q1), .second, .val (.long q2), .second, .val (.int (0 : Int32)), .val (.ref x1)] [(.long q2), (.ref a1)])) rfl rfl (hb hby da0_11)
  have N11 := Fr.snoc X11 N3 g1
  refine own_go st11 ?_
  have f12 := Fld.same W11 f6
  have f13 := Exa.wr W11 f5
  have f14 := Fld.other W11 f4 (Or.inr (slot_ne (Or.inr (hw _ (List.mem_of_getElem? (i := 43) rfl))) (Or.inr (hw _ (List.mem_of_getElem? (i := 45) rfl))) (by decide) (t := .long) (t' := .long) (by decide) (by decide)))
  have f15 := Fld.other W11 f7 (Or.inr (slot_ne (Or.inr (hw _ (List.mem_of_getElem? (i := 47) rfl))) (Or.inr (hw _ (List.mem_of_getElem? (i := 45) rfl))) (by decide) (t := .boolean) (t' := .long) (by decide) (by decide)))
  have f16 := Fld.other W11 f8 (Or.inr (slot_ne (Or.inr (hw _ (List.mem_of_getElem? (i := 49) rfl))) (Or.inr (hw _ (List.mem_of_getElem? (i := 45) rfl))) (by decide) (t := (.object "java/lang/String")) (t' := .long) (by decide) (by decide)))
  have z17 := Nat.le_trans z9 (Keep.of_wr W11).1
  have k18 := k10.wr W11 (Or.inl (List.mem_of_getElem? (i := 0) rfl))
  show own_G p.tables e below s _ _ _ (T11.setTop (mkF m 14 #[.val (.ref a1), .val (.long q1), .second, .val (.long q2), .second, .val (.int (0 : Int32)), .val (.ref x1)] []))
  refine own_go (fun t k => XS.aloadN X11.here hx rfl (hb hby da0_14) rfl rfl k) ?_
  show own_G p.tables e below s _ _ _ (T11.setTop (mkF m 15 #[.val (.ref a1), .val (.long q1), .second, .val (.long q2), .second, .val (.int (0 : Int32)), .val (.ref x1)] [(.ref a1)]))
  refine own_go (fun t k => XS.iload X11.here hx rfl (hb hby da0_15) rfl k) ?_
  show own_G p.tables e below s _ _ _ (T11.setTop (mkF m 17 #[.val (.ref a1), .val (.long q1), .second, .val (.long q2), .second, .val (.int (0 : Int32)), .val (.ref x1)] [(.int (0 : Int32)), (.ref a1)]))
  obtain ⟨T19, h19, X19, e19, W19, st19⟩ := putF X11 hx hZ hown (host := "") (Or.inl (hw _ (List.mem_of_getElem? (i := 46) rfl))) Via.refl e11 f15 f13 (Or.inr ⟨(hw _ (List.mem_of_getElem? (i := 47) rfl)), rfl, hnm⟩) (hw _ (List.mem_of_getElem? (i := 31) rfl)) (ty := .boolean) (by decide) rfl rfl (g := (mkF m 17 #[.val (.ref a1), .val (.long q1), .second, .val (.long q2), .second, .val (.int (0 : Int32)), .val (.ref x1)] [(.int (0 : Int32)), (.ref a1)])) rfl rfl (hb hby da0_17)
  have N19 := Fr.snoc X19 N11 g1
  refine own_go st19 ?_
  have f20 := Fld.same W19 f15
  have f21 := Exa.wr W19 f13
  have f22 := Fld.other W19 f14 (Or.inr (slot_ne (Or.inr (hw _ (List.mem_of_getElem? (i := 43) rfl))) (Or.inr (hw _ (List.mem_of_getElem? (i := 47) rfl))) (by decide) (t := .long) (t' := .boolean) (by decide) (by decide)))
  have f23 := Fld.other W19 f12 (Or.inr (slot_ne (Or.inr (hw _ (List.mem_of_getElem? (i := 45) rfl))) (Or.inr (hw _ (List.mem_of_getElem? (i := 47) rfl))) (by decide) (t := .long) (t' := .boolean) (by decide) (by decide)))
  have f24 := Fld.other W19 f16 (Or.inr (slot_ne (Or.inr (hw _ (List.mem_of_getElem? (i := 49) rfl))) (Or.inr (hw _ (List.mem_of_getElem? (i := 47) rfl))) (by decide) (t := (.object "java/lang/String")) (t' := .boolean) (by decide) (by decide)))
  have z25 := Nat.le_trans z17 (Keep.of_wr W19).1
  have k26 := k18.wr W19 (Or.inl (List.mem_of_getElem? (i := 0) rfl))
  show own_G p.tables e below s _ _ _ (T19.setTop (mkF m 20 #[.val (.ref a1), .val (.long q1), .second, .val (.long q2), .second, .val (.int (0 : Int32)), .val (.ref x1)] []))
  refine own_go (fun t k => XS.aloadN X19.here hx rfl (hb hby da0_20) rfl rfl k) ?_
  show own_G p.tables e below s _ _ _ (T19.setTop (mkF m 21 #[.val (.ref a1), .val (.long q1), .second, .val (.long q2), .second, .val (.int (0 : Int32)), .val (.ref x1)] [(.ref a1)]))
  refine own_go (fun t k => XS.aload X19.here hx rfl (hb hby da0_21) rfl rfl k) ?_
  show own_G p.tables e below s _ _ _ (T19.setTop (mkF m 23 #[.val (.ref a1), .val (.long q1), .second, .val (.long q2), .second, .val (.int (0 : Int32)), .val (.ref x1)] [(.ref x1), (.ref a1)]))
  obtain ⟨T27, h27, X27, e27, W27, st27⟩ := putF X19 hx hZ hown (host := "") (Or.inl (hw _ (List.mem_of_getElem? (i := 48) rfl))) Via.refl e19 f24 f21 (Or.inr ⟨(hw _ (List.mem_of_getElem? (i := 49) rfl)), rfl, hnm⟩) (hw _ (List.mem_of_getElem? (i := 31) rfl)) (ty := (.object "java/lang/String")) (by decide) rfl rfl (g := (mkF m 23 #[.val (.ref a1), .val (.long q1), .second, .val (.long q2), .second, .val (.int (0 : Int32)), .val (.ref x1)] [(.ref x1), (.ref a1)])) rfl rfl (hb hby da0_23)
  have N27 := Fr.snoc X27 N19 g1
  refine own_go st27 ?_
  have f28 := Fld.same W27 f24
  have f29 := Exa.wr W27 f21
  have f30 := Fld.other W27 f22 (Or.inr (slot_ne (Or.inr (hw _ (List.mem_of_getElem? (i := 43) rfl))) (Or.inr (hw _ (List.mem_of_getElem? (i := 49) rfl))) (by decide) (t := .long) (t' := (.object "java/lang/String")) (by decide) (by decide)))
  have f31 := Fld.other W27 f23 (Or.inr (slot_ne (Or.inr (hw _ (List.mem_of_getElem? (i := 45) rfl))) (Or.inr (hw _ (List.mem_of_getElem? (i := 49) rfl))) (by decide) (t := .long) (t' := (.object "java/lang/String")) (by decide) (by decide)))
  have f32 := Fld.other W27 f20 (Or.inr (slot_ne (Or.inr (hw _ (List.mem_of_getElem? (i := 47) rfl))) (Or.inr (hw _ (List.mem_of_getElem? (i := 49) rfl))) (by decide) (t := .boolean) (t' := (.object "java/lang/String")) (by decide) (by decide)))
  have z33 := Nat.le_trans z25 (Keep.of_wr W27).1
  have k34 := k26.wr W27 (Or.inl (List.mem_of_getElem? (i := 0) rfl))
  show own_G p.tables e below s _ _ _ (T27.setTop (mkF m 26 #[.val (.ref a1), .val (.long q1), .second, .val (.long q2), .second, .val (.int (0 : Int32)), .val (.ref x1)] []))
  exact own_retV X27 hx hlk Bd.returns (hb hby da0_26) (by rw [e27]; exact ⟨rfl, N27, k34, f30, f31, f32⟩) (by decide) (by decide)
theorem da1_0 : decode prog_12_method_1_code 0 = .ok (.aload_n 0, 1) := by decide +kernel
theorem da1_1 : decode prog_12_method_1_code 1 = .ok (.invokespecial 1, 3) := by decide +kernel
theorem da1_4 : decode prog_12_method_1_code 4 = .ok (.aload_n 0, 1) := by decide +kernel
theorem da1_5 : decode prog_12_method_1_code 5 = .ok (.lload_n 1, 1) := by decide +kernel
theorem da1_6 : decode prog_12_method_1_code 6 = .ok (.putfield 7, 3) := by decide +kernel
theorem da1_9 : decode prog_12_method_1_code 9 = .ok (.aload_n 0, 1) := by decide +kernel
theorem da1_10 : decode prog_12_method_1_code 10 = .ok (.lload_n 3, 1) := by decide +kernel
theorem da1_11 : decode prog_12_method_1_code 11 = .ok (.putfield 13, 3) := by decide +kernel
theorem da1_14 : decode prog_12_method_1_code 14 = .ok (.aload_n 0, 1) := by decide +kernel
theorem da1_15 : decode prog_12_method_1_code 15 = .ok (.iload 5, 2) := by decide +kernel
theorem da1_17 : decode prog_12_method_1_code 17 = .ok (.putfield 16, 3) := by decide +kernel
theorem da1_20 : decode prog_12_method_1_code 20 = .ok (.aload_n 0, 1) := by decide +kernel
theorem da1_21 : decode prog_12_method_1_code 21 = .ok (.aload 6, 2) := by decide +kernel
theorem da1_23 : decode prog_12_method_1_code 23 = .ok (.putfield 20, 3) := by decide +kernel
theorem da1_26 : decode prog_12_method_1_code 26 = .ok (.return_, 1) := by decide +kernel
theorem ef_a1 (m : MethodId) (x0 : Addr) (x1 : Int64) (x2 : Int64) (x3 : Int32) (x4 : Addr) : entryFrame m #[(.ref x0), (.long x1), (.long x2), (.int x3), (.ref x4)] 7 = mkF m 0 #[.val (.ref x0), .val (.long x1), .second, .val (.long x2), .second, .val (.int x3), .val (.ref x4)] [] := by first | (simp [entryFrame, mkF, argsToLocals, Value.category]; done) | rfl
def Qa1 (Z : State) (a1 x1 : Addr) (q1 q2 : Int64) (h0 : Heap) (n0 : Nat) (v : Option Value) (h : Heap) (L : List Loc) : Prop := v = none ∧ Fr n0 L ∧ Keep h0 h [a1] ∧ Fld Z h a1 "com/example/vouchsafe/vouchsafe/AuditTally" "audits" "J" (.long q1) ∧ Fld Z h a1 "com/example/vouchsafe/vouchsafe/AuditTally" "passed" "J" (.long q2) ∧ Fld Z h a1 "com/example/vouchsafe/vouchsafe/AuditTally" "lastPassed" "Z" (.int (1 : Int32))
set_option maxRecDepth 65536 in
set_option maxHeartbeats 40000000 in
theorem rma1 (l : Launch) (Z : State) (a0 : Array Value) (hw : ∀ d ∈ tables_1, d.before a0 Z = true) (ws : List Jvm.Cond) (a1 x1 : Addr) (q1 q2 : Int64) (h0 : Heap) (n0 : Nat) (Z0 : n0 ≤ h0.size) (E1 : Exa Z h0 a1 "com/example/vouchsafe/vouchsafe/AuditTally") (Faudits : Fld Z h0 a1 "com/example/vouchsafe/vouchsafe/AuditTally" "audits" "J" (.long (0 : Int64))) (Fpassed : Fld Z h0 a1 "com/example/vouchsafe/vouchsafe/AuditTally" "passed" "J" (.long (0 : Int64))) (FlastPassed : Fld Z h0 a1 "com/example/vouchsafe/vouchsafe/AuditTally" "lastPassed" "Z" (.int (0 : Int32))) (Fnewest : Fld Z h0 a1 "com/example/vouchsafe/vouchsafe/AuditTally" "newest" "Ljava/lang/String;" .null) (g1 : n0 ≤ a1) :
    MetFree l (⟨"com/example/vouchsafe/vouchsafe/AuditTally", "<init>", "(JJZLjava/lang/String;)V"⟩ : MethodName) (head1 (Jvm.Cond.code (⟨"com/example/vouchsafe/vouchsafe/AuditTally", "<init>", "(JJZLjava/lang/String;)V"⟩ : MethodName) prog_12_method_1_code 7 none :: ws) ({ frames := 2, cells := 0, slots := 0, locals := 24 } : Room)) (fun a U => a = #[(.ref a1), (.long q1), (.long q2), (.int (1 : Int32)), (.ref x1)] ∧ Z.Warmed39 U.vm ∧ U.heap = h0) (fun _ _ _ _ _ => True) (fun _ U o U' => ∃ v L, o = .returned v ∧ Qa1 Z a1 x1 q1 q2 h0 n0 v U'.heap L ∧ FrameEnd U o U' L ({ frames := 2, cells := 0, slots := 0, locals := 24 } : Room).cells ({ frames := 2, cells := 0, slots := 0, locals := 24 } : Room).slots) := by
  refine MetFree.of_bodySF (plainFor_of_name pn_com_example_vouchsafe_vouchsafe_AuditTally) hisR ?_
  intro p e s m args below meth c s₁ Bd hml0 hP hK
  obtain ⟨rfl, hZ, hh⟩ := hP
  have hx := Bd.exec
  have hby := Bd.bytes
  have hlk : meth.locks = false := BodyLoose.notSynchronized Bd
  have hml : c.maxLocals = 7 := hml0
  have hown : s.vm.findClass "com/example/vouchsafe/vouchsafe/AuditTally" = some m.cls := findClass_of_methodNamed Bd.named
  have hnm := (name_of_methodNamed Bd.named Bd.method).1
  have X0 : Stand p l e ({ frames := 2, cells := 0, slots := 0, locals := 24 } : Room) s m #[(.ref a1), (.long q1), (.long q2), (.int (1 : Int32)), (.ref x1)] below meth c s₁ [] 0 0 := Stand.of_body Bd
  have e0 : s₁.heap = h0 := by rw [← hh, Bd.state]; rfl
  have N0 := Fr.nil n0
  show own_G p.tables e below s (Qa1 Z a1 x1 q1 q2 h0 n0) ({ frames := 2, cells := 0, slots := 0, locals := 24 } : Room).cells ({ frames := 2, cells := 0, slots := 0, locals := 24 } : Room).slots (s₁.setTop (entryFrame m #[(.ref a1), (.long q1), (.long q2), (.int (1 : Int32)), (.ref x1)] 7))
  refine own_go (fun t k => castTop (ef_a1 m a1 q1 q2 (1 : Int32) x1) k) ?_
  show own_G p.tables e below s _ _ _ (s₁.setTop (mkF m 0 #[.val (.ref a1), .val (.long q1), .second, .val (.long q2), .second, .val (.int (1 : Int32)), .val (.ref x1)] []))
  refine own_go (fun t k => XS.aloadN X0.here hx rfl (hb hby da1_0) rfl rfl k) ?_
  show own_G p.tables e below s _ _ _ (s₁.setTop (mkF m 1 #[.val (.ref a1), .val (.long q1), .second, .val (.long q2), .second, .val (.int (1 : Int32)), .val (.ref x1)] [(.ref a1)]))
  obtain ⟨_, _, ⟨T35, L35, k35, n35⟩, -, X35, ⟨Lc35, hQ35, l35, y35, z35⟩, st35⟩ := X0.specialBack hx (y := (⟨"java/lang/Record", "<init>", "()V"⟩ : MethodName)) rfl hown (mvT hZ (hw _ (List.mem_of_getElem? (i := 36) rfl))) (mvT hZ (hw _ (List.mem_of_getElem? (i := 37) rfl))) (mvT hZ (hw _ (List.mem_of_getElem? (i := 40) rfl))) (by decide) (backOf (W := 0) (rmr l Z a0 hw [] a1 h0 n0 Z0) hZ (hw _ (List.mem_of_getElem? (i := 40) rfl)) (hw _ (List.mem_of_getElem? (i := 39) rfl)) (by decide) (by decide)) (g := (mkF m 1 #[.val (.ref a1), .val (.long q1), .second, .val (.long q2), .second, .val (.int (1 : Int32)), .val (.ref x1)] [(.ref a1)])) rfl (by rw [hml]; rfl) (Steps.refl _) (a := a1) (argsL := []) (rest := []) (lenOf pd___V rfl) rfl (by show 2 * 0 + _ ≤ _; exact Nat.le_of_eq rfl) (hb hby da1_1) (fun _ _ => ⟨rfl, e0, (by decide : 0 + 0 ≤ _), (by decide : 0 + 0 ≤ _)⟩)
  dsimp only [Pt.U, Pt.locs, Pt.cells, Pt.slots] at X35 l35 y35 z35 st35 hQ35
  subst l35 y35 z35
  obtain ⟨rfl, N35q, hh35⟩ := hQ35
  have N35 := Fr.app N0 N35q
  refine own_go (fun t k => st35.trans k) ?_
  show own_G p.tables e below s _ _ _ (T35.setTop (mkF m 4 #[.val (.ref a1), .val (.long q1), .second, .val (.long q2), .second, .val (.int (1 : Int32)), .val (.ref x1)] []))
  refine own_go (fun t k => XS.aloadN X35.here hx rfl (hb hby da1_4) rfl rfl k) ?_
  show own_G p.tables e below s _ _ _ (T35.setTop (mkF m 5 #[.val (.ref a1), .val (.long q1), .second, .val (.long q2), .second, .val (.int (1 : Int32)), .val (.ref x1)] [(.ref a1)]))
  refine own_go (fun t k => XS.lloadN X35.here hx rfl (hb hby da1_5) rfl k) ?_
  show own_G p.tables e below s _ _ _ (T35.setTop (mkF m 6 #[.val (.ref a1), .val (.long q1), .second, .val (.long q2), .second, .val (.int (1 : Int32)), .val (.ref x1)] [(.long q1), (.ref a1)]))
  obtain ⟨T36, h36, X36, e36, W36, st36⟩ := putF X35 hx hZ hown (host := "") (Or.inl (hw _ (List.mem_of_getElem? (i := 42) rfl))) Via.refl hh35 Faudits E1 (Or.inr ⟨(hw _ (List.mem_of_getElem? (i := 43) rfl)), rfl, hnm⟩) (hw _ (List.mem_of_getElem? (i := 31) rfl)) (ty := .long) (by decide) rfl rfl (g := (mkF m 6 #[.val (.ref a1), .val (.long q1), .second, .val (.long q2), .second, .val (.int (1 : Int32)), .val (.ref x1)] [(.long q1), (.ref a1)])) rfl rfl (hb hby da1_6)
  have N36 := Fr.snoc X36 N35 g1
  refine own_go st36 ?_
  have f37 := Fld.same W36 Faudits
  have f38 := Exa.wr W36 E1
  have f39 := Fld.other W36 Fpassed (Or.inr (slot_ne (Or.inr (hw _ (List.mem_of_getElem? (i := 45) rfl))) (Or.inr (hw _ (List.mem_of_getElem? (i := 43) rfl))) (by decide) (t := .long) (t' := .long) (by decide) (by decide)))
  have f40 := Fld.other W36 FlastPassed (Or.inr (slot_ne (Or.inr (hw _ (List.mem_of_getElem? (i := 47) rfl))) (Or.inr (hw _ (List.mem_of_getElem? (i := 43) rfl))) (by decide) (t := .boolean) (t' := .long) (by decide) (by decide)))
  have f41 := Fld.other W36 Fnewest (Or.inr (slot_ne (Or.inr (hw _ (List.mem_of_getElem? (i := 49) rfl))) (Or.inr (hw _ (List.mem_of_getElem? (i := 43) rfl))) (by decide) (t := (.object "java/lang/String")) (t' := .long) (by decide) (by decide)))
  have z42 := Nat.le_trans Z0 (Keep.of_wr W36).1
  have k43 := (Keep.refl h0 [a1]).wr W36 (Or.inl (List.mem_of_getElem? (i := 0) rfl))
  show own_G p.tables e below s _ _ _ (T36.setTop (mkF m 9 #[.val (.ref a1), .val (.long q1), .second, .val (.long q2), .second, .val (.int (1 : Int32)), .val (.ref x1)] []))
  refine own_go (fun t k => XS.aloadN X36.here hx rfl (hb hby da1_9) rfl rfl k) ?_
  show own_G p.tables e below s _ _ _ (T36.setTop (mkF m 10 #[.val (.ref a1), .val (.long q1), .second, .val (.long q2), .second, .val (.int (1 : Int32)), .val (.ref x1)] [(.ref a1)]))
  refine own_go (fun t k => XS.lloadN X36.here hx rfl (hb hby da1_10) rfl k) ?_
  show own_G p.tables e below s _ _ _ (T36.setTop (mkF m 11 #[.val (.ref a1), .val (.long q1), .second, .val (.long q2), .second, .val (.int (1 : Int32)), .val (.ref x1)] [(.long q2), (.ref a1)]))
  obtain ⟨T44, h44, X44, e44, W44, st44⟩ := putF X36 hx hZ hown (host := "") (Or.inl (hw _ (List.mem_of_getElem? (i := 44) rfl))) Via.refl e36 f39 f38 (Or.inr ⟨(hw _ (List.mem_of_getElem? (i := 45) rfl)), rfl, hnm⟩) (hw _ (List.mem_of_getElem? (i := 31) rfl)) (ty := .long) (by decide) rfl rfl (g := (mkF m 11 #[.val (.ref a1), .val (.long q1), .second, .val (.long q2), .second, .val (.int (1 : Int32)), .val (.ref x1)] [(.long q2), (.ref a1)])) rfl rfl (hb hby da1_11)
  have N44 := Fr.snoc X44 N36 g1
  refine own_go st44 ?_
  have f45 := Fld.same W44 f39
  have f46 := Exa.wr W44 f38
  have f47 := Fld.other W44 f37 (Or.inr (slot_ne (Or.inr (hw _ (List.mem_of_getElem? (i := 43) rfl))) (Or.inr (hw _ (List.mem_of_getElem? (i := 45) rfl))) (by decide) (t := .long) (t' := .long) (by decide) (by decide)))
  have f48 := Fld.other W44 f40 (Or.inr (slot_ne (Or.inr (hw _ (List.mem_of_getElem? (i := 47) rfl))) (Or.inr (hw _ (List.mem_of_getElem? (i := 45) rfl))) (by decide) (t := .boolean) (t' := .long) (by decide) (by decide)))
  have f49 := Fld.other W44 f41 (Or.inr (slot_ne (Or.inr (hw _ (List.mem_of_getElem? (i := 49) rfl))) (Or.inr (hw _ (List.mem_of_getElem? (i := 45) rfl))) (by decide) (t := (.object "java/lang/String")) (t' := .long) (by decide) (by decide)))
  have z50 := Nat.le_trans z42 (Keep.of_wr W44).1
  have k51 := k43.wr W44 (Or.inl (List.mem_of_getElem? (i := 0) rfl))
  show own_G p.tables e below s _ _ _ (T44.setTop (mkF m 14 #[.val (.ref a1), .val (.long q1), .second, .val (.long q2), .second, .val (.int (1 : Int32)), .val (.ref x1)] []))
  refine own_go (fun t k => XS.aloadN X44.here hx rfl (hb hby da1_14) rfl rfl k) ?_
  show own_G p.tables e below s _ _ _ (T44.setTop (mkF m 15 #[.val (.ref a1), .val (.long q1), .second, .val (.long q2), .second, .val (.int (1 : Int32)), .val (.ref x1)] [(.ref a1)]))
  refine own_go (fun t k => XS.iload X44.here hx rfl (hb hby da1_15) rfl k) ?_
  show own_G p.tables e below s _ _ _ (T44.setTop (mkF m 17 #[.val (.ref a1), .val (.long q1), .second, .val (.long q2), .second, .val (.int (1 : Int32)), .val (.ref x1)] [(.int (1 : Int32)), (.ref a1)]))
  obtain ⟨T52, h52, X52, e52, W52, st52⟩ := putF X44 hx hZ hown (host := "") (Or.inl (hw _ (List.mem_of_getElem? (i := 46) rfl))) Via.refl e44 f48 f46 (Or.inr ⟨(hw _ (List.mem_of_getElem? (i := 47) rfl)), rfl, hnm⟩) (hw _ (List.mem_of_getElem? (i := 31) rfl)) (ty := .boolean) (by decide) rfl rfl (g := (mkF m 17 #[.val (.ref a1), .val (.long q1), .second, .val (.long q2), .second, .val (.int (1 : Int32)), .val (.ref x1)] [(.int (1 : Int32)), (.ref a1)])) rfl rfl (hb hby da1_17)
  have N52 := Fr.snoc X52 N44 g1
  refine own_go st52 ?_
  have f53 := Fld.same W52 f48
  have f54 := Exa.wr W52 f46
  have f55 := Fld.other W52 f47 (Or.inr (slot_ne (Or.inr (hw _ (List.mem_of_getElem? (i := 43) rfl))) (Or.inr (hw _ (List.mem_of_getElem? (i := 47) rfl))) (by decide) (t := .long) (t' := .boolean) (by decide) (by decide)))
  have f56 := Fld.other W52 f45 (Or.inr (slot_ne (Or.inr (hw _ (List.mem_of_getElem? (i := 45) rfl))) (Or.inr (hw _ (List.mem_of_getElem? (i := 47) rfl))) (by decide) (t := .long) (t' := .boolean) (by decide) (by decide)))
  have f57 := Fld.other W52 f49 (Or.inr (slot_ne (Or.inr (hw _ (List.mem_of_getElem? (i := 49) rfl))) (Or.inr (hw _ (List.mem_of_getElem? (i := 47) rfl))) (by decide) (t := (.object "java/lang/String")) (t' := .boolean) (by decide) (by decide)))
  have z58 := Nat.le_trans z50 (Keep.of_wr W52).1
  have k59 := k51.wr W52 (Or.inl (List.mem_of_getElem? (i := 0) rfl))
  show own_G p.tables e below s _ _ _ (T52.setTop (mkF m 20 #[.val (.ref a1), .val (.long q1), .second, .val (.long q2), .second, .val (.int (1 : Int32)), .val (.ref x1)] []))
  refine own_go (fun t k => XS.aloadN X52.here hx rfl (hb hby da1_20) rfl rfl k) ?_
  show own_G p.tables e below s _ _ _ (T52.setTop (mkF m 21 #[.val (.ref a1), .val (.long q1), .second, .val (.long q2), .second, .val (.int (1 : Int32)), .val (.ref x1)] [(.ref a1)]))
  refine own_go (fun t k => XS.aload X52.here hx rfl (hb hby da1_21) rfl rfl k) ?_
  show own_G p.tables e below s _ _ _ (T52.setTop (mkF m 23 #[.val (.ref a1), .val (.long q1), .second, .val (.long q2), .second, .val (.int (1 : Int32)), .val (.ref x1)] [(.ref x1), (.ref a1)]))
  obtain ⟨T60, h60, X60, e60, W60, st60⟩ := putF X52 hx hZ hown (host := "") (Or.inl (hw _ (List.mem_of_getElem? (i := 48) rfl))) Via.refl e52 f57 f54 (Or.inr ⟨(hw _ (List.mem_of_getElem? (i := 49) rfl)), rfl, hnm⟩) (hw _ (List.mem_of_getElem? (i := 31) rfl)) (ty := (.object "java/lang/String")) (by decide) rfl rfl (g := (mkF m 23 #[.val (.ref a1), .val (.long q1), .second, .val (.long q2), .second, .val (.int (1 : Int32)), .val (.ref x1)] [(.ref x1), (.ref a1)])) rfl rfl (hb hby da1_23)
  have N60 := Fr.snoc X60 N52 g1
  refine own_go st60 ?_
  have f61 := Fld.same W60 f57
  have f62 := Exa.wr W60 f54
  have f63 := Fld.other W60 f55 (Or.inr (slot_ne (Or.inr (hw _ (List.mem_of_getElem? (i := 43) rfl))) (Or.inr (hw _ (List.mem_of_getElem? (i := 49) rfl))) (by decide) (t := .long) (t' := (.object "java/lang/String")) (by decide) (by decide)))
  have f64 := Fld.other W60 f56 (Or.inr (slot_ne (Or.inr (hw _ (List.mem_of_getElem? (i := 45) rfl))) (Or.inr (hw _ (List.mem_of_getElem? (i := 49) rfl))) (by decide) (t := .long) (t' := (.object "java/lang/String")) (by decide) (by decide)))
  have f65 := Fld.other W60 f53 (Or.inr (slot_ne (Or.inr (hw _ (List.mem_of_getElem? (i := 47) rfl))) (Or.inr (hw _ (List.mem_of_getElem? (i := 49) rfl))) (by decide) (t := .boolean) (t' := (.object "java/lang/String")) (by decide) (by decide)))
  have z66 := Nat.le_trans z58 (Keep.of_wr W60).1
  have k67 := k59.wr W60 (Or.inl (List.mem_of_getElem? (i := 0) rfl))
  show own_G p.tables e below s _ _ _ (T60.setTop (mkF m 26 #[.val (.ref a1), .val (.long q1), .second, .val (.long q2), .second, .val (.int (1 : Int32)), .val (.ref x1)] []))
  exact own_retV X60 hx hlk Bd.returns (hb hby da1_26) (by rw [e60]; exact ⟨rfl, N60, k67, f63, f64, f65⟩) (by decide) (by decide)
theorem de_0 : decode prog_63_method_1_code 0 = .ok (.aload_n 0, 1) := by decide +kernel
theorem de_1 : decode prog_63_method_1_code 1 = .ok (.invokespecial 1, 3) := by decide +kernel
theorem de_4 : decode prog_63_method_1_code 4 = .ok (.aload_n 0, 1) := by decide +kernel
theorem de_5 : decode prog_63_method_1_code 5 = .ok (.aload_n 1, 1) := by decide +kernel
theorem de_6 : decode prog_63_method_1_code 6 = .ok (.putfield 7, 3) := by decide +kernel
theorem de_9 : decode prog_63_method_1_code 9 = .ok (.aload_n 0, 1) := by decide +kernel
theorem de_10 : decode prog_63_method_1_code 10 = .ok (.aload_n 2, 1) := by decide +kernel
theorem de_11 : decode prog_63_method_1_code 11 = .ok (.putfield 13, 3) := by decide +kernel
theorem de_14 : decode prog_63_method_1_code 14 = .ok (.aload_n 0, 1) := by decide +kernel
theorem de_15 : decode prog_63_method_1_code 15 = .ok (.aload_n 3, 1) := by decide +kernel
theorem de_16 : decode prog_63_method_1_code 16 = .ok (.putfield 16, 3) := by decide +kernel
theorem de_19 : decode prog_63_method_1_code 19 = .ok (.aload_n 0, 1) := by decide +kernel
theorem de_20 : decode prog_63_method_1_code 20 = .ok (.aload 4, 2) := by decide +kernel
theorem de_22 : decode prog_63_method_1_code 22 = .ok (.putfield 19, 3) := by decide +kernel
theorem de_25 : decode prog_63_method_1_code 25 = .ok (.aload_n 0, 1) := by decide +kernel
theorem de_26 : decode prog_63_method_1_code 26 = .ok (.aload 5, 2) := by decide +kernel
theorem de_28 : decode prog_63_method_1_code 28 = .ok (.putfield 22, 3) := by decide +kernel
theorem de_31 : decode prog_63_method_1_code 31 = .ok (.aload_n 0, 1) := by decide +kernel
theorem de_32 : decode prog_63_method_1_code 32 = .ok (.aload 6, 2) := by decide +kernel
theorem de_34 : decode prog_63_method_1_code 34 = .ok (.putfield 25, 3) := by decide +kernel
theorem de_37 : decode prog_63_method_1_code 37 = .ok (.return_, 1) := by decide +kernel
theorem pn_com_example_vouchsafe_vouchsafe_LogEntry : plainName "com/example/vouchsafe/vouchsafe/LogEntry" = true := by first | (simp [plainName, overriddenIn]; done) | decide +kernel
theorem ef_e (m : MethodId) (x0 : Addr) (x1 : Addr) (x2 : Addr) (x3 : Addr) (x4 : Addr) (x5 : Addr) (x6 : Addr) : entryFrame m #[(.ref x0), (.ref x1), (.ref x2), (.ref x3), (.ref x4), (.ref x5), (.ref x6)] 7 = mkF m 0 #[.val (.ref x0), .val (.ref x1), .val (.ref x2), .val (.ref x3), .val (.ref x4), .val (.ref x5), .val (.ref x6)] [] := by first | (simp [entryFrame, mkF, argsToLocals, Value.category]; done) | rfl
def Qe (Z : State) (a1 x0 x1 x2 x3 x4 x5 : Addr) (h0 : Heap) (n0 : Nat) (v : Option Value) (h : Heap) (L : List Loc) : Prop := v = none ∧ Fr n0 L ∧ Keep h0 h [a1] ∧ Fld Z h a1 "com/example/vouchsafe/vouchsafe/LogEntry" "eid" "Ljava/lang/String;" (.ref x0) ∧ Fld Z h a1 "com/example/vouchsafe/vouchsafe/LogEntry" "result" "Ljava/lang/String;" (.ref x3)
set_option maxRecDepth 65536 in
set_option maxHeartbeats 40000000 in
theorem rme (l : Launch) (Z : State) (a0 : Array Value) (hw : ∀ d ∈ tables_1, d.before a0 Z = true) (ws : List Jvm.Cond) (a1 x0 x1 x2 x3 x4 x5 : Addr) (h0 : Heap) (n0 : Nat) (Z0 : n0 ≤ h0.size) (E1 : Exa Z h0 a1 "com/example/vouchsafe/vouchsafe/LogEntry") (Feid : Fld Z h0 a1 "com/example/vouchsafe/vouchsafe/LogEntry" "eid" "Ljava/lang/String;" .null) (Fprev : Fld Z h0 a1 "com/example/vouchsafe/vouchsafe/LogEntry" "prev" "Ljava/lang/String;" .null) (Fgroup : Fld Z h0 a1 "com/example/vouchsafe/vouchsafe/LogEntry" "group" "Ljava/lang/String;" .null) (Fresult : Fld Z h0 a1 "com/example/vouchsafe/vouchsafe/LogEntry" "result" "Ljava/lang/String;" .null) (Ftime : Fld Z h0 a1 "com/example/vouchsafe/vouchsafe/LogEntry" "time" "Ljava/lang/String;" .null) (Fsignature : Fld Z h0 a1 "com/example/vouchsafe/vouchsafe/LogEntry" "signature" "[B" .null) (g1 : n0 ≤ a1) :
    MetFree l (⟨"com/example/vouchsafe/vouchsafe/LogEntry", "<init>", "(Ljava/lang/String;Ljava/lang/String;Ljava/lang/String;Ljava/lang/String;Ljava/lang/String;[B)V"⟩ : MethodName) (head1 (Jvm.Cond.code (⟨"com/example/vouchsafe/vouchsafe/LogEntry", "<init>", "(Ljava/lang/String;Ljava/lang/String;Ljava/lang/String;Ljava/lang/String;Ljava/lang/String;[B)V"⟩ : MethodName) prog_63_method_1_code 7 none :: ws) ({ frames := 2, cells := 0, slots := 0, locals := 24 } : Room)) (fun a U => a = #[(.ref a1), (.ref x0), (.ref x1), (.ref x2), (.ref x3), (.ref x4), (.ref x5)] ∧ Z.Warmed39 U.vm ∧ U.heap = h0) (fun _ _ _ _ _ => True) (fun _ U o U' => ∃ v L, o = .returned v ∧ Qe Z a1 x0 x1 x2 x3 x4 x5 h0 n0 v U'.heap L ∧ FrameEnd U o U' L ({ frames := 2, cells := 0, slots := 0, locals := 24 } : Room).cells ({ frames := 2, cells := 0, slots := 0, locals := 24 } : Room).slots) := by
  refine MetFree.of_bodySF (plainFor_of_name pn_com_example_vouchsafe_vouchsafe_LogEntry) hisR ?_
  intro p e s m args below meth c s₁ Bd hml0 hP hK
  obtain ⟨rfl, hZ, hh⟩ := hP
  have hx := Bd.exec
  have hby := Bd.bytes
  have hlk : meth.locks = false := BodyLoose.notSynchronized Bd
  have hml : c.maxLocals = 7 := hml0
  have hown : s.vm.findClass "com/example/vouchsafe/vouchsafe/LogEntry" = some m.cls := findClass_of_methodNamed Bd.named
  have hnm := (name_of_methodNamed Bd.named Bd.method).1
  have X0 : Stand p l e ({ frames := 2, cells := 0, slots := 0, locals := 24 } : Room) s m #[(.ref a1), (.ref x0), (.ref x1), (.ref x2), (.ref x3), (.ref x4), (.ref x5)] below meth c s₁ [] 0 0 := Stand.of_body Bd
  have e0 : s₁.heap = h0 := by rw [← hh, Bd.state]; rfl
  have N0 := Fr.nil n0
  show own_G p.tables e below s (Qe Z a1 x0 x1 x2 x3 x4 x5 h0 n0) ({ frames := 2, cells := 0, slots := 0, locals := 24 } : Room).cells ({ frames := 2, cells := 0, slots := 0, locals := 24 } : Room).slots (s₁.setTop (entryFrame m #[(.ref a1), (.ref x0), (.ref x1), (.ref x2), (.ref x3), (.ref x4), (.ref x5)] 7))
  refine own_go (fun t k => castTop (ef_e m a1 x0 x1 x2 x3 x4 x5) k) ?_
  show own_G p.tables e below s _ _ _ (s₁.setTop (mkF m 0 #[.val (.ref a1), .val (.ref x0), .val (.ref x1), .val (.ref x2), .val (.ref x3), .val (.ref x4), .val (.ref x5)] []))
  refine own_go (fun t k => XS.aloadN X0.here hx rfl (hb hby de_0) rfl rfl k) ?_
  show own_G p.tables e below s _ _ _ (s₁.setTop (mkF m 1 #[.val (.ref a1), .val (.ref x0), .val (.ref x1), .val (.ref x2), .val (.ref x3), .val (.ref x4), .val (.ref x5)] [(.ref a1)]))
  obtain ⟨_, _, ⟨T68, L68, k68, n68⟩, -, X68, ⟨Lc68, hQ68, l68, y68, z68⟩, st68⟩ := X0.specialBack hx (y := (⟨"java/lang/Record", "<init>", "()V"⟩ : MethodName)) rfl hown (mvT hZ (hw _ (List.mem_of_getElem? (i := 74) rfl))) (mvT hZ (hw _ (List.mem_of_getElem? (i := 37) rfl))) (mvT hZ (hw _ (List.mem_of_getElem? (i := 40) rfl))) (by decide) (backOf (W := 0) (rmr l Z a0 hw [] a1 h0 n0 Z0) hZ (hw _ (List.mem_of_getElem? (i := 40) rfl)) (hw _ (List.mem_of_getElem? (i := 39) rfl)) (by decide) (by decide)) (g := (mkF m 1 #[.val (.ref a1), .val (.ref x0), .val (.ref x1), .val (.ref x2), .val (.ref x3), .val (.ref x4), .val (.ref x5)] [(.ref a1)])) rfl (by rw [hml]; rfl) (Steps.refl _) (a := a1) (argsL := []) (rest := []) (lenOf pd___V rfl) rfl (by show 2 * 0 + _ ≤ _; exact Nat.le_of_eq rfl) (hb hby de_1) (fun _ _ => ⟨rfl, e0, (by decide : 0 + 0 ≤ _), (by decide : 0 + 0 ≤ _)⟩)
  dsimp only [Pt.U, Pt.locs, Pt.cells, Pt.slots] at X68 l68 y68 z68 st68 hQ68
  subst l68 y68 z68
  obtain ⟨rfl, N68q, hh68⟩ := hQ68
  have N68 := Fr.app N0 N68q
  refine own_go (fun t k => st68.trans k) ?_
  show own_G p.tables e below s _ _ _ (T68.setTop (mkF m 4 #[.val (.ref a1), .val (.ref x0), .val (.ref x1), .val (.ref x2), .val (.ref x3), .val (.ref x4), .val (.ref x5)] []))
  refine own_go (fun t k => XS.aloadN X68.here hx rfl (hb hby de_4) rfl rfl k) ?_
  show own_G p.tables e below s _ _ _ (T68.setTop (mkF m 5 #[.val (.ref a1), .val (.ref x0), .val (.ref x1), .val (.ref x2), .val (.ref x3), .val (.ref x4), .val (.ref x5)] [(.ref a1)]))
  refine own_go (fun t k => XS.aloadN X68.here hx rfl (hb hby de_5) rfl rfl k) ?_
  show own_G p.tables e below s _ _ _ (T68.setTop (mkF m 6 #[.val (.ref a1), .val (.ref x0), .val (.ref x1), .val (.ref x2), .val (.ref x3), .val (.ref x4), .val (.ref x5)] [(.ref x0), (.ref a1)]))
  obtain ⟨T69, h69, X69, e69, W69, st69⟩ := putF X68 hx hZ hown (host := "") (Or.inl (hw _ (List.mem_of_getElem? (i := 75) rfl))) Via.refl hh68 Feid E1 (Or.inr ⟨(hw _ (List.mem_of_getElem? (i := 76) rfl)), rfl, hnm⟩) (hw _ (List.mem_of_getElem? (i := 66) rfl)) (ty := (.object "java/lang/String")) (by decide) rfl rfl (g := (mkF m 6 #[.val (.ref a1), .val (.ref x0), .val (.ref x1), .val (.ref x2), .val (.ref x3), .val (.ref x4), .val (.ref x5)] [(.ref x0), (.ref a1)])) rfl rfl (hb hby de_6)
  have N69 := Fr.snoc X69 N68 g1
  refine own_go st69 ?_
  have f70 := Fld.same W69 Feid
  have f71 := Exa.wr W69 E1
  have f72 := Fld.other W69 Fprev (Or.inr (slot_ne (Or.inr (hw _ (List.mem_of_getElem? (i := 78) rfl))) (Or.inr (hw _ (List.mem_of_getElem? (i := 76) rfl))) (by decide) (t := (.object "java/lang/String")) (t' := (.object "java/lang/String")) (by decide) (by decide)))
  have f73 := Fld.other W69 Fgroup (Or.inr (slot_ne (Or.inr (hw _ (List.mem_of_getElem? (i := 80) rfl))) (Or.inr (hw _ (List.mem_of_getElem? (i := 76) rfl))) (by decide) (t := (.object "java/lang/String")) (t' := (.object "java/lang/String")) (by decide) (by decide)))
  have f74 := Fld.other W69 Fresult (Or.inr (slot_ne (Or.inr (hw _ (List.mem_of_getElem? (i := 82) rfl))) (Or.inr (hw _ (List.mem_of_getElem? (i := 76) rfl))) (by decide) (t := (.object "java/lang/String")) (t' := (.object "java/lang/String")) (by decide) (by decide)))
  have f75 := Fld.other W69 Ftime (Or.inr (slot_ne (Or.inr (hw _ (List.mem_of_getElem? (i := 84) rfl))) (Or.inr (hw _ (List.mem_of_getElem? (i := 76) rfl))) (by decide) (t := (.object "java/lang/String")) (t' := (.object "java/lang/String")) (by decide) (by decide)))
  have f76 := Fld.other W69 Fsignature (Or.inr (slot_ne (Or.inr (hw _ (List.mem_of_getElem? (i := 86) rfl))) (Or.inr (hw _ (List.mem_of_getElem? (i := 76) rfl))) (by decide) (t := (.array .byte)) (t' := (.object "java/lang/String")) (by decide) (by decide)))
  have z77 := Nat.le_trans Z0 (Keep.of_wr W69).1
  have k78 := (Keep.refl h0 [a1]).wr W69 (Or.inl (List.mem_of_getElem? (i := 0) rfl))
  show own_G p.tables e below s _ _ _ (T69.setTop (mkF m 9 #[.val (.ref a1), .val (.ref x0), .val (.ref x1), .val (.ref x2), .val (.ref x3), .val (.ref x4), .val (.ref x5)] []))
  refine own_go (fun t k => XS.aloadN X69.here hx rfl (hb hby de_9) rfl rfl k) ?_
  show own_G p.tables e below s _ _ _ (T69.setTop (mkF m 10 #[.val (.ref a1), .val (.ref x0), .val (.ref x1), .val (.ref x2), .val (.ref x3), .val (.ref x4), .val (.ref x5)] [(.ref a1)]))
  refine own_go (fun t k => XS.aloadN X69.here hx rfl (hb hby de_10) rfl rfl k) ?_
  show own_G p.tables e below s _ _ _ (T69.setTop (mkF m 11 #[.val (.ref a1), .val (.ref x0), .val (.ref x1), .val (.ref x2), .val (.ref x3), .val (.ref x4), .val (.ref x5)] [(.ref x1), (.ref a1)]))
  obtain ⟨T79, h79, X79, e79, W79, st79⟩ := putF X69 hx hZ hown (host := "") (Or.inl (hw _ (List.mem_of_getElem? (i := 77) rfl))) Via.refl e69 f72 f71 (Or.inr ⟨(hw _ (List.mem_of_getElem? (i := 78) rfl)), rfl, hnm⟩) (hw _ (List.mem_of_getElem? (i := 66) rfl)) (ty := (.object "java/lang/String")) (by decide) rfl rfl (g := (mkF m 11 #[.val (.ref a1), .val (.ref x0), .val (.ref x1), .val (.ref x2), .val (.ref x3), .val (.ref x4), .val (.ref x5)] [(.ref x1), (.ref a1)])) rfl rfl (hb hby de_11)
  have N79 := Fr.snoc X79 N69 g1
  refine own_go st79 ?_
  have f80 := Fld.same W79 f72
  have f81 := Exa.wr W79 f71
  have f82 := Fld.other W79 f70 (Or.inr (slot_ne (Or.inr (hw _ (List.mem_of_getElem? (i := 76) rfl))) (Or.inr (hw _ (List.mem_of_getElem? (i := 78) rfl))) (by decide) (t := (.object "java/lang/String")) (t' := (.object "java/lang/String")) (by decide) (by decide)))
  have f83 := Fld.other W79 f73 (Or.inr (slot_ne (Or.inr (hw _ (List.mem_of_getElem? (i := 80) rfl))) (Or.inr (hw _ (List.mem_of_getElem? (i := 78) rfl))) (by decide) (t := (.object "java/lang/String")) (t' := (.object "java/lang/String")) (by decide) (by decide)))
  have f84 := Fld.other W79 f74 (Or.inr (slot_ne (Or.inr (hw _ (List.mem_of_getElem? (i := 82) rfl))) (Or.inr (hw _ (List.mem_of_getElem? (i := 78) rfl))) (by decide) (t := (.object "java/lang/String")) (t' := (.object "java/lang/String")) (by decide) (by decide)))
  have f85 := Fld.other W79 f75 (Or.inr (slot_ne (Or.inr (hw _ (List.mem_of_getElem? (i := 84) rfl))) (Or.inr (hw _ (List.mem_of_getElem? (i := 78) rfl))) (by decide) (t := (.object "java/lang/String")) (t' := (.object "java/lang/String")) (by decide) (by decide)))
  have f86 := Fld.other W79 f76 (Or.inr (slot_ne (Or.inr (hw _ (List.mem_of_getElem? (i := 86) rfl))) (Or.inr (hw _ (List.mem_of_getElem? (i := 78) rfl))) (by decide) (t := (.array .byte)) (t' := (.object "java/lang/String")) (by decide) (by decide)))
  have z87 := Nat.le_trans z77 (Keep.of_wr W79).1
  have k88 := k78.wr W79 (Or.inl (List.mem_of_getElem? (i := 0) rfl))
  show own_G p.tables e below s _ _ _ (T79.setTop (mkF m 14 #[.val (.ref a1), .val (.ref x0), .val (.ref x1), .val (.ref x2), .val (.ref x3), .val (.ref x4), .val (.ref x5)] []))
  refine own_go (fun t k => XS.aloadN X79.here hx rfl (hb hby de_14) rfl rfl k) ?_
  show own_G p.tables e below s _ _ _ (T79.setTop (mkF m 15 #[.val (.ref a1), .val (.ref x0), .val (.ref x1), .val (.ref x2), .val (.ref x3), .val (.ref x4), .val (.ref x5)] [(.ref a1)]))
  refine own_go (fun t k => XS.aloadN X79.here hx rfl (hb hby de_15) rfl rfl k) ?_
  show own_G p.tables e below s _ _ _ (T79.setTop (mkF m 16 #[.val (.ref a1), .val (.ref x0), .val (.ref x1), .val (.ref x2), .val (.ref x3), .val (.ref x4), .val (.ref x5)] [(.ref x2), (.ref a1)]))
  obtain ⟨T89, h89, X89, e89, W89, st89⟩ := putF X79 hx hZ hown (host := "") (Or.inl (hw _ (List.mem_of_getElem? (i := 79) rfl))) Via.refl e79 f83 f81 (Or.inr ⟨(hw _ (List.mem_of_getElem? (i := 80) rfl)), rfl, hnm⟩) (hw _ (List.mem_of_getElem? (i := 66) rfl)) (ty := (.object "java/lang/String")) (by decide) rfl rfl (g := (mkF m 16 #[.val (.ref a1), .val (.ref x0), .val (.ref x1), .val (.ref x2), .val (.ref x3), .val (.ref x4), .val (.ref x5)] [(.ref x2), (.ref a1)])) rfl rfl (hb hby de_16)
  have N89 := Fr.snoc X89 N79 g1
  refine own_go st89 ?_
  have f90 := Fld.same W89 f83
  have f91 := Exa.wr W89 f81
  have f92 := Fld.other W89 f82 (Or.inr (slot_ne (Or.inr (hw _ (List.mem_of_getElem? (i := 76) rfl))) (Or.inr (hw _ (List.mem_of_getElem? (i := 80) rfl))) (by decide) (t := (.object "java/lang/String")) (t' := (.object "java/lang/String")) (by decide) (by decide)))
  have f93 := Fld.other W89 f80 (Or.inr (slot_ne (Or.inr (hw _ (List.mem_of_getElem? (i := 78) rfl))) (Or.inr (hw _ (List.mem_of_getElem? (i := 80) rfl))) (by decide) (t := (.object "java/lang/String")) (t' := (.object "java/lang/String")) (by decide) (by decide)))
  have f94 := Fld.other W89 f84 (Or.inr (slot_ne (Or.inr (hw _ (List.mem_of_getElem? (i := 82) rfl))) (Or.inr (hw _ (List.mem_of_getElem? (i := 80) rfl))) (by decide) (t := (.object "java/lang/String")) (t' := (.object "java/lang/String")) (by decide) (by decide)))
  have f95 := Fld.other W89 f85 (Or.inr (slot_ne (Or.inr (hw _ (List.mem_of_getElem? (i := 84) rfl))) (Or.inr (hw _ (List.mem_of_getElem? (i := 80) rfl))) (by decide) (t := (.object "java/lang/String")) (t' := (.object "java/lang/String")) (by decide) (by decide)))
  have f96 := Fld.other W89 f86 (Or.inr (slot_ne (Or.inr (hw _ (List.mem_of_getElem? (i := 86) rfl))) (Or.inr (hw _ (List.mem_of_getElem? (i := 80) rfl))) (by decide) (t := (.array .byte)) (t' := (.object "java/lang/String")) (by decide) (by decide)))
  have z97 := Nat.le_trans z87 (Keep.of_wr W89).1
  have k98 := k88.wr W89 (Or.inl (List.mem_of_getElem? (i := 0) rfl))
  show own_G p.tables e below s _ _ _ (T89.setTop (mkF m 19 #[.val (.ref a1), .val (.ref x0), .val (.ref x1), .val (.ref x2), .val (.ref x3), .val (.ref x4), .val (.ref x5)] []))
  refine own_go (fun t k => XS.aloadN X89.here hx rfl (hb hby de_19) rfl rfl k) ?_
  show own_G p.tables e below s _ _ _ (T89.setTop (mkF m 20 #[.val (.ref a1), .val (.ref x0), .val (.ref x1), .val (.ref x2), .val (.ref x3), .val (.ref x4), .val (.ref x5)] [(.ref a1)]))
  refine own_go (fun t k => XS.aload X89.here hx rfl (hb hby de_20) rfl rfl k) ?_
  show own_G p.tables e below s _ _ _ (T89.setTop (mkF m 22 #[.val (.ref a1), .val (.ref x0), .val (.ref x1), .val (.ref x2), .val (.ref x3), .val (.ref x4), .val (.ref x5)] [(.ref x3), (.ref a1)]))
  obtain ⟨T99, h99, X99, e99, W99, st99⟩ := putF X89 hx hZ hown (host := "") (Or.inl (hw _ (List.mem_of_getElem? (i := 81) rfl))) Via.refl e89 f94 f91 (Or.inr ⟨(hw _ (List.mem_of_getElem? (i := 82) rfl)), rfl, hnm⟩) (hw _ (List.mem_of_getElem? (i := 66) rfl)) (ty := (.object "java/lang/String")) (by decide) rfl rfl (g := (mkF m 22 #[.val (.ref a1), .val (.ref x0), .val (.ref x1), .val (.ref x2), .val (.ref x3), .val (.ref x4), .val (.ref x5)] [(.ref x3), (.ref a1)])) rfl rfl (hb hby de_22)
  have N99 := Fr.snoc X99 N89 g1
  refine own_go st99 ?_
  have f100 := Fld.same W99 f94
  have f101 := Exa.wr W99 f91
  have f102 := Fld.other W99 f92 (Or.inr (slot_ne (Or.inr (hw _ (List.mem_of_getElem? (i := 76) rfl))) (Or.inr (hw _ (List.mem_of_getElem? (i := 82) rfl))) (by decide) (t := (.object "java/lang/String")) (t' := (.object "java/lang/String")) (by decide) (by decide)))
  have f103 := Fld.other W99 f93 (Or.inr (slot_ne (Or.inr (hw _ (List.mem_of_getElem? (i := 78) rfl))) (Or.inr (hw _ (List.mem_of_getElem? (i := 82) rfl))) (by decide) (t := (.object "java/lang/String")) (t' := (.object "java/lang/String")) (by decide) (by decide)))
  have f104 := Fld.other W99 f90 (Or.inr (slot_ne (Or.inr (hw _ (List.mem_of_getElem? (i := 80) rfl))) (Or.inr (hw _ (List.mem_of_getElem? (i := 82) rfl))) (by decide) (t := (.object "java/lang/String")) (t' := (.object "java/lang/String")) (by decide) (by decide)))
  have f105 := Fld.other W99 f95 (Or.inr (slot_ne (Or.inr (hw _ (List.mem_of_getElem? (i := 84) rfl))) (Or.inr (hw _ (List.mem_of_getElem? (i := 82) rfl))) (by decide) (t := (.object "java/lang/String")) (t' := (.object "java/lang/String")) (by decide) (by decide)))
  have f106 := Fld.other W99 f96 (Or.inr (slot_ne (Or.inr (hw _ (List.mem_of_getElem? (i := 86) rfl))) (Or.inr (hw _ (List.mem_of_getElem? (i := 82) rfl))) (by decide) (t := (.array .byte)) (t' := (.object "java/lang/String")) (by decide) (by decide)))
  have z107 := Nat.le_trans z97 (Keep.of_wr W99).1
  have k108 := k98.wr W99 (Or.inl (List.mem_of_getElem? (i := 0) rfl))
  show own_G p.tables e below s _ _ _ (T99.setTop (mkF m 25 #[.val (.ref a1), .val (.ref x0), .val (.ref x1), .val (.ref x2), .val (.ref x3), .val (.ref x4), .val (.ref x5)] []))
  refine own_go (fun t k => XS.aloadN X99.here hx rfl (hb hby de_25) rfl rfl k) ?_
  show own_G p.tables e below s _ _ _ (T99.setTop (mkF m 26 #[.val (.ref a1), .val (.ref x0), .val (.ref x1), .val (.ref x2), .val (.ref x3), .val (.ref x4), .val (.ref x5)] [(.ref a1)]))
  refine own_go (fun t k => XS.aload X99.here hx rfl (hb hby de_26) rfl rfl k) ?_
  show own_G p.tables e below s _ _ _ (T99.setTop (mkF m 28 #[.val (.ref a1), .val (.ref x0), .val (.ref x1), .val (.ref x2), .val (.ref x3), .val (.ref x4), .val (.ref x5)] [(.ref x4), (.ref a1)]))
  obtain ⟨T109, h109, X109, e109, W109, st109⟩ := putF X99 hx hZ hown (host := "") (Or.inl (hw _ (List.mem_of_getElem? (i := 83) rfl))) Via.refl e99 f105 f101 (Or.inr ⟨(hw _ (List.mem_of_getElem? (i := 84) rfl)), rfl, hnm⟩) (hw _ (List.mem_of_getElem? (i := 66) rfl)) (ty := (.object "java/lang/String")) (by decide) rfl rfl (g := (mkF m 28 #[.val (.ref a1), .val (.ref x0), .val (.ref x1), .val (.ref x2), .val (.ref x3), .val (.ref x4), .val (.ref x5)] [(.ref x4), (.ref a1)])) rfl rfl (hb hby de_28)
  have N109 := Fr.snoc X109 N99 g1
  refine own_go st109 ?_
  have f110 := Fld.same W109 f105
  have f111 := Exa.wr W109 f101
  have f112 := Fld.other W109 f102 (Or.inr (slot_ne (Or.inr (hw _ (List.mem_of_getElem? (i := 76) rfl))) (Or.inr (hw _ (List.mem_of_getElem? (i := 84) rfl))) (by decide) (t := (.object "java/lang/String")) (t' := (.object "java/lang/String")) (by decide) (by decide)))
  have f113 := Fld.other W109 f103 (Or.inr (slot_ne (Or.inr (hw _ (List.mem_of_getElem? (i := 78) rfl))) (Or.inr (hw _ (List.mem_of_getElem? (i := 84) rfl))) (by decide) (t := (.object "java/lang/String")) (t' := (.object "java/lang/String")) (by decide) (by decide)))
  have f114 := Fld.other W109 f104 (Or.inr (slot_ne (Or.inr (hw _ (List.mem_of_getElem? (i := 80) rfl))) (Or.inr (hw _ (List.mem_of_getElem? (i := 84) rfl))) (by decide) (t := (.object "java/lang/String")) (t' := (.object "java/lang/String")) (by decide) (by decide)))
  have f115 := Fld.other W109 f100 (Or.inr (slot_ne (Or.inr (hw _ (List.mem_of_getElem? (i := 82) rfl))) (Or.inr (hw _ (List.mem_of_getElem? (i := 84) rfl))) (by decide) (t := (.object "java/lang/String")) (t' := (.object "java/lang/String")) (by decide) (by decide)))
  have f116 := Fld.other W109 f106 (Or.inr (slot_ne (Or.inr (hw _ (List.mem_of_getElem? (i := 86) rfl))) (Or.inr (hw _ (List.mem_of_getElem? (i := 84) rfl))) (by decide) (t := (.array .byte)) (t' := (.object "java/lang/String")) (by decide) (by decide)))
  have z117 := Nat.le_trans z107 (Keep.of_wr W109).1
  have k118 := k108.wr W109 (Or.inl (List.mem_of_getElem? (i := 0) rfl))
  show own_G p.tables e below s _ _ _ (T109.setTop (mkF m 31 #[.val (.ref a1), .val (.ref x0), .val (.ref x1), .val (.ref x2), .val (.ref x3), .val (.ref x4), .val (.ref x5)] []))
  refine own_go (fun t k => XS.aloadN X109.here hx rfl (hb hby de_31) rfl rfl k) ?_
  show own_G p.tables e below s _ _ _ (T109.setTop (mkF m 32 #[.val (.ref a1), .val (.ref x0), .val (.ref x1), .val (.ref x2), .val (.ref x3), .val (.ref x4), .val (.ref x5)] [(.ref a1)]))
  refine own_go (fun t k => XS.aload X109.here hx rfl (hb hby de_32) rfl rfl k) ?_
  show own_G p.tables e below s _ _ _ (T109.setTop (mkF m 34 #[.val (.ref a1), .val (.ref x0), .val (.ref x1), .val (.ref x2), .val (.ref x3), .val (.ref x4), .val (.ref x5)] [(.ref x5), (.ref a1)]))
  obtain ⟨T119, h119, X119, e119, W119, st119⟩ := putF X109 hx hZ hown (host := "") (Or.inl (hw _ (List.mem_of_getElem? (i := 85) rfl))) Via.refl e109 f116 f111 (Or.inr ⟨(hw _ (List.mem_of_getElem? (i := 86) rfl)), rfl, hnm⟩) (hw _ (List.mem_of_getElem? (i := 66) rfl)) (ty := (.array .byte)) (by decide) rfl rfl (g := (mkF m 34 #[.val (.ref a1), .val (.ref x0), .val (.ref x1), .val (.ref x2), .val (.ref x3), .val (.ref x4), .val (.ref x5)] [(.ref x5), (.ref a1)])) rfl rfl (hb hby de_34)
  have N119 := Fr.snoc X119 N109 g1
  refine own_go st119 ?_
  have f120 := Fld.same W119 f116
  have f121 := Exa.wr W119 f111
  have f122 := Fld.other W119 f112 (Or.inr (slot_ne (Or.inr (hw _ (List.mem_of_getElem? (i := 76) rfl))) (Or.inr (hw _ (List.mem_of_getElem? (i := 86) rfl))) (by decide) (t := (.object "java/lang/String")) (t' := (.array .byte)) (by decide) (by decide)))
  have f123 := Fld.other W119 f113 (Or.inr (slot_ne (Or.inr (hw _ (List.mem_of_getElem? (i := 78) rfl))) (Or.inr (hw _ (List.mem_of_getElem? (i := 86) rfl))) (by decide) (t := (.object "java/lang/String")) (t' := (.array .byte)) (by decide) (by decide)))
  have f124 := Fld.other W119 f114 (Or.inr (slot_ne (Or.inr (hw _ (List.mem_of_getElem? (i := 80) rfl))) (Or.inr (hw _ (List.mem_of_getElem? (i := 86) rfl))) (by decide) (t := (.object "java/lang/String")) (t' := (.array .byte)) (by decide) (by decide)))
  have f125 := Fld.other W119 f115 (Or.inr (slot_ne (Or.inr (hw _ (List.mem_of_getElem? (i := 82) rfl))) (Or.inr (hw _ (List.mem_of_getElem? (i := 86) rfl))) (by decide) (t := (.object "java/lang/String")) (t' := (.array .byte)) (by decide) (by decide)))
  have f126 := Fld.other W119 f110 (Or.inr (slot_ne (Or.inr (hw _ (List.mem_of_getElem? (i := 84) rfl))) (Or.inr (hw _ (List.mem_of_getElem? (i := 86) rfl))) (by decide) (t := (.object "java/lang/String")) (t' := (.array .byte)) (by decide) (by decide)))
  have z127 := Nat.le_trans z117 (Keep.of_wr W119).1
  have k128 := k118.wr W119 (Or.inl (List.mem_of_getElem? (i := 0) rfl))
  show own_G p.tables e below s _ _ _ (T119.setTop (mkF m 37 #[.val (.ref a1), .val (.ref x0), .val (.ref x1), .val (.ref x2), .val (.ref x3), .val (.ref x4), .val (.ref x5)] []))
  exact own_retV X119 hx hlk Bd.returns (hb hby de_37) (by rw [e119]; exact ⟨rfl, N119, k128, f122, f125⟩) (by decide) (by decide)
theorem dd_0 : decode prog_63_method_12_code 0 = .ok (.aload_n 0, 1) := by decide +kernel
theorem dd_1 : decode prog_63_method_12_code 1 = .ok (.getfield 7, 3) := by decide +kernel
theorem dd_4 : decode prog_63_method_12_code 4 = .ok (.areturn, 1) := by decide +kernel
theorem ef_d (m : MethodId) (x0 : Addr) : entryFrame m #[(.ref x0)] 1 = mkF m 0 #[.val (.ref x0)] [] := by first | (simp [entryFrame, mkF, argsToLocals, Value.category]; done) | rfl
def Qd (Z : State) (a1 x0 : Addr) (h0 : Heap) (n0 : Nat) (v : Option Value) (h : Heap) (L : List Loc) : Prop := v = some (.ref x0) ∧ Fr n0 L ∧ h = h0
set_option maxRecDepth 65536 in
set_option maxHeartbeats 40000000 in
theorem rmd (l : Launch) (Z : State) (a0 : Array Value) (hw : ∀ d ∈ tables_1, d.before a0 Z = true) (ws : List Jvm.Cond) (a1 x0 : Addr) (h0 : Heap) (n0 : Nat) (Z0 : n0 ≤ h0.size) (F1 : Fld Z h0 a1 "com/example/vouchsafe/vouchsafe/LogEntry" "eid" "Ljava/lang/String;" (.ref x0)) :
    MetFree l (⟨"com/example/vouchsafe/vouchsafe/LogEntry", "eid", "()Ljava/lang/String;"⟩ : MethodName) (head1 (Jvm.Cond.code (⟨"com/example/vouchsafe/vouchsafe/LogEntry", "eid", "()Ljava/lang/String;"⟩ : MethodName) prog_63_method_12_code 1 (some (.object "java/lang/String")) :: ws) ({ frames := 0, cells := 0, slots := 0, locals := 0 } : Room)) (fun a U => a = #[(.ref a1)] ∧ Z.Warmed39 U.vm ∧ U.heap = h0) (fun _ _ _ _ _ => True) (fun _ U o U' => ∃ v L, o = .returned v ∧ Qd Z a1 x0 h0 n0 v U'.heap L ∧ FrameEnd U o U' L ({ frames := 0, cells := 0, slots := 0, locals := 0 } : Room).cells ({ frames := 0, cells := 0, slots := 0, locals := 0 } : Room).slots) := by
  refine MetFree.of_bodySF (plainFor_of_name pn_com_example_vouchsafe_vouchsafe_LogEntry) hisR ?_
  intro p e s m args below meth c s₁ Bd hml0 hP hK
  obtain ⟨rfl, hZ, hh⟩ := hP
  have hx := Bd.exec
  have hby := Bd.bytes
  have hlk : meth.locks = false := BodyLoose.notSynchronized Bd
  have hml : c.maxLocals = 1 := hml0
  have hown : s.vm.findClass "com/example/vouchsafe/vouchsafe/LogEntry" = some m.cls := findClass_of_methodNamed Bd.named
  have hnm := (name_of_methodNamed Bd.named Bd.method).1
  have X0 : Stand p l e ({ frames := 0, cells := 0, slots := 0, locals := 0 } : Room) s m #[(.ref a1)] below meth c s₁ [] 0 0 := Stand.of_body Bd
  have e0 : s₁.heap = h0 := by rw [← hh, Bd.state]; rfl
  have N0 := Fr.nil n0
  show own_G p.tables e below s (Qd Z a1 x0 h0 n0) ({ frames := 0, cells := 0, slots := 0, locals := 0 } : Room).cells ({ frames := 0, cells := 0, slots := 0, locals := 0 } : Room).slots (s₁.setTop (entryFrame m #[(.ref a1)] 1))
  refine own_go (fun t k => castTop (ef_d m a1) k) ?_
  show own_G p.tables e below s _ _ _ (s₁.setTop (mkF m 0 #[.val (.ref a1)] []))
  refine own_go (fun t k => XS.aloadN X0.here hx rfl (hb hby dd_0) rfl rfl k) ?_
  show own_G p.tables e below s _ _ _ (s₁.setTop (mkF m 1 #[.val (.ref a1)] [(.ref a1)]))
  obtain ⟨T129, X129, e129, st129⟩ := getF X0 hx hZ hown (host := "") (Or.inl (hw _ (List.mem_of_getElem? (i := 75) rfl))) Via.refl e0 F1 (g := (mkF m 1 #[.val (.ref a1)] [(.ref a1)])) rfl rfl (hb hby dd_1)
  refine own_go st129 ?_
  show own_G p.tables e below s _ _ _ (T129.setTop (mkF m 4 #[.val (.ref a1)] [(.ref x0)]))
  exact own_retA X129 hx hlk Bd.returns rfl rfl (hb hby dd_4) (by rw [e129]; exact ⟨rfl, N0, rfl⟩) (by decide) (by decide)
theorem dlN_0 : decode prog_12_method_4_code 0 = .ok (.aload_n 0, 1) := by decide +kernel
theorem dlN_1 : decode prog_12_method_4_code 1 = .ok (.getfield 7, 3) := by decide +kernel
theorem dlN_4 : decode prog_12_method_4_code 4 = .ok (.lconst 0, 1) := by decide +kernel
theorem dlN_5 : decode prog_12_method_4_code 5 = .ok (.lcmp, 1) := by decide +kernel
theorem dlN_6 : decode prog_12_method_4_code 6 = .ok (.ifCond .ne 6, 3) := by decide +kernel
theorem dlN_9 : decode prog_12_method_4_code 9 = .ok (.ldc 36, 2) := by decide +kernel
theorem dlN_11 : decode prog_12_method_4_code 11 = .ok (.areturn, 1) := by decide +kernel
theorem ef_lN (m : MethodId) (x0 : Addr) : entryFrame m #[(.ref x0)] 1 = mkF m 0 #[.val (.ref x0)] [] := by first | (simp [entryFrame, mkF, argsToLocals, Value.category]; done) | rfl
def QlN (Z : State) (a1 : Addr) (q1 : Int64) (h0 : Heap) (n0 : Nat) (v : Option Value) (h : Heap) (L : List Loc) : Prop := (∃ a : Addr, v = some (.ref a) ∧ own_S Z h a (4 : Int32) [(.int (78 : Int32)), (.int (79 : Int32)), (.int (78 : Int32)), (.int (69 : Int32))]) ∧ Fr n0 L ∧ Keep h0 h []
set_option maxRecDepth 65536 in
set_option maxHeartbeats 40000000 in
theorem rmlN (l : Launch) (Z : State) (a0 : Array Value) (hw : ∀ d ∈ tables_1, d.before a0 Z = true) (ws : List Jvm.Cond) (a1 : Addr) (q1 : Int64) (h0 : Heap) (n0 : Nat) (Z0 : n0 ≤ h0.size) (F1 : Fld Z h0 a1 "com/example/vouchsafe/vouchsafe/AuditTally" "audits" "J" (.long q1)) (hq : q1 = 0) :
    MetFree l (⟨"com/example/vouchsafe/vouchsafe/AuditTally", "last", "()Ljava/lang/String;"⟩ : MethodName) (head1 (Jvm.Cond.code (⟨"com/example/vouchsafe/vouchsafe/AuditTally", "last", "()Ljava/lang/String;"⟩ : MethodName) prog_12_method_4_code 1 (some (.object "java/lang/String")) :: ws) ({ frames := 0, cells := 2, slots := 20, locals := 0 } : Room)) (fun a U => a = #[(.ref a1)] ∧ Z.Warmed39 U.vm ∧ U.heap = h0 ∧ CHv Z own_EL U.vm h0) (fun _ _ _ _ _ => True) (fun _ U o U' => ∃ v L, o = .returned v ∧ QlN Z a1 q1 h0 n0 v U'.heap L ∧ CHr Z own_EL U.vm U.heap U'.vm U'.heap ∧ ReturnedEndW U o U' L ({ frames := 0, cells := 2, slots := 20, locals := 0 } : Room).cells ({ frames := 0, cells := 2, slots := 20, locals := 0 } : Room).slots) := by
  refine MetFree.of_bodySF (plainFor_of_name pn_com_example_vouchsafe_vouchsafe_AuditTally) hisR ?_
  intro p e s m args below meth c s₁ Bd hml0 hP hK
  obtain ⟨rfl, hZ, hh, hCH⟩ := hP
  have hx := Bd.exec
  have hby := Bd.bytes
  have hlk : meth.locks = false := BodyLoose.notSynchronized Bd
  have hml : c.maxLocals = 1 := hml0
  have hown : s.vm.findClass "com/example/vouchsafe/vouchsafe/AuditTally" = some m.cls := findClass_of_methodNamed Bd.named
  have hnm := (name_of_methodNamed Bd.named Bd.method).1
  have X0 : Stand p l e ({ frames := 0, cells := 2, slots := 20, locals := 0 } : Room) (s.setVm s.vm) m #[(.ref a1)] below meth c s₁ [] 0 0 := Stand.of_body Bd
  have e0 : s₁.heap = h0 := by rw [← hh, Bd.state]; rfl
  have N0 := Fr.nil n0
  have hS0 : s.Since s.vm 0 := (State.WarmedH.refl s).since 0
  have hk0 : 0 ≤ h0.size := Nat.zero_le _
  have C0 : CHr Z own_EL s.vm s.heap s.vm h0 := by rw [hh]; exact CHr.refl hCH
  show own_GW Z own_EL p.tables e below s (QlN Z a1 q1 h0 n0) ({ frames := 0, cells := 2, slots := 20, locals := 0 } : Room).cells ({ frames := 0, cells := 2, slots := 20, locals := 0 } : Room).slots (s₁.setTop (entryFrame m #[(.ref a1)] 1))
  refine own_goW (fun t k => castTop (ef_lN m a1) k) ?_
  show own_GW _ _ p.tables e below s _ _ _ (s₁.setTop (mkF m 0 #[.val (.ref a1)] []))
  refine own_goW (fun t k => XS.aloadN X0.here hx rfl (hb hby dlN_0) rfl rfl k) ?_
  show own_GW _ _ p.tables e below s _ _ _ (s₁.setTop (mkF m 1 #[.val (.ref a1)] [(.ref a1)]))
  obtain ⟨T130, X130, e130, st130⟩ := getF X0 hx hZ hown (host := "") (Or.inl (hw _ (List.mem_of_getElem? (i := 42) rfl))) Via.refl e0 F1 (g := (mkF m 1 #[.val (.ref a1)] [(.ref a1)])) rfl rfl (hb hby dlN_1)
  refine own_goW st130 ?_
  show own_GW _ _ p.tables e below s _ _ _ (T130.setTop (mkF m 4 #[.val (.ref a1)] [(.long q1)]))
  refine own_goW (fun t k => XS.lconst X130.here hx rfl (hb hby dlN_4) k) ?_
  show own_GW _ _ p.tables e below s _ _ _ (T130.setTop (mkF m 5 #[.val (.ref a1)] [(.long (0 : Int64)), (.long q1)]))
  refine own_goW (fun t k => Jvm.Free.XT.lcmp X130.here hx rfl (hb hby dlN_5) rfl k) ?_
  show own_GW _ _ p.tables e below s _ _ _ (T130.setTop (mkF m 6 #[.val (.ref a1)] [(.int (Jvm.Free.XT.cmpL q1 (0 : Int64)))]))
  refine own_goW (fun t k => XS.ifNo X130.here hx rfl (hb hby dlN_6) rfl (Jvm.Free.XT.ll_ne_f hq) k) ?_
  show own_GW _ _ p.tables e below s _ _ _ (T130.setTop (mkF m 9 #[.val (.ref a1)] []))
  obtain ⟨a131, T131, h131, k131, b131, kk131, X131, e131, E131, hS131, hk131, hZ131, ho131, Ea131, Fc131, Fv131, V131, la131, lb131, C131', Li131, sf131, st131⟩ := ldcCH X130 hx hZ hown (hw _ (List.mem_of_getElem? (i := 115) rfl)) (own_wS hw) e130 hS0 hk0 (own_hEL hw) (List.mem_of_getElem? (i := 0) rfl) C0.1 (vs := [(.int (78 : Int32)), (.int (79 : Int32)), (.int (78 : Int32)), (.int (69 : Int32))]) (z := (4 : Int32)) ⟨by decide, rfl⟩ (by decide) rfl (g := (mkF m 9 #[.val (.ref a1)] [])) rfl (hb hby dlN_9) (n := 16) (by decide) (by decide) (by decide) (by decide)
  refine own_goW st131 ?_
  have C132 := C0.trans C131'
  have f133 := Fld.ext E131 F1
  have z134 := Nat.le_trans Z0 E131.1
  have k135 := (Keep.refl h0 []).ext E131
  show own_GW _ _ p.tables e below s _ _ _ (T131.setTop (mkF m 11 #[.val (.ref a1)] [(.ref a131)]))
  exact own_retAW X131 hx hlk hS131 (by rw [e131]; exact hk131) hZ131 (own_hEL hw) (by rw [e131]; exact C132) Bd.returns rfl rfl (hb hby dlN_11) (by rw [e131]; exact ⟨⟨_, rfl, Ea131, Fc131, _, _, Fv131, V131⟩, N0, k135⟩) (by decide) (by decide)
theorem dlP_0 : decode prog_12_method_4_code 0 = .ok (.aload_n 0, 1) := by decide +kernel
theorem dlP_1 : decode prog_12_method_4_code 1 = .ok (.getfield 7, 3) := by decide +kernel
theorem dlP_4 : decode prog_12_method_4_code 4 = .ok (.lconst 0, 1) := by decide +kernel
theorem dlP_5 : decode prog_12_method_4_code 5 = .ok (.lcmp, 1) := by decide +kernel
theorem dlP_6 : decode prog_12_method_4_code 6 = .ok (.ifCond .ne 6, 3) := by decide +kernel
theorem dlP_12 : decode prog_12_method_4_code 12 = .ok (.aload_n 0, 1) := by decide +kernel
theorem dlP_13 : decode prog_12_method_4_code 13 = .ok (.getfield 16, 3) := by decide +kernel
theorem dlP_16 : decode prog_12_method_4_code 16 = .ok (.ifCond .eq 8, 3) := by decide +kernel
theorem dlP_19 : decode prog_12_method_4_code 19 = .ok (.ldc 38, 2) := by decide +kernel
theorem dlP_21 : decode prog_12_method_4_code 21 = .ok (.goto 5, 3) := by decide +kernel
theorem dlP_26 : decode prog_12_method_4_code 26 = .ok (.areturn, 1) := by decide +kernel
theorem ef_lP (m : MethodId) (x0 : Addr) : entryFrame m #[(.ref x0)] 1 = mkF m 0 #[.val (.ref x0)] [] := by first | (simp [entryFrame, mkF, argsToLocals, Value.category]; done) | rfl
def QlP (Z : State) (a1 : Addr) (q1 : Int64) (h0 : Heap) (n0 : Nat) (v : Option Value) (h : Heap) (L : List Loc) : Prop := (∃ a : Addr, v = some (.ref a) ∧ own_S Z h a (4 : Int32) [(.int (80 : Int32)), (.int (65 : Int32)), (.int (83 : Int32)), (.int (83 : Int32))]) ∧ Fr n0 L ∧ Keep h0 h []
set_option maxRecDepth 65536 in
set_option maxHeartbeats 40000000 in
theorem rmlP (l : Launch) (Z : State) (a0 : Array Value) (hw : ∀ d ∈ tables_1, d.before a0 Z = true) (ws : List Jvm.Cond) (a1 : Addr) (q1 : Int64) (h0 : Heap) (n0 : Nat) (Z0 : n0 ≤ h0.size) (F1 : Fld Z h0 a1 "com/example/vouchsafe/vouchsafe/AuditTally" "audits" "J" (.long q1)) (hq : ¬ q1 = 0) (F2 : Fld Z h0 a1 "com/example/vouchsafe/vouchsafe/AuditTally" "lastPassed" "Z" (.int (1 : Int32))) :
    MetFree l (⟨"com/example/vouchsafe/vouchsafe/AuditTally", "last", "()Ljava/lang/String;"⟩ : MethodName) (head1 (Jvm.Cond.code (⟨"com/example/vouchsafe/vouchsafe/AuditTally", "last", "()Ljava/lang/String;"⟩ : MethodName) prog_12_method_4_code 1 (some (.object "java/lang/String")) :: ws) ({ frames := 0, cells := 2, slots := 20, locals := 0 } : Room)) (fun a U => a = #[(.ref a1)] ∧ Z.Warmed39 U.vm ∧ U.heap = h0 ∧ CHv Z own_EL U.vm h0) (fun _ _ _ _ _ => True) (fun _ U o U' => ∃ v L, o = .returned v ∧ QlP Z a1 q1 h0 n0 v U'.heap L ∧ CHr Z own_EL U.vm U.heap U'.vm U'.heap ∧ ReturnedEndW U o U' L ({ frames := 0, cells := 2, slots := 20, locals := 0 } : Room).cells ({ frames := 0, cells := 2, slots := 20, locals := 0 } : Room).slots) := by
  refine MetFree.of_bodySF (plainFor_of_name pn_com_example_vouchsafe_vouchsafe_AuditTally) hisR ?_
  intro p e s m args below meth c s₁ Bd hml0 hP hK
  obtain ⟨rfl, hZ, hh, hCH⟩ := hP
  have hx := Bd.exec
  have hby := Bd.bytes
  have hlk : meth.locks = false := BodyLoose.notSynchronized Bd
  have hml : c.maxLocals = 1 := hml0
  have hown : s.vm.findClass "com/example/vouchsafe/vouchsafe/AuditTally" = some m.cls := findClass_of_methodNamed Bd.named
  have hnm := (name_of_methodNamed Bd.named Bd.method).1
  have X0 : Stand p l e ({ frames := 0, cells := 2, slots := 20, locals := 0 } : Room) (s.setVm s.vm) m #[(.ref a1)] below meth c s₁ [] 0 0 := Stand.of_body Bd
  have e0 : s₁.heap = h0 := by rw [← hh, Bd.state]; rfl
  have N0 := Fr.nil n0
  have hS0 : s.Since s.vm 0 := (State.WarmedH.refl s).since 0
  have hk0 : 0 ≤ h0.size := Nat.zero_le _
  have C0 : CHr Z own_EL s.vm s.heap s.vm h0 := by rw [hh]; exact CHr.refl hCH
  show own_GW Z own_EL p.tables e below s (QlP Z a1 q1 h0 n0) ({ frames := 0, cells := 2, slots := 20, locals := 0 } : Room).cells ({ frames := 0, cells := 2, slots := 20, locals := 0 } : Room).slots (s₁.setTop (entryFrame m #[(.ref a1)] 1))
  refine own_goW (fun t k => castTop (ef_lP m a1) k) ?_
  show own_GW _ _ p.tables e below s _ _ _ (s₁.setTop (mkF m 0 #[.val (.ref a1)] []))
  refine own_goW (fun t k => XS.aloadN X0.here hx rfl (hb hby dlP_0) rfl rfl k) ?_
  show own_GW _ _ p.tables e below s _ _ _ (s₁.setTop (mkF m 1 #[.val (.ref a1)] [(.ref a1)]))
  obtain ⟨T136, X136, e136, st136⟩ := getF X0 hx hZ hown (host := "") (Or.inl (hw _ (List.mem_of_getElem? (i := 42) rfl))) Via.refl e0 F1 (g := (mkF m 1 #[.val (.ref a1)] [(.ref a1)])) rfl rfl (hb hby dlP_1)
  refine own_goW st136 ?_
  show own_GW _ _ p.tables e below s _ _ _ (T136.setTop (mkF m 4 #[.val (.ref a1)] [(.long q1)]))
  refine own_goW (fun t k => XS.lconst X136.here hx rfl (hb hby dlP_4) k) ?_
  show own_GW _ _ p.tables e below s _ _ _ (T136.setTop (mkF m 5 #[.val (.ref a1)] [(.long (0 : Int64)), (.long q1)]))
  refine own_goW (fun t k => Jvm.Free.XT.lcmp X136.here hx rfl (hb hby dlP_5) rfl k) ?_
  show own_GW _ _ p.tables e below s _ _ _ (T136.setTop (mkF m 6 #[.val (.ref a1)] [(.int (Jvm.Free.XT.cmpL q1 (0 : Int64)))]))
  refine own_goW (fun t k => XS.ifYes X136.here hx rfl (pc0 := 6) (pc' := 12) rfl (hb hby dlP_6) rfl (Jvm.Free.XT.ll_ne_t hq) (by decide) (by decide) k) ?_
  show own_GW _ _ p.tables e below s _ _ _ (T136.setTop (mkF m 12 #[.val (.ref a1)] []))
  refine own_goW (fun t k => XS.aloadN X136.here hx rfl (hb hby dlP_12) rfl rfl k) ?_
  show own_GW _ _ p.tables e below s _ _ _ (T136.setTop (mkF m 13 #[.val (.ref a1)] [(.ref a1)]))
  obtain ⟨T137, X137, e137, st137⟩ := getF X136 hx hZ hown (host := "") (Or.inl (hw _ (List.mem_of_getElem? (i := 46) rfl))) Via.refl e136 F2 (g := (mkF m 13 #[.val (.ref a1)] [(.ref a1)])) rfl rfl (hb hby dlP_13)
  refine own_goW st137 ?_
  show own_GW _ _ p.tables e below s _ _ _ (T137.setTop (mkF m 16 #[.val (.ref a1)] [(.int (1 : Int32))]))
  refine own_goW (fun t k => XS.ifNo X137.here hx rfl (hb hby dlP_16) rfl (by decide) k) ?_
  show own_GW _ _ p.tables e below s _ _ _ (T137.setTop (mkF m 19 #[.val (.ref a1)] []))
  obtain ⟨a138, T138, h138, k138, b138, kk138, X138, e138, E138, hS138, hk138, hZ138, ho138, Ea138, Fc138, Fv138, V138, la138, lb138, C138', Li138, sf138, st138⟩ := ldcCH X137 hx hZ hown (hw _ (List.mem_of_getElem? (i := 112) rfl)) (own_wS hw) e137 hS0 hk0 (own_hEL hw) (List.mem_of_getElem? (i := 1) rfl) C0.1 (vs := [(.int (80 : Int32)), (.int (65 : Int32)), (.int (83 : Int32)), (.int (83 : Int32))]) (z := (4 : Int32)) ⟨by decide, rfl⟩ (by decide) rfl (g := (mkF m 19 #[.val (.ref a1)] [])) rfl (hb hby dlP_19) (n := 16) (by decide) (by decide) (by decide) (by decide)
  refine own_goW st138 ?_
  have C139 := C0.trans C138'
  have f140 := Fld.ext E138 F1
  have f141 := Fld.ext E138 F2
  have z142 := Nat.le_trans Z0 E138.1
  have k143 := (Keep.refl h0 []).ext E138
  show own_GW _ _ p.tables e below s _ _ _ (T138.setTop (mkF m 21 #[.val (.ref a1)] [(.ref a138)]))
  refine own_goW (fun t k => XS.goto X138.here hx rfl (pc0 := 21) (pc' := 26) rfl (hb hby dlP_21) (by decide) (by decide) k) ?_
  show own_GW _ _ p.tables e below s _ _ _ (T138.setTop (mkF m 26 #[.val (.ref a1)] [(.ref a138)]))
  exact own_retAW X138 hx hlk hS138 (by rw [e138]; exact hk138) hZ138 (own_hEL hw) (by rw [e138]; exact C139) Bd.returns rfl rfl (hb hby dlP_26) (by rw [e138]; exact ⟨⟨_, rfl, Ea138, Fc138, _, _, Fv138, V138⟩, N0, k143⟩) (by decide) (by decide)
theorem dlF_0 : decode prog_12_method_4_code 0 = .ok (.aload_n 0, 1) := by decide +kernel
theorem dlF_1 : decode prog_12_method_4_code 1 = .ok (.getfield 7, 3) := by decide +kernel
theorem dlF_4 : decode prog_12_method_4_code 4 = .ok (.lconst 0, 1) := by decide +kernel
theorem dlF_5 : decode prog_12_method_4_code 5 = .ok (.lcmp, 1) := by decide +kernel
theorem dlF_6 : decode prog_12_method_4_code 6 = .ok (.ifCond .ne 6, 3) := by decide +kernel
theorem dlF_12 : decode prog_12_method_4_code 12 = .ok (.aload_n 0, 1) := by decide +kernel
theorem dlF_13 : decode prog_12_method_4_code 13 = .ok (.getfield 16, 3) := by decide +kernel
theorem dlF_16 : decode prog_12_method_4_code 16 = .ok (.ifCond .eq 8, 3) := by decide +kernel
theorem dlF_24 : decode prog_12_method_4_code 24 = .ok (.ldc 40, 2) := by decide +kernel
theorem dlF_26 : decode prog_12_method_4_code 26 = .ok (.areturn, 1) := by decide +kernel
theorem ef_lF (m : MethodId) (x0 : Addr) : entryFrame m #[(.ref x0)] 1 = mkF m 0 #[.val (.ref x0)] [] := by first | (simp [entryFrame, mkF, argsToLocals, Value.category]; done) | rfl
def QlF (Z : State) (a1 : Addr) (q1 : Int64) (h0 : Heap) (n0 : Nat) (v : Option Value) (h : Heap) (L : List Loc) : Prop := (∃ a : Addr, v = some (.ref a) ∧ own_S Z h a (4 : Int32) [(.int (70 : Int32)), (.int (65 : Int32)), (.int (73 : Int32)), (.int (76 : Int32))]) ∧ Fr n0 L ∧ Keep h0 h []
set_option maxRecDepth 65536 in
set_option maxHeartbeats 40000000 in
theorem rmlF (l : Launch) (Z : State) (a0 : Array Value) (hw : ∀ d ∈ tables_1, d.before a0 Z = true) (ws : List Jvm.Cond) (a1 : Addr) (q1 : Int64) (h0 : Heap) (n0 : Nat) (Z0 : n0 ≤ h0.size) (F1 : Fld Z h0 a1 "com/example/vouchsafe/vouchsafe/AuditTally" "audits" "J" (.long q1)) (hq : ¬ q1 = 0) (F2 : Fld Z h0 a1 "com/example/vouchsafe/vouchsafe/AuditTally" "lastPassed" "Z" (.int (0 : Int32))) :
    MetFree l (⟨"com/example/vouchsafe/vouchsafe/AuditTally", "last", "()Ljava/lang/String;"⟩ : MethodName) (head1 (Jvm.Cond.code (⟨"com/example/vouchsafe/vouchsafe/AuditTally", "last", "()Ljava/lang/String;"⟩ : MethodName) prog_12_method_4_code 1 (some (.object "java/lang/String")) :: ws) ({ frames := 0, cells := 2, slots := 20, locals := 0 } : Room)) (fun a U => a = #[(.ref a1)] ∧ Z.Warmed39 U.vm ∧ U.heap = h0 ∧ CHv Z own_EL U.vm h0) (fun _ _ _ _ _ => True) (fun _ U o U' => ∃ v L, o = .returned v ∧ QlF Z a1 q1 h0 n0 v U'.heap L ∧ CHr Z own_EL U.vm U.heap U'.vm U'.heap ∧ ReturnedEndW U o U' L ({ frames := 0, cells := 2, slots := 20, locals := 0 } : Room).cells ({ frames := 0, cells := 2, slots := 20, locals := 0 } : Room).slots) := by
  refine MetFree.of_bodySF (plainFor_of_name pn_com_example_vouchsafe_vouchsafe_AuditTally) hisR ?_
  intro p e s m args below meth c s₁ Bd hml0 hP hK
  obtain ⟨rfl, hZ, hh, hCH⟩ := hP
  have hx := Bd.exec
  have hby := Bd.bytes
  have hlk : meth.locks = false := BodyLoose.notSynchronized Bd
  have hml : c.maxLocals = 1 := hml0
  have hown : s.vm.findClass "com/example/vouchsafe/vouchsafe/AuditTally" = some m.cls := findClass_of_methodNamed Bd.named
  have hnm := (name_of_methodNamed Bd.named Bd.method).1
  have X0 : Stand p l e ({ frames := 0, cells := 2, slots := 20, locals := 0 } : Room) (s.setVm s.vm) m #[(.ref a1)] below meth c s₁ [] 0 0 := Stand.of_body Bd
  have e0 : s₁.heap = h0 := by rw [← hh, Bd.state]; rfl
  have N0 := Fr.nil n0
  have hS0 : s.Since s.vm 0 := (State.WarmedH.refl s).since 0
  have hk0 : 0 ≤ h0.size := Nat.zero_le _
  have C0 : CHr Z own_EL s.vm s.heap s.vm h0 := by rw [hh]; exact CHr.refl hCH
  show own_GW Z own_EL p.tables e below s (QlF Z a1 q1 h0 n0) ({ frames := 0, cells := 2, slots := 20, locals := 0 } : Room).cells ({ frames := 0, cells := 2, slots := 20, locals := 0 } : Room).slots (s₁.setTop (entryFrame m #[(.ref a1)] 1))
  refine own_goW (fun t k => castTop (ef_lF m a1) k) ?_
  show own_GW _ _ p.tables e below s _ _ _ (s₁.setTop (mkF m 0 #[.val (.ref a1)] []))
  refine own_goW (fun t k => XS.aloadN X0.here hx rfl (hb hby dlF_0) rfl rfl k) ?_
  show own_GW _ _ p.tables e below s _ _ _ (s₁.setTop (mkF m 1 #[.val (.ref a1)] [(.ref a1)]))
  obtain ⟨T144, X144, e144, st144⟩ := getF X0 hx hZ hown (host := "") (Or.inl (hw _ (List.mem_of_getElem? (i := 42) rfl))) Via.refl e0 F1 (g := (mkF m 1 #[.val (.ref a1)] [(.ref a1)])) rfl rfl (hb hby dlF_1)
  refine own_goW st144 ?_
  show own_GW _ _ p.tables e below s _ _ _ (T144.setTop (mkF m 4 #[.val (.ref a1)] [(.long q1)]))
  refine own_goW (fun t k => XS.lconst X144.here hx rfl (hb hby dlF_4) k) ?_
  show own_GW _ _ p.tables e below s _ _ _ (T144.setTop (mkF m 5 #[.val (.ref a1)] [(.long (0 : Int64)), (.long q1)]))
  refine own_goW (fun t k => Jvm.Free.XT.lcmp X144.here hx rfl (hb hby dlF_5) rfl k) ?_
  show own_GW _ _ p.tables e below s _ _ _ (T144.setTop (mkF m 6 #[.val (.ref a1)] [(.int (Jvm.Free.XT.cmpL q1 (0 : Int64)))]))
  refine own_goW (fun t k => XS.ifYes X144.here hx rfl (pc0 := 6) (pc' := 12) rfl (hb hby dlF_6) rfl (Jvm.Free.XT.ll_ne_t hq) (by decide) (by decide) k) ?_
  show own_GW _ _ p.tables e below s _ _ _ (T144.setTop (mkF m 12 #[.val (.ref a1)] []))
  refine own_goW (fun t k => XS.aloadN X144.here hx rfl (hb hby dlF_12) rfl rfl k) ?_
  show own_GW _ _ p.tables e below s _ _ _ (T144.setTop (mkF m 13 #[.val (.ref a1)] [(.ref a1)]))
  obtain ⟨T145, X145, e145, st145⟩ := getF X144 hx hZ hown (host := "") (Or.inl (hw _ (List.mem_of_getElem? (i := 46) rfl))) Via.refl e144 F2 (g := (mkF m 13 #[.val (.ref a1)] [(.ref a1)])) rfl rfl (hb hby dlF_13)
  refine own_goW st145 ?_
  show own_GW _ _ p.tables e below s _ _ _ (T145.setTop (mkF m 16 #[.val (.ref a1)] [(.int (0 : Int32))]))
  refine own_goW (fun t k => XS.ifYes X145.here hx rfl (pc0 := 16) (pc' := 24) rfl (hb hby dlF_16) rfl (by decide) (by decide) (by decide) k) ?_
  show own_GW _ _ p.tables e below s _ _ _ (T145.setTop (mkF m 24 #[.val (.ref a1)] []))
  obtain ⟨a146, T146, h146, k146, b146, kk146, X146, e146, E146, hS146, hk146, hZ146, ho146, Ea146, Fc146, Fv146, V146, la146, lb146, C146', Li146, sf146, st146⟩ := ldcCH X145 hx hZ hown (hw _ (List.mem_of_getElem? (i := 58) rfl)) (own_wS hw) e145 hS0 hk0 (own_hEL hw) (List.mem_of_getElem? (i := 2) rfl) C0.1 (vs := [(.int (70 : Int32)), (.int (65 : Int32)), (.int (73 : Int32)), (.int (76 : Int32))]) (z := (4 : Int32)) ⟨by decide, rfl⟩ (by decide) rfl (g := (mkF m 24 #[.val (.ref a1)] [])) rfl (hb hby dlF_24) (n := 16) (by decide) (by decide) (by decide) (by decide)
  refine own_goW st146 ?_
  have C147 := C0.trans C146'
  have f148 := Fld.ext E146 F1
  have f149 := Fld.ext E146 F2
  have z150 := Nat.le_trans Z0 E146.1
  have k151 := (Keep.refl h0 []).ext E146
  show own_GW _ _ p.tables e below s _ _ _ (T146.setTop (mkF m 26 #[.val (.ref a1)] [(.ref a146)]))
  exact own_retAW X146 hx hlk hS146 (by rw [e146]; exact hk146) hZ146 (own_hEL hw) (by rw [e146]; exact C147) Bd.returns rfl rfl (hb hby dlF_26) (by rw [e146]; exact ⟨⟨_, rfl, Ea146, Fc146, _, _, Fv146, V146⟩, N0, k151⟩) (by decide) (by decide)
theorem dpP_0 : decode prog_63_method_7_code 0 = .ok (.aload_n 0, 1) := by decide +kernel
theorem dpP_1 : decode prog_63_method_7_code 1 = .ok (.getfield 19, 3) := by decide +kernel
theorem dpP_4 : decode prog_63_method_7_code 4 = .ok (.ldc 29, 2) := by decide +kernel
theorem pd__Ljava_lang_Object__Z : parseMethodDescriptor "(Ljava/lang/Object;)Z" = some ⟨[(.object "java/lang/Object")], some .boolean⟩ := by decide +kernel
theorem dpP_6 : decode prog_63_method_7_code 6 = .ok (.invokevirtual 107, 3) := by decide +kernel
theorem dpP_9 : decode prog_63_method_7_code 9 = .ok (.ireturn, 1) := by decide +kernel
theorem ef_pP (m : MethodId) (x0 : Addr) : entryFrame m #[(.ref x0)] 1 = mkF m 0 #[.val (.ref x0)] [] := by first | (simp [entryFrame, mkF, argsToLocals, Value.category]; done) | rfl
def QpP (Z : State) (a1 x3 t3 : Addr) (k1 : ClassId) (w0 : Int32) (h0 : Heap) (n0 : Nat) (v : Option Value) (h : Heap) (L : List Loc) : Prop := v = some (.int (1 : Int32)) ∧ Fr n0 L ∧ Keep h0 h []
set_option maxRecDepth 65536 in
set_option maxHeartbeats 40000000 in
theorem rmpP (l : Launch) (Z : State) (a0 : Array Value) (hw : ∀ d ∈ tables_1, d.before a0 Z = true) (ws : List Jvm.Cond) (a1 x3 t3 : Addr) (k1 : ClassId) (w0 : Int32) (h0 : Heap) (n0 : Nat) (Z0 : n0 ≤ h0.size) (F1 : Fld Z h0 a1 "com/example/vouchsafe/vouchsafe/LogEntry" "result" "Ljava/lang/String;" (.ref x3)) (rE : Exa Z h0 x3 "java/lang/String") (rC : Fld Z h0 x3 "java/lang/String" "coder" "B" (.int 0)) (rV : Fld Z h0 x3 "java/lang/String" "value" "[B" (.ref t3)) (rA : Arv Z h0 t3 k1 .byte (4 : Int32) [(.int (112 : Int32)), (.int (97 : Int32)), (.int (115 : Int32)), (.int (115 : Int32))] (.int 0)) (O0 : Old Z n0 h0) (S0 : Sta Z Z.heap "java/lang/String" "COMPACT_STRINGS" "Z" (.int w0)) (hcw : ¬ w0 = 0) :
    MetFree l (⟨"com/example/vouchsafe/vouchsafe/LogEntry", "passed", "()Z"⟩ : MethodName) (head1 (Jvm.Cond.code (⟨"com/example/vouchsafe/vouchsafe/LogEntry", "passed", "()Z"⟩ : MethodName) prog_63_method_7_code 1 (some .boolean) :: ws) ({ frames := 2, cells := 2, slots := 20, locals := 28 } : Room)) (fun a U => a = #[(.ref a1)] ∧ Z.Warmed39 U.vm ∧ U.heap = h0 ∧ CHv Z own_EL U.vm h0) (fun _ _ _ _ _ => True) (fun _ U o U' => ∃ v L, o = .returned v ∧ QpP Z a1 x3 t3 k1 w0 h0 n0 v U'.heap L ∧ CHr Z own_EL U.vm U.heap U'.vm U'.heap ∧ ReturnedEndW U o U' L ({ frames := 2, cells := 2, slots := 20, locals := 28 } : Room).cells ({ frames := 2, cells := 2, slots := 20, locals := 28 } : Room).slots) := by
  refine MetFree.of_bodySF (plainFor_of_name pn_com_example_vouchsafe_vouchsafe_LogEntry) hisR ?_
  intro p e s m args below meth c s₁ Bd hml0 hP hK
  obtain ⟨rfl, hZ, hh, hCH⟩ := hP
  have hx := Bd.exec
  have hby := Bd.bytes
  have hlk : meth.locks = false := BodyLoose.notSynchronized Bd
  have hml : c.maxLocals = 1 := hml0
  have hown : s.vm.findClass "com/example/vouchsafe/vouchsafe/LogEntry" = some m.cls := findClass_of_methodNamed Bd.named
  have hnm := (name_of_methodNamed Bd.named Bd.method).1
  have X0 : Stand p l e ({ frames := 2, cells := 2, slots := 20, locals := 28 } : Room) (s.setVm s.vm) m #[(.ref a1)] below meth c s₁ [] 0 0 := Stand.of_body Bd
  have e0 : s₁.heap = h0 := by rw [← hh, Bd.state]; rfl
  have N0 := Fr.nil n0
  have hS0 : s.Since s.vm 0 := (State.WarmedH.refl s).since 0
  have hk0 : 0 ≤ h0.size := Nat.zero_le _
  have C0 : CHr Z own_EL s.vm s.heap s.vm h0 := by rw [hh]; exact CHr.refl hCH
  show own_GW Z own_EL p.tables e below s (QpP Z a1 x3 t3 k1 w0 h0 n0) ({ frames := 2, cells := 2, slots := 20, locals := 28 } : Room).cells ({ frames := 2, cells := 2, slots := 20, locals := 28 } : Room).slots (s₁.setTop (entryFrame m #[(.ref a1)] 1))
  refine own_goW (fun t k => castTop (ef_pP m a1) k) ?_
  show own_GW _ _ p.tables e below s _ _ _ (s₁.setTop (mkF m 0 #[.val (.ref a1)] []))
  refine own_goW (fun t k => XS.aloadN X0.here hx rfl (hb hby dpP_0) rfl rfl k) ?_
  show own_GW _ _ p.tables e below s _ _ _ (s₁.setTop (mkF m 1 #[.val (.ref a1)] [(.ref a1)]))
  obtain ⟨T152, X152, e152, st152⟩ := getF X0 hx hZ hown (host := "") (Or.inl (hw _ (List.mem_of_getElem? (i := 81) rfl))) Via.refl e0 F1 (g := (mkF m 1 #[.val (.ref a1)] [(.ref a1)])) rfl rfl (hb hby dpP_1)
  refine own_goW st152 ?_
  show own_GW _ _ p.tables e below s _ _ _ (T152.setTop (mkF m 4 #[.val (.ref a1)] [(.ref x3)]))
  obtain ⟨a153, T153, h153, k153, b153, kk153, X153, e153, E153, hS153, hk153, hZ153, ho153, Ea153, Fc153, Fv153, V153, la153, lb153, C153', Li153, sf153, st153⟩ := ldcCH X152 hx hZ hown (hw _ (List.mem_of_getElem? (i := 97) rfl)) (own_wS hw) e152 hS0 hk0 (own_hEL hw) (List.mem_of_getElem? (i := 10) rfl) C0.1 (vs := [(.int (112 : Int32)), (.int (97 : Int32)), (.int (115 : Int32)), (.int (115 : Int32))]) (z := (4 : Int32)) ⟨by decide, rfl⟩ (by decide) rfl (g := (mkF m 4 #[.val (.ref a1)] [(.ref x3)])) rfl (hb hby dpP_4) (n := 16) (by decide) (by decide) (by decide) (by decide)
  refine own_goW st153 ?_
  have C154 := C0.trans C153'
  have f155 := Fld.ext E153 F1
  have f156 := Exa.ext E153 rE
  have f157 := Fld.ext E153 rC
  have f158 := Fld.ext E153 rV
  have f159 := rA.ext E153
  have f160 := O0.ext E153
  have z161 := Nat.le_trans Z0 E153.1
  have k162 := (Keep.refl h0 []).ext E153
  show own_GW _ _ p.tables e below s _ _ _ (T153.setTop (mkF m 6 #[.val (.ref a1)] [(.ref a153), (.ref x3)]))
  obtain ⟨cq163, kq163, q163a, q163b, q163c⟩ := isOf hZ153 e153 f156
  obtain ⟨_, _, ⟨T163, L163, k163, n163⟩, -, X163, ⟨Lc163, hQ163, l163, y163, z163⟩, st163⟩ := X153.virtualBack hx (y := (⟨"java/lang/String", "equals", "(Ljava/lang/Object;)Z"⟩ : MethodName)) (z := (⟨"java/lang/String", "equals", "(Ljava/lang/Object;)Z"⟩ : MethodName)) ho153 (mvT hZ153 (hw _ (List.mem_of_getElem? (i := 98) rfl))) (mvT hZ153 (hw _ (List.mem_of_getElem? (i := 60) rfl))) (notFace_of_selects (args := #[]) (mvT hZ153 (hw _ (List.mem_of_getElem? (i := 62) rfl)))) (mvT hZ153 (hw _ (List.mem_of_getElem? (i := 62) rfl))) (mvT hZ153 (hw _ (List.mem_of_getElem? (i := 61) rfl))) (by decide) (StrChars.Road.eqW (W := 0) hZ153 (own_wE hw) (kI := 4) (hw _ (List.mem_of_getElem? (i := 2) rfl)) f156 f158 f157 f159 (StrChars.Road.codOf (cs := ([112, 97, 115, 115] : List Int32)) (n := 4) rfl (by decide)) (by decide) (by decide) Ea153 Fv153 Fc153 V153 (StrChars.Road.codOf (cs := ([112, 97, 115, 115] : List Int32)) (n := 4) rfl (by decide)) (by decide) (by decide) (Sta.ext f160.2 S0) hcw (by decide) (by decide)) q163a q163c (g := (mkF m 6 #[.val (.ref a1)] [(.ref a153), (.ref x3)])) rfl (by rw [hml]; rfl) (Steps.refl _) (argsL := [(.ref a153)]) (rest := []) (lenOf pd__Ljava_lang_Object__Z rfl) rfl (by show 2 * 0 + _ ≤ _; exact Nat.le_of_eq rfl) (hb hby dpP_6) (fun _ _ => ⟨rfl, e153, (by decide : 2 + 0 ≤ _), (by decide : 20 + 0 ≤ _)⟩)
  dsimp only [Pt.U, Pt.locs, Pt.cells, Pt.slots] at X163 l163 y163 z163 st163 hQ163
  subst l163 y163 z163
  obtain ⟨hv163, rfl, hh163⟩ := hQ163
  obtain ⟨rfl, -⟩ := hv163.resolve_right (fun q => q.2 rfl)
  have N163q := Fr.nil n0
  have N163 := Fr.app N0 N163q
  refine own_goW (fun t k => st163.trans k) ?_
  show own_GW _ _ p.tables e below s _ _ _ (T163.setTop (mkF m 9 #[.val (.ref a1)] [(.int (1 : Int32))]))
  exact own_retNW X163 hx hlk hS153 (by rw [hh163]; exact hk153) hZ153 (own_hEL hw) (by rw [hh163]; exact C154) (t := .boolean) (z' := (1 : Int32)) Bd.returns (by simp) (hb hby dpP_9) (rfl) (by rw [hh163]; exact ⟨rfl, N163, k162⟩) (by decide) (by decide)
theorem dpF_0 : decode prog_63_method_7_code 0 = .ok (.aload_n 0, 1) := by decide +kernel
theorem dpF_1 : decode prog_63_method_7_code 1 = .ok (.getfield 19, 3) := by decide +kernel
theorem dpF_4 : decode prog_63_method_7_code 4 = .ok (.ldc 29, 2) := by decide +kernel
theorem dpF_6 : decode prog_63_method_7_code 6 = .ok (.invokevirtual 107, 3) := by decide +kernel
theorem dpF_9 : decode prog_63_method_7_code 9 = .ok (.ireturn, 1) := by decide +kernel
theorem ef_pF (m : MethodId) (x0 : Addr) : entryFrame m #[(.ref x0)] 1 = mkF m 0 #[.val (.ref x0)] [] := by first | (simp [entryFrame, mkF, argsToLocals, Value.category]; done) | rfl
def QpF (Z : State) (a1 x3 t3 : Addr) (k1 : ClassId) (w0 : Int32) (h0 : Heap) (n0 : Nat) (v : Option Value) (h : Heap) (L : List Loc) : Prop := v = some (.int (0 : Int32)) ∧ Fr n0 L ∧ Keep h0 h []
set_option maxRecDepth 65536 in
set_option maxHeartbeats 40000000 in
theorem rmpF (l : Launch) (Z : State) (a0 : Array Value) (hw : ∀ d ∈ tables_1, d.before a0 Z = true) (ws : List Jvm.Cond) (a1 x3 t3 : Addr) (k1 : ClassId) (w0 : Int32) (h0 : Heap) (n0 : Nat) (Z0 : n0 ≤ h0.size) (F1 : Fld Z h0 a1 "com/example/vouchsafe/vouchsafe/LogEntry" "result" "Ljava/lang/String;" (.ref x3)) (rE : Exa Z h0 x3 "java/lang/String") (rC : Fld Z h0 x3 "java/lang/String" "coder" "B" (.int 0)) (rV : Fld Z h0 x3 "java/lang/String" "value" "[B" (.ref t3)) (rA : Arv Z h0 t3 k1 .byte (4 : Int32) [(.int (102 : Int32)), (.int (97 : Int32)), (.int (105 : Int32)), (.int (108 : Int32))] (.int 0)) (O0 : Old Z n0 h0) (S0 : Sta Z Z.heap "java/lang/String" "COMPACT_STRINGS" "Z" (.int w0)) (hcw : ¬ w0 = 0) :
    MetFree l (⟨"com/example/vouchsafe/vouchsafe/LogEntry", "passed", "()Z"⟩ : MethodName) (head1 (Jvm.Cond.code (⟨"com/example/vouchsafe/vouchsafe/LogEntry", "passed", "()Z"⟩ : MethodName) prog_63_method_7_code 1 (some .boolean) :: ws) ({ frames := 2, cells := 2, slots := 20, locals := 28 } : Room)) (fun a U => a = #[(.ref a1)] ∧ Z.Warmed39 U.vm ∧ U.heap = h0 ∧ CHv Z own_EL U.vm h0) (fun _ _ _ _ _ => True) (fun _ U o U' => ∃ v L, o = .returned v ∧ QpF Z a1 x3 t3 k1 w0 h0 n0 v U'.heap L ∧ CHr Z own_EL U.vm U.heap U'.vm U'.heap ∧ ReturnedEndW U o U' L ({ frames := 2, cells := 2, slots := 20, locals := 28 } : Room).cells ({ frames := 2, cells := 2, slots := 20, locals := 28 } : Room).slots) := by
  refine MetFree.of_bodySF (plainFor_of_name pn_com_example_vouchsafe_vouchsafe_LogEntry) hisR ?_
  intro p e s m args below meth c s₁ Bd hml0 hP hK
  obtain ⟨rfl, hZ, hh, hCH⟩ := hP
  have hx := Bd.exec
  have hby := Bd.bytes
  have hlk : meth.locks = false := BodyLoose.notSynchronized Bd
  have hml : c.maxLocals = 1 := hml0
  have hown : s.vm.findClass "com/example/vouchsafe/vouchsafe/LogEntry" = some m.cls := findClass_of_methodNamed Bd.named
  have hnm := (name_of_methodNamed Bd.named Bd.method).1
  have X0 : Stand p l e ({ frames := 2, cells := 2, slots := 20, locals := 28 } : Room) (s.setVm s.vm) m #[(.ref a1)] below meth c s₁ [] 0 0 := Stand.of_body Bd
  have e0 : s₁.heap = h0 := by rw [← hh, Bd.state]; rfl
  have N0 := Fr.nil n0
  have hS0 : s.Since s.vm 0 := (State.WarmedH.refl s).since 0
  have hk0 : 0 ≤ h0.size := Nat.zero_le _
  have C0 : CHr Z own_EL s.vm s.heap s.vm h0 := by rw [hh]; exact CHr.refl hCH
  show own_GW Z own_EL p.tables e below s (QpF Z a1 x3 t3 k1 w0 h0 n0) ({ frames := 2, cells := 2, slots := 20, locals := 28 } : Room).cells ({ frames := 2, cells := 2, slots := 20, locals := 28 } : Room).slots (s₁.setTop (entryFrame m #[(.ref a1)] 1))
  refine own_goW (fun t k => castTop (ef_pF m a1) k) ?_
  show own_GW _ _ p.tables e below s _ _ _ (s₁.setTop (mkF m 0 #[.val (.ref a1)] []))
  refine own_goW (fun t k => XS.aloadN X0.here hx rfl (hb hby dpF_0) rfl rfl k) ?_
  show own_GW _ _ p.tables e below s _ _ _ (s₁.setTop (mkF m 1 #[.val (.ref a1)] [(.ref a1)]))
  obtain ⟨T164, X164, e164, st164⟩ := getF X0 hx hZ hown (host := "") (Or.inl (hw _ (List.mem_of_getElem? (i := 81) rfl))) Via.refl e0 F1 (g := (mkF m 1 #[.val (.ref a1)] [(.ref a1)])) rfl rfl (hb hby dpF_1)
  refine own_goW st164 ?_
  show own_GW _ _ p.tables e below s _ _ _ (T164.setTop (mkF m 4 #[.val (.ref a1)] [(.ref x3)]))
  obtain ⟨a165, T165, h165, k165, b165, kk165, X165, e165, E165, hS165, hk165, hZ165, ho165, Ea165, Fc165, Fv165, V165, la165, lb165, C165', Li165, sf165, st165⟩ := ldcCH X164 hx hZ hown (hw _ (List.mem_of_getElem? (i := 97) rfl)) (own_wS hw) e164 hS0 hk0 (own_hEL hw) (List.mem_of_getElem? (i := 10) rfl) C0.1 (vs := [(.int (112 : Int32)), (.int (97 : Int32)), (.int (115 : Int32)), (.int (115 : Int32))]) (z := (4 : Int32)) ⟨by decide, rfl⟩ (by decide) rfl (g := (mkF m 4 #[.val (.ref a1)] [(.ref x3)])) rfl (hb hby dpF_4) (n := 16) (by decide) (by decide) (by decide) (by decide)
  refine own_goW st165 ?_
  have C166 := C0.trans C165'
  have f167 := Fld.ext E165 F1
  have f168 := Exa.ext E165 rE
  have f169 := Fld.ext E165 rC
  have f170 := Fld.ext E165 rV
  have f171 := rA.ext E165
  have f172 := O0.ext E165
  have z173 := Nat.le_trans Z0 E165.1
  have k174 := (Keep.refl h0 []).ext E165
  show own_GW _ _ p.tables e below s _ _ _ (T165.setTop (mkF m 6 #[.val (.ref a1)] [(.ref a165), (.ref x3)]))
  obtain ⟨cq175, kq175, q175a, q175b, q175c⟩ := isOf hZ165 e165 f168
  obtain ⟨_, _, ⟨T175, L175, k175, n175⟩, -, X175, ⟨Lc175, hQ175, l175, y175, z175⟩, st175⟩ := X165.virtualBack hx (y := (⟨"java/lang/String", "equals", "(Ljava/lang/Object;)Z"⟩ : MethodName)) (z := (⟨"java/lang/String", "equals", "(Ljava/lang/Object;)Z"⟩ : MethodName)) ho165 (mvT hZ165 (hw _ (List.mem_of_getElem? (i := 98) rfl))) (mvT hZ165 (hw _ (List.mem_of_getElem? (i := 60) rfl))) (notFace_of_selects (args := #[]) (mvT hZ165 (hw _ (List.mem_of_getElem? (i := 62) rfl)))) (mvT hZ165 (hw _ (List.mem_of_getElem? (i := 62) rfl))) (mvT hZ165 (hw _ (List.mem_of_getElem? (i := 61) rfl))) (by decide) (StrChars.Road.eqW (W := 0) hZ165 (own_wE hw) (kI := 4) (hw _ (List.mem_of_getElem? (i := 2) rfl)) f168 f170 f169 f171 (StrChars.Road.codOf (cs := ([102, 97, 105, 108] : List Int32)) (n := 4) rfl (by decide)) (by decide) (by decide) Ea165 Fv165 Fc165 V165 (StrChars.Road.codOf (cs := ([112, 97, 115, 115] : List Int32)) (n := 4) rfl (by decide)) (by decide) (by decide) (Sta.ext f172.2 S0) hcw (by decide) (by decide)) q175a q175c (g := (mkF m 6 #[.val (.ref a1)] [(.ref a165), (.ref x3)])) rfl (by rw [hml]; rfl) (Steps.refl _) (argsL := [(.ref a165)]) (rest := []) (lenOf pd__Ljava_lang_Object__Z rfl) rfl (by show 2 * 0 + _ ≤ _; exact Nat.le_of_eq rfl) (hb hby dpF_6) (fun _ _ => ⟨rfl, e165, (by decide : 2 + 0 ≤ _), (by decide : 20 + 0 ≤ _)⟩)
  dsimp only [Pt.U, Pt.locs, Pt.cells, Pt.slots] at X175 l175 y175 z175 st175 hQ175
  subst l175 y175 z175
  obtain ⟨hv175, rfl, hh175⟩ := hQ175
  obtain ⟨rfl, -⟩ := hv175.resolve_left (fun q => absurd q.2 (by decide))
  have N175q := Fr.nil n0
  have N175 := Fr.app N0 N175q
  refine own_goW (fun t k => st175.trans k) ?_
  show own_GW _ _ p.tables e below s _ _ _ (T175.setTop (mkF m 9 #[.val (.ref a1)] [(.int (0 : Int32))]))
  exact own_retNW X175 hx hlk hS165 (by rw [hh175]; exact hk165) hZ165 (own_hEL hw) (by rw [hh175]; exact C166) (t := .boolean) (z' := (0 : Int32)) Bd.returns (by simp) (hb hby dpF_9) (rfl) (by rw [hh175]; exact ⟨rfl, N175, k174⟩) (by decide) (by decide)
theorem dwP_0 : decode prog_12_method_3_code 0 = .ok (.aload_n 1, 1) := by decide +kernel
theorem pd___Z : parseMethodDescriptor "()Z" = some ⟨[], some .boolean⟩ := by decide +kernel
theorem dwP_1 : decode prog_12_method_3_code 1 = .ok (.invokevirtual 24, 3) := by decide +kernel
theorem dwP_4 : decode prog_12_method_3_code 4 = .ok (.istore_n 2, 1) := by decide +kernel
theorem dwP_5 : decode prog_12_method_3_code 5 = .ok (.new 8, 3) := by decide +kernel
theorem dwP_8 : decode prog_12_method_3_code 8 = .ok (.dup, 1) := by decide +kernel
theorem dwP_9 : decode prog_12_method_3_code 9 = .ok (.aload_n 0, 1) := by decide +kernel
theorem dwP_10 : decode prog_12_method_3_code 10 = .ok (.getfield 7, 3) := by decide +kernel
theorem dwP_13 : decode prog_12_method_3_code 13 = .ok (.lconst 1, 1) := by decide +kernel
theorem dwP_14 : decode prog_12_method_3_code 14 = .ok (.ladd, 1) := by decide +kernel
theorem dwP_15 : decode prog_12_method_3_code 15 = .ok (.aload_n 0, 1) := by decide +kernel
theorem dwP_16 : decode prog_12_method_3_code 16 = .ok (.getfield 13, 3) := by decide +kernel
theorem dwP_19 : decode prog_12_method_3_code 19 = .ok (.iload_n 2, 1) := by decide +kernel
theorem dwP_20 : decode prog_12_method_3_code 20 = .ok (.ifCond .eq 7, 3) := by decide +kernel
theorem dwP_23 : decode prog_12_method_3_code 23 = .ok (.iconst 1, 1) := by decide +kernel
theorem dwP_24 : decode prog_12_method_3_code 24 = .ok (.goto 4, 3) := by decide +kernel
theorem dwP_28 : decode prog_12_method_3_code 28 = .ok (.i2l, 1) := by decide +kernel
theorem dwP_29 : decode prog_12_method_3_code 29 = .ok (.ladd, 1) := by decide +kernel
theorem dwP_30 : decode prog_12_method_3_code 30 = .ok (.iload_n 2, 1) := by decide +kernel
theorem dwP_31 : decode prog_12_method_3_code 31 = .ok (.aload_n 1, 1) := by decide +kernel
theorem pd___Ljava_lang_String_ : parseMethodDescriptor "()Ljava/lang/String;" = some ⟨[], some (.object "java/lang/String")⟩ := by decide +kernel
theorem dwP_32 : decode prog_12_method_3_code 32 = .ok (.invokevirtual 29, 3) := by decide +kernel
theorem pd__JJZLjava_lang_String__V : parseMethodDescriptor "(JJZLjava/lang/String;)V" = some ⟨[.long, .long, .boolean, (.object "java/lang/String")], none⟩ := by decide +kernel
theorem dwP_35 : decode prog_12_method_3_code 35 = .ok (.invokespecial 33, 3) := by decide +kernel
theorem dwP_38 : decode prog_12_method_3_code 38 = .ok (.areturn, 1) := by decide +kernel
theorem ef_wP (m : MethodId) (x0 : Addr) (x1 : Addr) : entryFrame m #[(.ref x0), (.ref x1)] 3 = mkF m 0 #[.val (.ref x0), .val (.ref x1), .unset] [] := by first | (simp [entryFrame, mkF, argsToLocals, Value.category]; done) | rfl
def QwP (Z : State) (a1 a2 x0 x3 t3 : Addr) (k1 : ClassId) (w0 : Int32) (q1 q2 : Int64) (h0 : Heap) (n0 : Nat) (v : Option Value) (h : Heap) (L : List Loc) : Prop := (∃ b : Addr, v = some (.ref b) ∧ Exa Z h b "com/example/vouchsafe/vouchsafe/AuditTally" ∧ Fld Z h b "com/example/vouchsafe/vouchsafe/AuditTally" "audits" "J" (.long (q1 + (1 : Int64))) ∧ Fld Z h b "com/example/vouchsafe/vouchsafe/AuditTally" "lastPassed" "Z" (.int (1 : Int32))) ∧ Fr n0 L ∧ Keep h0 h []
set_option maxRecDepth 65536 in
set_option maxHeartbeats 40000000 in
theorem rmwP (l : Launch) (Z : State) (a0 : Array Value) (hw : ∀ d ∈ tables_1, d.before a0 Z = true) (ws : List Jvm.Cond) (a1 a2 x0 x3 t3 : Addr) (k1 : ClassId) (w0 : Int32) (q1 q2 : Int64) (h0 : Heap) (n0 : Nat) (Z0 : n0 ≤ h0.size) (E2 : Exa Z h0 a2 "com/example/vouchsafe/vouchsafe/LogEntry") (F1 : Fld Z h0 a1 "com/example/vouchsafe/vouchsafe/AuditTally" "audits" "J" (.long q1)) (F2 : Fld Z h0 a1 "com/example/vouchsafe/vouchsafe/AuditTally" "passed" "J" (.long q2)) (Fe : Fld Z h0 a2 "com/example/vouchsafe/vouchsafe/LogEntry" "eid" "Ljava/lang/String;" (.ref x0)) (Fr3 : Fld Z h0 a2 "com/example/vouchsafe/vouchsafe/LogEntry" "result" "Ljava/lang/String;" (.ref x3)) (rE : Exa Z h0 x3 "java/lang/String") (rC : Fld Z h0 x3 "java/lang/String" "coder" "B" (.int 0)) (rV : Fld Z h0 x3 "java/lang/String" "value" "[B" (.ref t3)) (rA : Arv Z h0 t3 k1 .byte (4 : Int32) [(.int (112 : Int32)), (.int (97 : Int32)), (.int (115 : Int32)), (.int (115 : Int32))] (.int 0)) (O0 : Old Z n0 h0) (S0 : Sta Z Z.heap "java/lang/String" "COMPACT_STRINGS" "Z" (.int w0)) (hcw : ¬ w0 = 0) :
    MetFree l (⟨"com/example/vouchsafe/vouchsafe/AuditTally", "with", "(Lcom/example/vouchsafe/vouchsafe/LogEntry;)Lcom/example/vouchsafe/vouchsafe/AuditTally;"⟩ : MethodName) (head1 (Jvm.Cond.code (⟨"com/example/vouchsafe/vouchsafe/AuditTally", "with", "(Lcom/example/vouchsafe/vouchsafe/LogEntry;)Lcom/example/vouchsafe/vouchsafe/AuditTally;"⟩ : MethodName) prog_12_method_3_code 3 (some (.object "com/example/vouchsafe/vouchsafe/AuditTally")) :: ws) ({ frames := 3, cells := 3, slots := 24, locals := 43 } : Room)) (fun a U => a = #[(.ref a1), (.ref a2)] ∧ Z.Warmed39 U.vm ∧ U.heap = h0 ∧ CHv Z own_EL U.vm h0) (fun _ _ _ _ _ => True) (fun _ U o U' => ∃ v L, o = .returned v ∧ QwP Z a1 a2 x0 x3 t3 k1 w0 q1 q2 h0 n0 v U'.heap L ∧ CHr Z own_EL U.vm U.heap U'.vm U'.heap ∧ ReturnedEndW U o U' L ({ frames := 3, cells := 3, slots := 24, locals := 43 } : Room).cells ({ frames := 3, cells := 3, slots := 24, locals := 43 } : Room).slots) := by
  refine MetFree.of_bodySF (plainFor_of_name pn_com_example_vouchsafe_vouchsafe_AuditTally) hisR ?_
  intro p e s m args below meth c s₁ Bd hml0 hP hK
  obtain ⟨rfl, hZ, hh, hCH⟩ := hP
  have hx := Bd.exec
  have hby := Bd.bytes
  have hlk : meth.locks = false := BodyLoose.notSynchronized Bd
  have hml : c.maxLocals = 3 := hml0
  have hown : s.vm.findClass "com/example/vouchsafe/vouchsafe/AuditTally" = some m.cls := findClass_of_methodNamed Bd.named
  have hnm := (name_of_methodNamed Bd.named Bd.method).1
  have X0 : Stand p l e ({ frames := 3, cells := 3, slots := 24, locals := 43 } : Room) (s.setVm s.vm) m #[(.ref a1), (.ref a2)] below meth c s₁ [] 0 0 := Stand.of_body Bd
  have e0 : s₁.heap = h0 := by rw [← hh, Bd.state]; rfl
  have N0 := Fr.nil n0
  have hS0 : s.Since s.vm 0 := (State.WarmedH.refl s).since 0
  have hk0 : 0 ≤ h0.size := Nat.zero_le _
  have C0 : CHr Z own_EL s.vm s.heap s.vm h0 := by rw [hh]; exact CHr.refl hCH
  show own_GW Z own_EL p.tables e below s (QwP Z a1 a2 x0 x3 t3 k1 w0 q1 q2 h0 n0) ({ frames := 3, cells := 3, slots := 24, locals := 43 } : Room).cells ({ frames := 3, cells := 3, slots := 24, locals := 43 } : Room).slots (s₁.setTop (entryFrame m #[(.ref a1), (.ref a2)] 3))
  refine own_goW (fun t k => castTop (ef_wP m a1 a2) k) ?_
  show own_GW _ _ p.tables e below s _ _ _ (s₁.setTop (mkF m 0 #[.val (.ref a1), .val (.ref a2), .unset] []))
  refine own_goW (fun t k => XS.aloadN X0.here hx rfl (hb hby dwP_0) rfl rfl k) ?_
  show own_GW _ _ p.tables e below s _ _ _ (s₁.setTop (mkF m 1 #[.val (.ref a1), .val (.ref a2), .unset] [(.ref a2)]))
  obtain ⟨cq176, kq176, q176a, q176b, q176c⟩ := isOf hZ e0 E2
  obtain ⟨_, _, ⟨T176, L176, k176, n176⟩, -, X176', sn176, gr176, ⟨Lc176, hQ176, l176, y176, z176, C176'⟩, st176⟩ := X0.virtualBackS hx (y := (⟨"com/example/vouchsafe/vouchsafe/LogEntry", "passed", "()Z"⟩ : MethodName)) (z := (⟨"com/example/vouchsafe/vouchsafe/LogEntry", "passed", "()Z"⟩ : MethodName)) hown (mvT hZ (hw _ (List.mem_of_getElem? (i := 92) rfl))) (mvT hZ (hw _ (List.mem_of_getElem? (i := 93) rfl))) (notFace_of_selects (args := #[]) (mvT hZ (hw _ (List.mem_of_getElem? (i := 95) rfl)))) (mvT hZ (hw _ (List.mem_of_getElem? (i := 95) rfl))) (mvT hZ (hw _ (List.mem_of_getElem? (i := 94) rfl))) (by decide) (backOfSH (W := 0) (rmpP l Z a0 hw [] a2 x3 t3 k1 w0 h0 n0 Z0 Fr3 rE rC rV rA O0 S0 hcw) hZ (hw _ (List.mem_of_getElem? (i := 96) rfl)) (hw _ (List.mem_of_getElem? (i := 67) rfl)) (by decide) (by decide) (own_hEL hw) C0.1) q176a q176c (g := (mkF m 1 #[.val (.ref a1), .val (.ref a2), .unset] [(.ref a2)])) rfl (by rw [hml]; rfl) (Steps.refl _) (argsL := []) (rest := []) (lenOf pd___Z rfl) rfl (by show 2 * 0 + _ ≤ _; exact Nat.le_of_eq rfl) (hb hby dwP_1) (fun _ _ => ⟨rfl, e0, (by decide : 0 + 2 ≤ _), (by decide : 0 + 20 ≤ _)⟩)
  dsimp only [Pt.U, Pt.locs, Pt.cells, Pt.slots] at X176' sn176 gr176 l176 y176 z176 st176 hQ176 C176'
  subst l176 y176 z176
  obtain ⟨X176, hS176, hZ176, ho176⟩ := rebS hS0 (by rw [e0]; exact hk0) X176' sn176 gr176 hZ hown
  obtain ⟨rfl, N176q, K176⟩ := hQ176
  have N176 := Fr.app N0 N176q
  have C177 := C0.trans C176'
  refine own_goW (fun t k => st176.trans k) ?_
  have f178 := E2.keep K176
  have f179 := F1.keep K176 (fun q => nomatch q)
  have f180 := F2.keep K176 (fun q => nomatch q)
  have f181 := Fe.keep K176 (fun q => nomatch q)
  have f182 := Fr3.keep K176 (fun q => nomatch q)
  have f183 := rE.keep K176
  have f184 := rC.keep K176 (fun q => nomatch q)
  have f185 := rV.keep K176 (fun q => nomatch q)
  have f186 := rA.keep K176 (fun q => nomatch q)
  have f187 := O0.keep K176 (fun x q => nomatch q)
  have z188 := Nat.le_trans Z0 K176.1
  have k189 := (Keep.refl h0 []).trans K176 (fun x q => nomatch q)
  show own_GW _ _ p.tables e below s _ _ _ (T176.setTop (mkF m 4 #[.val (.ref a1), .val (.ref a2), .unset] [(.int (1 : Int32))]))
  refine own_goW (fun t k => XS.istoreN X176.here hx rfl (hb hby dwP_4) rfl (l' := #[.val (.ref a1), .val (.ref a2), .val (.int (1 : Int32))]) rfl k) ?_
  show own_GW _ _ p.tables e below s _ _ _ (T176.setTop (mkF m 5 #[.val (.ref a1), .val (.ref a2), .val (.int (1 : Int32))] []))
  obtain ⟨T190, h190, X190, e190, E190, A190, D190, -, st190⟩ := newO X176 hx hZ176 ho176 (hw _ (List.mem_of_getElem? (i := 104) rfl)) (hw _ (List.mem_of_getElem? (i := 31) rfl)) (hw _ (List.mem_of_getElem? (i := 32) rfl)) rfl (g := (mkF m 5 #[.val (.ref a1), .val (.ref a2), .val (.int (1 : Int32))] [])) rfl (hb hby dwP_5) (by decide) (by decide)
  obtain ⟨b190, g190⟩ : ∃ z, z = T176.heap.size := ⟨_, rfl⟩
  rw [← g190] at A190 D190 st190
  refine own_goW st190 ?_
  have g191 := Nat.le_trans z188 (Nat.le_of_eq g190.symm)
  have s192 := Nat.le_trans k189.1 (Nat.le_of_eq g190.symm)
  have n193 := Nat.ne_of_lt (Nat.lt_of_lt_of_le f178.lt (Nat.le_of_eq g190.symm))
  have n194 := Nat.ne_of_lt (Nat.lt_of_lt_of_le f179.lt (Nat.le_of_eq g190.symm))
  have C195 := C177.trans (CHr.ext E190 C177.1)
  have hk196 := Nat.le_trans (Nat.le_refl _) E190.1
  have f197 := Exa.ext E190 f178
  have f198 := Fld.ext E190 f179
  have f199 := Fld.ext E190 f180
  have f200 := Fld.ext E190 f181
  have f201 := Fld.ext E190 f182
  have f202 := f187.ext E190
  have z203 := Nat.le_trans z188 E190.1
  have k204 := k189.ext E190
  have f205 : Fld Z h190 b190 "com/example/vouchsafe/vouchsafe/AuditTally" "audits" "J" (.long (0 : Int64)) := D190 (Or.inr (hw _ (List.mem_of_getElem? (i := 43) rfl))) (ty := .long) (by decide)
  have f206 : Fld Z h190 b190 "com/example/vouchsafe/vouchsafe/AuditTally" "passed" "J" (.long (0 : Int64)) := D190 (Or.inr (hw _ (List.mem_of_getElem? (i := 45) rfl))) (ty := .long) (by decide)
  have f207 : Fld Z h190 b190 "com/example/vouchsafe/vouchsafe/AuditTally" "lastPassed" "Z" (.int (0 : Int32)) := D190 (Or.inr (hw _ (List.mem_of_getElem? (i := 47) rfl))) (ty := .boolean) (by decide)
  have f208 : Fld Z h190 b190 "com/example/vouchsafe/vouchsafe/AuditTally" "newest" "Ljava/lang/String;" .null := D190 (Or.inr (hw _ (List.mem_of_getElem? (i := 49) rfl))) (ty := (.object "java/lang/String")) (by decide)
  show own_GW _ _ p.tables e below s _ _ _ (T190.setTop (mkF m 8 #[.val (.ref a1), .val (.ref a2), .val (.int (1 : Int32))] [(.ref b190)]))
  refine own_goW (fun t k => XS.dup X190.here hx rfl (hb hby dwP_8) rfl rfl k) ?_
  show own_GW _ _ p.tables e below s _ _ _ (T190.setTop (mkF m 9 #[.val (.ref a1), .val (.ref a2), .val (.int (1 : Int32))] [(.ref b190), (.ref b190)]))
  refine own_goW (fun t k => XS.aloadN X190.here hx rfl (hb hby dwP_9) rfl rfl k) ?_
  show own_GW _ _ p.tables e below s _ _ _ (T190.setTop (mkF m 10 #[.val (.ref a1), .val (.ref a2), .val (.int (1 : Int32))] [(.ref a1), (.ref b190), (.ref b190)]))
  obtain ⟨T209, X209, e209, st209⟩ := getF X190 hx hZ176 ho176 (host := "") (Or.inl (hw _ (List.mem_of_getElem? (i := 42) rfl))) Via.refl e190 f198 (g := (mkF m 10 #[.val (.ref a1), .val (.ref a2), .val (.int (1 : Int32))] [(.ref a1), (.ref b190), (.ref b190)])) rfl rfl (hb hby dwP_10)
  refine own_goW st209 ?_
  show own_GW _ _ p.tables e below s _ _ _ (T209.setTop (mkF m 13 #[.val (.ref a1), .val (.ref a2), .val (.int (1 : Int32))] [(.long q1), (.ref b190), (.ref b190)]))
  refine own_goW (fun t k => XS.lconst X209.here hx rfl (hb hby dwP_13) k) ?_
  show own_GW _ _ p.tables e below s _ _ _ (T209.setTop (mkF m 14 #[.val (.ref a1), .val (.ref a2), .val (.int (1 : Int32))] [(.long (1 : Int64)), (.long q1), (.ref b190), (.ref b190)]))
  refine own_goW (fun t k => XS.ladd X209.here hx rfl (hb hby dwP_14) rfl k) ?_
  show own_GW _ _ p.tables e below s _ _ _ (T209.setTop (mkF m 15 #[.val (.ref a1), .val (.ref a2), .val (.int (1 : Int32))] [(.long (q1 + (1 : Int64))), (.ref b190), (.ref b190)]))
  refine own_goW (fun t k => XS.aloadN X209.here hx rfl (hb hby dwP_15) rfl rfl k) ?_
  show own_GW _ _ p.tables e below s _ _ _ (T209.setTop (mkF m 16 #[.val (.ref a1), .val (.ref a2), .val (.int (1 : Int32))] [(.ref a1), (.long (q1 + (1 : Int64))), (.ref b190), (.ref b190)]))
  obtain ⟨T210, X210, e210, st210⟩ := getF X209 hx hZ176 ho176 (host := "") (Or.inl (hw _ (List.mem_of_getElem? (i := 44) rfl))) Via.refl e209 f199 (g := (mkF m 16 #[.val (.ref a1), .val (.ref a2), .val (.int (1 : Int32))] [(.ref a1), (.long (q1 + (1 : Int64))), (.ref b190), (.ref b190)])) rfl rfl (hb hby dwP_16)
  refine own_goW st210 ?_
  show own_GW _ _ p.tables e below s _ _ _ (T210.setTop (mkF m 19 #[.val (.ref a1), .val (.ref a2), .val (.int (1 : Int32))] [(.long q2), (.long (q1 + (1 : Int64))), (.ref b190), (.ref b190)]))
  refine own_goW (fun t k => XS.iloadN X210.here hx rfl (hb hby dwP_19) rfl k) ?_
  show own_GW _ _ p.tables e below s _ _ _ (T210.setTop (mkF m 20 #[.val (.ref a1), .val (.ref a2), .val (.int (1 : Int32))] [(.int (1 : Int32)), (.long q2), (.long (q1 + (1 : Int64))), (.ref b190), (.ref b190)]))
  refine own_goW (fun t k => XS.ifNo X210.here hx rfl (hb hby dwP_20) rfl (by decide) k) ?_
  show own_GW _ _ p.tables e below s _ _ _ (T210.setTop (mkF m 23 #[.val (.ref a1), .val (.ref a2), .val (.int (1 : Int32))] [(.long q2), (.long (q1 + (1 : Int64))), (.ref b190), (.ref b190)]))
  refine own_goW (fun t k => XS.iconst X210.here hx rfl (hb hby dwP_23) k) ?_
  show own_GW _ _ p.tables e below s _ _ _ (T210.setTop (mkF m 24 #[.val (.ref a1), .val (.ref a2), .val (.int (1 : Int32))] [(.int (1 : Int32)), (.long q2), (.long (q1 + (1 : Int64))), (.ref b190), (.ref b190)]))
  refine own_goW (fun t k => XS.goto X210.here hx rfl (pc0 := 24) (pc' := 28) rfl (hb hby dwP_24) (by decide) (by decide) k) ?_
  show own_GW _ _ p.tables e below s _ _ _ (T210.setTop (mkF m 28 #[.val (.ref a1), .val (.ref a2), .val (.int (1 : Int32))] [(.int (1 : Int32)), (.long q2), (.long (q1 + (1 : Int64))), (.ref b190), (.ref b190)]))
  refine own_goW (fun t k => XS.i2l X210.here hx rfl (hb hby dwP_28) rfl k) ?_
  show own_GW _ _ p.tables e below s _ _ _ (T210.setTop (mkF m 29 #[.val (.ref a1), .val (.ref a2), .val (.int (1 : Int32))] [(.long ((1 : Int32).toInt64)), (.long q2), (.long (q1 + (1 : Int64))), (.ref b190), (.ref b190)]))
  refine own_goW (fun t k => XS.ladd X210.here hx rfl (hb hby dwP_29) rfl k) ?_
  show own_GW _ _ p.tables e below s _ _ _ (T210.setTop (mkF m 30 #[.val (.ref a1), .val (.ref a2), .val (.int (1 : Int32))] [(.long (q2 + ((1 : Int32).toInt64))), (.long (q1 + (1 : Int64))), (.ref b190), (.ref b190)]))
  refine own_goW (fun t k => XS.iloadN X210.here hx rfl (hb hby dwP_30) rfl k) ?_
  show own_GW _ _ p.tables e below s _ _ _ (T210.setTop (mkF m 31 #[.val (.ref a1), .val (.ref a2), .val (.int (1 : Int32))] [(.int (1 : Int32)), (.long (q2 + ((1 : Int32).toInt64))), (.long (q1 + (1 : Int64))), (.ref b190), (.ref b190)]))
  refine own_goW (fun t k => XS.aloadN X210.here hx rfl (hb hby dwP_31) rfl rfl k) ?_
  show own_GW _ _ p.tables e below s _ _ _ (T210.setTop (mkF m 32 #[.val (.ref a1), .val (.ref a2), .val (.int (1 : Int32))] [(.ref a2), (.int (1 : Int32)), (.long (q2 + ((1 : Int32).toInt64))), (.long (q1 + (1 : Int64))), (.ref b190), (.ref b190)]))
  obtain ⟨cq211, kq211, q211a, q211b, q211c⟩ := isOf hZ176 e210 f197
  obtain ⟨_, _, ⟨T211, L211, k211, n211⟩, -, X211, ⟨Lc211, hQ211, l211, y211, z211⟩, st211⟩ := X210.virtualBack hx (y := (⟨"com/example/vouchsafe/vouchsafe/LogEntry", "eid", "()Ljava/lang/String;"⟩ : MethodName)) (z := (⟨"com/example/vouchsafe/vouchsafe/LogEntry", "eid", "()Ljava/lang/String;"⟩ : MethodName)) ho176 (mvT hZ176 (hw _ (List.mem_of_getElem? (i := 105) rfl))) (mvT hZ176 (hw _ (List.mem_of_getElem? (i := 106) rfl))) (notFace_of_selects (args := #[]) (mvT hZ176 (hw _ (List.mem_of_getElem? (i := 108) rfl)))) (mvT hZ176 (hw _ (List.mem_of_getElem? (i := 108) rfl))) (mvT hZ176 (hw _ (List.mem_of_getElem? (i := 107) rfl))) (by decide) (backOf (W := 7) (rmd l Z a0 hw [] a2 x0 h190 n0 z203 f200) hZ176 (hw _ (List.mem_of_getElem? (i := 109) rfl)) (hw _ (List.mem_of_getElem? (i := 67) rfl)) (by decide) (by decide)) q211a q211c (g := (mkF m 32 #[.val (.ref a1), .val (.ref a2), .val (.int (1 : Int32))] [(.ref a2), (.int (1 : Int32)), (.long (q2 + ((1 : Int32).toInt64))), (.long (q1 + (1 : Int64))), (.ref b190), (.ref b190)])) rfl (by rw [hml]; rfl) (Steps.refl _) (argsL := []) (rest := [(.int (1 : Int32)), (.long (q2 + ((1 : Int32).toInt64))), (.long (q1 + (1 : Int64))), (.ref b190), (.ref b190)]) (lenOf pd___Ljava_lang_String_ rfl) rfl (by show 2 * 0 + _ ≤ _; exact Nat.le_of_eq rfl) (hb hby dwP_32) (fun _ _ => ⟨rfl, e210, (by decide : 3 + 0 ≤ _), (by decide : 24 + 0 ≤ _)⟩)
  dsimp only [Pt.U, Pt.locs, Pt.cells, Pt.slots] at X211 l211 y211 z211 st211 hQ211
  subst l211 y211 z211
  obtain ⟨rfl, N211q, hh211⟩ := hQ211
  have N211 := Fr.app N176 N211q
  refine own_goW (fun t k => st211.trans k) ?_
  show own_GW _ _ p.tables e below s _ _ _ (T211.setTop (mkF m 35 #[.val (.ref a1), .val (.ref a2), .val (.int (1 : Int32))] [(.ref x0), (.int (1 : Int32)), (.long (q2 + ((1 : Int32).toInt64))), (.long (q1 + (1 : Int64))), (.ref b190), (.ref b190)]))
  obtain ⟨_, _, ⟨T212, L212, k212, n212⟩, -, X212, ⟨Lc212, hQ212, l212, y212, z212⟩, st212⟩ := X211.specialBack hx (y := (⟨"com/example/vouchsafe/vouchsafe/AuditTally", "<init>", "(JJZLjava/lang/String;)V"⟩ : MethodName)) rfl ho176 (mvT hZ176 (hw _ (List.mem_of_getElem? (i := 110) rfl))) (mvT hZ176 (hw _ (List.mem_of_getElem? (i := 34) rfl))) (mvT hZ176 (hw _ (List.mem_of_getElem? (i := 35) rfl))) (by decide) (backOf (W := 1) (rma1 l Z a0 hw [] b190 x0 (q1 + (1 : Int64)) (q2 + ((1 : Int32).toInt64)) h190 n0 z203 A190 f205 f206 f207 f208 g191) hZ176 (hw _ (List.mem_of_getElem? (i := 35) rfl)) (hw _ (List.mem_of_getElem? (i := 32) rfl)) (by decide) (by decide)) (g := (mkF m 35 #[.val (.ref a1), .val (.ref a2), .val (.int (1 : Int32))] [(.ref x0), (.int (1 : Int32)), (.long (q2 + ((1 : Int32).toInt64))), (.long (q1 + (1 : Int64))), (.ref b190), (.ref b190)])) rfl (by rw [hml]; rfl) (Steps.refl _) (a := b190) (argsL := [(.long (q1 + (1 : Int64))), (.long (q2 + ((1 : Int32).toInt64))), (.int (1 : Int32)), (.ref x0)]) (rest := [(.ref b190)]) (lenOf pd__JJZLjava_lang_String__V rfl) rfl (by show 2 * 0 + _ ≤ _; exact Nat.le_of_eq rfl) (hb hby dwP_35) (fun _ _ => ⟨rfl, hh211, (by decide : 3 + 0 ≤ _), (by decide : 24 + 0 ≤ _)⟩)
  dsimp only [Pt.U, Pt.locs, Pt.cells, Pt.slots] at X212 l212 y212 z212 st212 hQ212
  subst l212 y212 z212
  obtain ⟨rfl, N212q, K212, Fa212, Fp212, Fl212⟩ := hQ212
  have N212 := Fr.app N211 N212q
  refine own_goW (fun t k => st212.trans k) ?_
  have C213 := C195.trans (CHr.keep K212 (fun x => (fun q => (List.mem_cons.mp q).elim (fun e => e ▸ (Safe.exa hZ176.alike A190 (by decide) (by decide))) (fun q => nomatch q))) C195.1)
  have hk214 := Nat.le_trans hk196 K212.1
  have f215 := f197.keep K212
  have f216 := f198.keep K212 (fun q => (List.mem_cons.mp q).elim n194 (fun q => nomatch q))
  have f217 := f199.keep K212 (fun q => (List.mem_cons.mp q).elim n194 (fun q => nomatch q))
  have f218 := f200.keep K212 (fun q => (List.mem_cons.mp q).elim n193 (fun q => nomatch q))
  have f219 := f201.keep K212 (fun q => (List.mem_cons.mp q).elim n193 (fun q => nomatch q))
  have f220 := f202.keep K212 (fun x => (fun q => (List.mem_cons.mp q).elim (fun e => e ▸ g191) (fun q => nomatch q)))
  have f221 := A190.keep K212
  have z222 := Nat.le_trans z203 K212.1
  have k223 := k204.trans K212 (fun x => (fun q => (List.mem_cons.mp q).elim (fun e => e ▸ Or.inr s192) (fun q => nomatch q)))
  show own_GW _ _ p.tables e below s _ _ _ (T212.setTop (mkF m 38 #[.val (.ref a1), .val (.ref a2), .val (.int (1 : Int32))] [(.ref b190)]))
  exact own_retAW X212 hx hlk hS176 hk214 hZ176 (own_hEL hw) C213 Bd.returns rfl rfl (hb hby dwP_38) (⟨⟨_, rfl, f221, Fa212, Fl212⟩, N212, k223⟩) (by decide) (by decide)
theorem dwF_0 : decode prog_12_method_3_code 0 = .ok (.aload_n 1, 1) := by decide +kernel
theorem dwF_1 : decode prog_12_method_3_code 1 = .ok (.invokevirtual 24, 3) := by decide +kernel
theorem dwF_4 : decode prog_12_method_3_code 4 = .ok (.istore_n 2, 1) := by decide +kernel
theorem dwF_5 : decode prog_12_method_3_code 5 = .ok (.new 8, 3) := by decide +kernel
theorem dwF_8 : decode prog_12_method_3_code 8 = .ok (.dup, 1) := by decide +kernel
theorem dwF_9 : decode prog_12_method_3_code 9 = .ok (.aload_n 0, 1) := by decide +kernel
theorem dwF_10 : decode prog_12_method_3_code 10 = .ok (.getfield 7, 3) := by decide +kernel
theorem dwF_13 : decode prog_12_method_3_code 13 = .ok (.lconst 1, 1) := by decide +kernel
theorem dwF_14 : decode prog_12_method_3_code 14 = .ok (.ladd, 1) := by decide +kernel
theorem dwF_15 : decode prog_12_method_3_code 15 = .ok (.aload_n 0, 1) := by decide +kernel
theorem dwF_16 : decode prog_12_method_3_code 16 = .ok (.getfield 13, 3) := by decide +kernel
theorem dwF_19 : decode prog_12_method_3_code 19 = .ok (.iload_n 2, 1) := by decide +kernel
theorem dwF_20 : decode prog_12_method_3_code 20 = .ok (.ifCond .eq 7, 3) := by decide +kernel
theorem dwF_27 : decode prog_12_method_3_code 27 = .ok (.iconst 0, 1) := by decide +kernel
theorem dwF_28 : decode prog_12_method_3_code 28 = .ok (.i2l, 1) := by decide +kernel
theorem dwF_29 : decode prog_12_method_3_code 29 = .ok (.ladd, 1) := by decide +kernel
theorem dwF_30 : decode prog_12_method_3_code 30 = .ok (.iload_n 2, 1) := by decide +kernel
theorem dwF_31 : decode prog_12_method_3_code 31 = .ok (.aload_n 1, 1) := by decide +kernel
theorem dwF_32 : decode prog_12_method_3_code 32 = .ok (.invokevirtual 29, 3) := by decide +kernel
theorem dwF_35 : decode prog_12_method_3_code 35 = .ok (.invokespecial 33, 3) := by decide +kernel
theorem dwF_38 : decode prog_12_method_3_code 38 = .ok (.areturn, 1) := by decide +kernel
theorem ef_wF (m : MethodId) (x0 : Addr) (x1 : Addr) : entryFrame m #[(.ref x0), (.ref x1)] 3 = mkF m 0 #[.val (.ref x0), .val (.ref x1), .unset] [] := by first | (simp [entryFrame, mkF, argsToLocals, Value.category]; done) | rfl
def QwF (Z : State) (a1 a2 x0 x3 t3 : Addr) (k1 : ClassId) (w0 : Int32) (q1 q2 : Int64) (h0 : Heap) (n0 : Nat) (v : Option Value) (h : Heap) (L : List Loc) : Prop := (∃ b : Addr, v = some (.ref b) ∧ Exa Z h b "com/example/vouchsafe/vouchsafe/AuditTally" ∧ Fld Z h b "com/example/vouchsafe/vouchsafe/AuditTally" "audits" "J" (.long (q1 + (1 : Int64))) ∧ Fld Z h b "com/example/vouchsafe/vouchsafe/AuditTally" "lastPassed" "Z" (.int (0 : Int32))) ∧ Fr n0 L ∧ Keep h0 h []
set_option maxRecDepth 65536 in
set_option maxHeartbeats 40000000 in
theorem rmwF (l : Launch) (Z : State) (a0 : Array Value) (hw : ∀ d ∈ tables_1, d.before a0 Z = true) (ws : List Jvm.Cond) (a1 a2 x0 x3 t3 : Addr) (k1 : ClassId) (w0 : Int32) (q1 q2 : Int64) (h0 : Heap) (n0 : Nat) (Z0 : n0 ≤ h0.size) (E2 : Exa Z h0 a2 "com/example/vouchsafe/vouchsafe/LogEntry") (F1 : Fld Z h0 a1 "com/example/vouchsafe/vouchsafe/AuditTally" "audits" "J" (.long q1)) (F2 : Fld Z h0 a1 "com/example/vouchsafe/vouchsafe/AuditTally" "passed" "J" (.long q2)) (Fe : Fld Z h0 a2 "com/example/vouchsafe/vouchsafe/LogEntry" "eid" "Ljava/lang/String;" (.ref x0)) (Fr3 : Fld Z h0 a2 "com/example/vouchsafe/vouchsafe/LogEntry" "result" "Ljava/lang/String;" (.ref x3)) (rE : Exa Z h0 x3 "java/lang/String") (rC : Fld Z h0 x3 "java/lang/String" "coder" "B" (.int 0)) (rV : Fld Z h0 x3 "java/lang/String" "value" "[B" (.ref t3)) (rA : Arv Z h0 t3 k1 .byte (4 : Int32) [(.int (102 : Int32)), (.int (97 : Int32)), (.int (105 : Int32)), (.int (108 : Int32))] (.int 0)) (O0 : Old Z n0 h0) (S0 : Sta Z Z.heap "java/lang/String" "COMPACT_STRINGS" "Z" (.int w0)) (hcw : ¬ w0 = 0) :
    MetFree l (⟨"com/example/vouchsafe/vouchsafe/AuditTally", "with", "(Lcom/example/vouchsafe/vouchsafe/LogEntry;)Lcom/example/vouchsafe/vouchsafe/AuditTally;"⟩ : MethodName) (head1 (Jvm.Cond.code (⟨"com/example/vouchsafe/vouchsafe/AuditTally", "with", "(Lcom/example/vouchsafe/vouchsafe/LogEntry;)Lcom/example/vouchsafe/vouchsafe/AuditTally;"⟩ : MethodName) prog_12_method_3_code 3 (some (.object "com/example/vouchsafe/vouchsafe/AuditTally")) :: ws) ({ frames := 3, cells := 3, slots := 24, locals := 43 } : Room)) (fun a U => a = #[(.ref a1), (.ref a2)] ∧ Z.Warmed39 U.vm ∧ U.heap = h0 ∧ CHv Z own_EL U.vm h0) (fun _ _ _ _ _ => True) (fun _ U o U' => ∃ v L, o = .returned v ∧ QwF Z a1 a2 x0 x3 t3 k1 w0 q1 q2 h0 n0 v U'.heap L ∧ CHr Z own_EL U.vm U.heap U'.vm U'.heap ∧ ReturnedEndW U o U' L ({ frames := 3, cells := 3, slots := 24, locals := 43 } : Room).cells ({ frames := 3, cells := 3, slots := 24, locals := 43 } : Room).slots) := by
  refine MetFree.of_bodySF (plainFor_of_name pn_com_example_vouchsafe_vouchsafe_AuditTally) hisR ?_
  intro p e s m args below meth c s₁ Bd hml0 hP hK
  obtain ⟨rfl, hZ, hh, hCH⟩ := hP
  have hx := Bd.exec
  have hby := Bd.bytes
  have hlk : meth.locks = false := BodyLoose.notSynchronized Bd
  have hml : c.maxLocals = 3 := hml0
  have hown : s.vm.findClass "com/example/vouchsafe/vouchsafe/AuditTally" = some m.cls := findClass_of_methodNamed Bd.named
  have hnm := (name_of_methodNamed Bd.named Bd.method).1
  have X0 : Stand p l e ({ frames := 3, cells := 3, slots := 24, locals := 43 } : Room) (s.setVm s.vm) m #[(.ref a1), (.ref a2)] below meth c s₁ [] 0 0 := Stand.of_body Bd
  have e0 : s₁.heap = h0 := by rw [← hh, Bd.state]; rfl
  have N0 := Fr.nil n0
  have hS0 : s.Since s.vm 0 := (State.WarmedH.refl s).since 0
  have hk0 : 0 ≤ h0.size := Nat.zero_le _
  have C0 : CHr Z own_EL s.vm s.heap s.vm h0 := by rw [hh]; exact CHr.refl hCH
  show own_GW Z own_EL p.tables e below s (QwF Z a1 a2 x0 x3 t3 k1 w0 q1 q2 h0 n0) ({ frames := 3, cells := 3, slots := 24, locals := 43 } : Room).cells ({ frames := 3, cells := 3, slots := 24, locals := 43 } : Room).slots (s₁.setTop (entryFrame m #[(.ref a1), (.ref a2)] 3))
  refine own_goW (fun t k => castTop (ef_wF m a1 a2) k) ?_
  show own_GW _ _ p.tables e below s _ _ _ (s₁.setTop (mkF m 0 #[.val (.ref a1), .val (.ref a2), .unset] []))
  refine own_goW (fun t k => XS.aloadN X0.here hx rfl (hb hby dwF_0) rfl rfl k) ?_
  show own_GW _ _ p.tables e below s _ _ _ (s₁.setTop (mkF m 1 #[.val (.ref a1), .val (.ref a2), .unset] [(.ref a2)]))
  obtain ⟨cq224, kq224, q224a, q224b, q224c⟩ := isOf hZ e0 E2
  obtain ⟨_, _, ⟨T224, L224, k224, n224⟩, -, X224', sn224, gr224, ⟨Lc224, hQ224, l224, y224, z224, C224'⟩, st224⟩ := X0.virtualBackS hx (y := (⟨"com/example/vouchsafe/vouchsafe/LogEntry", "passed", "()Z"⟩ : MethodName)) (z := (⟨"com/example/vouchsafe/vouchsafe/LogEntry", "passed", "()Z"⟩ : MethodName)) hown (mvT hZ (hw _ (List.mem_of_getElem? (i := 92) rfl))) (mvT hZ (hw _ (List.mem_of_getElem? (i := 93) rfl))) (notFace_of_selects (args := #[]) (mvT hZ (hw _ (List.mem_of_getElem? (i := 95) rfl)))) (mvT hZ (hw _ (List.mem_of_getElem? (i := 95) rfl))) (mvT hZ (hw _ (List.mem_of_getElem? (i := 94) rfl))) (by decide) (backOfSH (W := 0) (rmpF l Z a0 hw [] a2 x3 t3 k1 w0 h0 n0 Z0 Fr3 rE rC rV rA O0 S0 hcw) hZ (hw _ (List.mem_of_getElem? (i := 96) rfl)) (hw _ (List.mem_of_getElem? (i := 67) rfl)) (by decide) (by decide) (own_hEL hw) C0.1) q224a q224c (g := (mkF m 1 #[.val (.ref a1), .val (.ref a2), .unset] [(.ref a2)])) rfl (by rw [hml]; rfl) (Steps.refl _) (argsL := []) (rest := []) (lenOf pd___Z rfl) rfl (by show 2 * 0 + _ ≤ _; exact Nat.le_of_eq rfl) (hb hby dwF_1) (fun _ _ => ⟨rfl, e0, (by decide : 0 + 2 ≤ _), (by decide : 0 + 20 ≤ _)⟩)
  dsimp only [Pt.U, Pt.locs, Pt.cells, Pt.slots] at X224' sn224 gr224 l224 y224 z224 st224 hQ224 C224'
  subst l224 y224 z224
  obtain ⟨X224, hS224, hZ224, ho224⟩ := rebS hS0 (by rw [e0]; exact hk0) X224' sn224 gr224 hZ hown
  obtain ⟨rfl, N224q, K224⟩ := hQ224
  have N224 := Fr.app N0 N224q
  have C225 := C0.trans C224'
  refine own_goW (fun t k => st224.trans k) ?_
  have f226 := E2.keep K224
  have f227 := F1.keep K224 (fun q => nomatch q)
  have f228 := F2.keep K224 (fun q => nomatch q)
  have f229 := Fe.keep K224 (fun q => nomatch q)
  have f230 := Fr3.keep K224 (fun q => nomatch q)
  have f231 := rE.keep K224
  have f232 := rC.keep K224 (fun q => nomatch q)
  have f233 := rV.keep K224 (fun q => nomatch q)
  have f234 := rA.keep K224 (fun q => nomatch q)
  have f235 := O0.keep K224 (fun x q => nomatch q)
  have z236 := Nat.le_trans Z0 K224.1
  have k237 := (Keep.refl h0 []).trans K224 (fun x q => nomatch q)
  show own_GW _ _ p.tables e below s _ _ _ (T224.setTop (mkF m 4 #[.val (.ref a1), .val (.ref a2), .unset] [(.int (0 : Int32))]))
  refine own_goW (fun t k => XS.istoreN X224.here hx rfl (hb hby dwF_4) rfl (l' := #[.val (.ref a1), .val (.ref a2), .val (.int (0 : Int32))]) rfl k) ?_
  show own_GW _ _ p.tables e below s _ _ _ (T224.setTop (mkF m 5 #[.val (.ref a1), .val (.ref a2), .val (.int (0 : Int32))] []))
  obtain ⟨T238, h238, X238, e238, E238, A238, D238, -, st238⟩ := newO X224 hx hZ224 ho224 (hw _ (List.mem_of_getElem? (i := 104) rfl)) (hw _ (List.mem_of_getElem? (i := 31) rfl)) (hw _ (List.mem_of_getElem? (i := 32) rfl)) rfl (g := (mkF m 5 #[.val (.ref a1), .val (.ref a2), .val (.int (0 : Int32))] [])) rfl (hb hby dwF_5) (by decide) (by decide)
  obtain ⟨b238, g238⟩ : ∃ z, z = T224.heap.size := ⟨_, rfl⟩
  rw [← g238] at A238 D238 st238
  refine own_goW st238 ?_
  have g239 := Nat.le_trans z236 (Nat.le_of_eq g238.symm)
  have s240 := Nat.le_trans k237.1 (Nat.le_of_eq g238.symm)
  have n241 := Nat.ne_of_lt (Nat.lt_of_lt_of_le f226.lt (Nat.le_of_eq g238.symm))
  have n242 := Nat.ne_of_lt (Nat.lt_of_lt_of_le f227.lt (Nat.le_of_eq g238.symm))
  have C243 := C225.trans (CHr.ext E238 C225.1)
  have hk244 := Nat.le_trans (Nat.le_refl _) E238.1
  have f245 := Exa.ext E238 f226
  have f246 := Fld.ext E238 f227
  have f247 := Fld.ext E238 f228
  have f248 := Fld.ext E238 f229
  have f249 := Fld.ext E238 f230
  have f250 := f235.ext E238
  have z251 := Nat.le_trans z236 E238.1
  have k252 := k237.ext E238
  have f253 : Fld Z h238 b238 "com/example/vouchsafe/vouchsafe/AuditTally" "audits" "J" (.long (0 : Int64)) := D238 (Or.inr (hw _ (List.mem_of_getElem? (i := 43) rfl))) (ty := .long) (by decide)
  have f254 : Fld Z h238 b238 "com/example/vouchsafe/vouchsafe/AuditTally" "passed" "J" (.long (0 : Int64)) := D238 (Or.inr (hw _ (List.mem_of_getElem? (i := 45) rfl))) (ty := .long) (by decide)
  have f255 : Fld Z h238 b238 "com/example/vouchsafe/vouchsafe/AuditTally" "lastPassed" "Z" (.int (0 : Int32)) := D238 (Or.inr (hw _ (List.mem_of_getElem? (i := 47) rfl))) (ty := .boolean) (by decide)
  have f256 : Fld Z h238 b238 "com/example/vouchsafe/vouchsafe/AuditTally" "newest" "Ljava/lang/String;" .null := D238 (Or.inr (hw _ (List.mem_of_getElem? (i := 49) rfl))) (ty := (.object "java/lang/String")) (by decide)
  show own_GW _ _ p.tables e below s _ _ _ (T238.setTop (mkF m 8 #[.val (.ref a1), .val (.ref a2), .val (.int (0 : Int32))] [(.ref b238)]))
  refine own_goW (fun t k => XS.dup X238.here hx rfl (hb hby dwF_8) rfl rfl k) ?_
  show own_GW _ _ p.tables e below s _ _ _ (T238.setTop (mkF m 9 #[.val (.ref a1), .val (.ref a2), .val (.int (0 : Int32))] [(.ref b238), (.ref b238)]))
  refine own_goW (fun t k => XS.aloadN X238.here hx rfl (hb hby dwF_9) rfl rfl k) ?_
  show own_GW _ _ p.tables e below s _ _ _ (T238.setTop (mkF m 10 #[.val (.ref a1), .val (.ref a2), .val (.int (0 : Int32))] [(.ref a1), (.ref b238), (.ref b238)]))
  obtain ⟨T257, X257, e257, st257⟩ := getF X238 hx hZ224 ho224 (host := "") (Or.inl (hw _ (List.mem_of_getElem? (i := 42) rfl))) Via.refl e238 f246 (g := (mkF m 10 #[.val (.ref a1), .val (.ref a2), .val (.int (0 : Int32))] [(.ref a1), (.ref b238), (.ref b238)])) rfl rfl (hb hby dwF_10)
  refine own_goW st257 ?_
  show own_GW _ _ p.tables e below s _ _ _ (T257.setTop (mkF m 13 #[.val (.ref a1), .val (.ref a2), .val (.int (0 : Int32))] [(.long q1), (.ref b238), (.ref b238)]))
  refine own_goW (fun t k => XS.lconst X257.here hx rfl (hb hby dwF_13) k) ?_
  show own_GW _ _ p.tables e below s _ _ _ (T257.setTop (mkF m 14 #[.val (.ref a1), .val (.ref a2), .val (.int (0 : Int32))] [(.long (1 : Int64)), (.long q1), (.ref b238), (.ref b238)]))
  refine own_goW (fun t k => XS.ladd X257.here hx rfl (hb hby dwF_14) rfl k) ?_
  show own_GW _ _ p.tables e below s _ _ _ (T257.setTop (mkF m 15 #[.val (.ref a1), .val (.ref a2), .val (.int (0 : Int32))] [(.long (q1 + (1 : Int64))), (.ref b238), (.ref b238)]))
  refine own_goW (fun t k => XS.aloadN X257.here hx rfl (hb hby dwF_15) rfl rfl k) ?_
  show own_GW _ _ p.tables e below s _ _ _ (T257.setTop (mkF m 16 #[.val (.ref a1), .val (.ref a2), .val (.int (0 : Int32))] [(.ref a1), (.long (q1 + (1 : Int64))), (.ref b238), (.ref b238)]))
  obtain ⟨T258, X258, e258, st258⟩ := getF X257 hx hZ224 ho224 (host := "") (Or.inl (hw _ (List.mem_of_getElem? (i := 44) rfl))) Via.refl e257 f247 (g := (mkF m 16 #[.val (.ref a1), .val (.ref a2), .val (.int (0 : Int32))] [(.ref a1), (.long (q1 + (1 : Int64))), (.ref b238), (.ref b238)])) rfl rfl (hb hby dwF_16)
  refine own_goW st258 ?_
  show own_GW _ _ p.tables e below s _ _ _ (T258.setTop (mkF m 19 #[.val (.ref a1), .val (.ref a2), .val (.int (0 : Int32))] [(.long q2), (.long (q1 + (1 : Int64))), (.ref b238), (.ref b238)]))
  refine own_goW (fun t k => XS.iloadN X258.here hx rfl (hb hby dwF_19) rfl k) ?_
  show own_GW _ _ p.tables e below s _ _ _ (T258.setTop (mkF m 20 #[.val (.ref a1), .val (.ref a2), .val (.int (0 : Int32))] [(.int (0 : Int32)), (.long q2), (.long (q1 + (1 : Int64))), (.ref b238), (.ref b238)]))
  refine own_goW (fun t k => XS.ifYes X258.here hx rfl (pc0 := 20) (pc' := 27) rfl (hb hby dwF_20) rfl (by decide) (by decide) (by decide) k) ?_
  show own_GW _ _ p.tables e below s _ _ _ (T258.setTop (mkF m 27 #[.val (.ref a1), .val (.ref a2), .val (.int (0 : Int32))] [(.long q2), (.long (q1 + (1 : Int64))), (.ref b238), (.ref b238)]))
  refine own_goW (fun t k => XS.iconst X258.here hx rfl (hb hby dwF_27) k) ?_
  show own_GW _ _ p.tables e below s _ _ _ (T258.setTop (mkF m 28 #[.val (.ref a1), .val (.ref a2), .val (.int (0 : Int32))] [(.int (0 : Int32)), (.long q2), (.long (q1 + (1 : Int64))), (.ref b238), (.ref b238)]))
  refine own_goW (fun t k => XS.i2l X258.here hx rfl (hb hby dwF_28) rfl k) ?_
  show own_GW _ _ p.tables e below s _ _ _ (T258.setTop (mkF m 29 #[.val (.ref a1), .val (.ref a2), .val (.int (0 : Int32))] [(.long ((0 : Int32).toInt64)), (.long q2), (.long (q1 + (1 : Int64))), (.ref b238), (.ref b238)]))
  refine own_goW (fun t k => XS.ladd X258.here hx rfl (hb hby dwF_29) rfl k) ?_
  show own_GW _ _ p.tables e below s _ _ _ (T258.setTop (mkF m 30 #[.val (.ref a1), .val (.ref a2), .val (.int (0 : Int32))] [(.long (q2 + ((0 : Int32).toInt64))), (.long (q1 + (1 : Int64))), (.ref b238), (.ref b238)]))
  refine own_goW (fun t k => XS.iloadN X258.here hx rfl (hb hby dwF_30) rfl k) ?_
  show own_GW _ _ p.tables e below s _ _ _ (T258.setTop (mkF m 31 #[.val (.ref a1), .val (.ref a2), .val (.int (0 : Int32))] [(.int (0 : Int32)), (.long (q2 + ((0 : Int32).toInt64))), (.long (q1 + (1 : Int64))), (.ref b238), (.ref b238)]))
  refine own_goW (fun t k => XS.aloadN X258.here hx rfl (hb hby dwF_31) rfl rfl k) ?_
  show own_GW _ _ p.tables e below s _ _ _ (T258.setTop (mkF m 32 #[.val (.ref a1), .val (.ref a2), .val (.int (0 : Int32))] [(.ref a2), (.int (0 : Int32)), (.long (q2 + ((0 : Int32).toInt64))), (.long (q1 + (1 : Int64))), (.ref b238), (.ref b238)]))
  obtain ⟨cq259, kq259, q259a, q259b, q259c⟩ := isOf hZ224 e258 f245
  obtain ⟨_, _, ⟨T259, L259, k259, n259⟩, -, X259, ⟨Lc259, hQ259, l259, y259, z259⟩, st259⟩ := X258.virtualBack hx (y := (⟨"com/example/vouchsafe/vouchsafe/LogEntry", "eid", "()Ljava/lang/String;"⟩ : MethodName)) (z := (⟨"com/example/vouchsafe/vouchsafe/LogEntry", "eid", "()Ljava/lang/String;"⟩ : MethodName)) ho224 (mvT hZ224 (hw _ (List.mem_of_getElem? (i := 105) rfl))) (mvT hZ224 (hw _ (List.mem_of_getElem? (i := 106) rfl))) (notFace_of_selects (args := #[]) (mvT hZ224 (hw _ (List.mem_of_getElem? (i := 108) rfl)))) (mvT hZ224 (hw _ (List.mem_of_getElem? (i := 108) rfl))) (mvT hZ224 (hw _ (List.mem_of_getElem? (i := 107) rfl))) (by decide) (backOf (W := 7) (rmd l Z a0 hw [] a2 x0 h238 n0 z251 f248) hZ224 (hw _ (List.mem_of_getElem? (i := 109) rfl)) (hw _ (List.mem_of_getElem? (i := 67) rfl)) (by decide) (by decide)) q259a q259c (g := (mkF m 32 #[.val (.ref a1), .val (.ref a2), .val (.int (0 : Int32))] [(.ref a2), (.int (0 : Int32)), (.long (q2 + ((0 : Int32).toInt64))), (.long (q1 + (1 : Int64))), (.ref b238), (.ref b238)])) rfl (by rw [hml]; rfl) (Steps.refl _) (argsL := []) (rest := [(.int (0 : Int32)), (.long (q2 + ((0 : Int32).toInt64))), (.long (q1 + (1 : Int64))), (.ref b238), (.ref b238)]) (lenOf pd___Ljava_lang_String_ rfl) rfl (by show 2 * 0 + _ ≤ _; exact Nat.le_of_eq rfl) (hb hby dwF_32) (fun _ _ => ⟨rfl, e258, (by decide : 3 + 0 ≤ _), (by decide : 24 + 0 ≤ _)⟩)
  dsimp only [Pt.U, Pt.locs, Pt.cells, Pt.slots] at X259 l259 y259 z259 st259 hQ259
  subst l259 y259 z259
  obtain ⟨rfl, N259q, hh259⟩ := hQ259
  have N259 := Fr.app N224 N259q
  refine own_goW (fun t k => st259.trans k) ?_
  show own_GW _ _ p.tables e below s _ _ _ (T259.setTop (mkF m 35 #[.val (.ref a1), .val (.ref a2), .val (.int (0 : Int32))] [(.ref x0), (.int (0 : Int32)), (.long (q2 + ((0 : Int32).toInt64))), (.long (q1 + (1 : Int64))), (.ref b238), (.ref b238)]))
  obtain ⟨_, _, ⟨T260, L260, k260, n260⟩, -, X260, ⟨Lc260, hQ260, l260, y260, z260⟩, st260⟩ := X259.specialBack hx (y := (⟨"com/example/vouchsafe/vouchsafe/AuditTally", "<init>", "(JJZLjava/lang/String;)V"⟩ : MethodName)) rfl ho224 (mvT hZ224 (hw _ (List.mem_of_getElem? (i := 110) rfl))) (mvT hZ224 (hw _ (List.mem_of_getElem? (i := 34) rfl))) (mvT hZ224 (hw _ (List.mem_of_getElem? (i := 35) rfl))) (by decide) (backOf (W := 1) (rma0 l Z a0 hw [] b238 x0 (q1 + (1 : Int64)) (q2 + ((0 : Int32).toInt64)) h238 n0 z251 A238 f253 f254 f255 f256 g239) hZ224 (hw _ (List.mem_of_getElem? (i := 35) rfl)) (hw _ (List.mem_of_getElem? (i := 32) rfl)) (by decide) (by decide)) (g := (mkF m 35 #[.val (.ref a1), .val (.ref a2), .val (.int (0 : Int32))] [(.ref x0), (.int (0 : Int32)), (.long (q2 + ((0 : Int32).toInt64))), (.long (q1 + (1 : Int64))), (.ref b238), (.ref b238)])) rfl (by rw [hml]; rfl) (Steps.refl _) (a := b238) (argsL := [(.long (q1 + (1 : Int64))), (.long (q2 + ((0 : Int32).toInt64))), (.int (0 : Int32)), (.ref x0)]) (rest := [(.ref b238)]) (lenOf pd__JJZLjava_lang_String__V rfl) rfl (by show 2 * 0 + _ ≤ _; exact Nat.le_of_eq rfl) (hb hby dwF_35) (fun _ _ => ⟨rfl, hh259, (by decide : 3 + 0 ≤ _), (by decide : 24 + 0 ≤ _)⟩)
  dsimp only [Pt.U, Pt.locs, Pt.cells, Pt.slots] at X260 l260 y260 z260 st260 hQ260
  subst l260 y260 z260
  obtain ⟨rfl, N260q, K260, Fa260, Fp260, Fl260⟩ := hQ260
  have N260 := Fr.app N259 N260q
  refine own_goW (fun t k => st260.trans k) ?_
  have C261 := C243.trans (CHr.keep K260 (fun x => (fun q => (List.mem_cons.mp q).elim (fun e => e ▸ (Safe.exa hZ224.alike A238 (by decide) (by decide))) (fun q => nomatch q))) C243.1)
  have hk262 := Nat.le_trans hk244 K260.1
  have f263 := f245.keep K260
  have f264 := f246.keep K260 (fun q => (List.mem_cons.mp q).elim n242 (fun q => nomatch q))
  have f265 := f247.keep K260 (fun q => (List.mem_cons.mp q).elim n242 (fun q => nomatch q))
  have f266 := f248.keep K260 (fun q => (List.mem_cons.mp q).elim n241 (fun q => nomatch q))
  have f267 := f249.keep K260 (fun q => (List.mem_cons.mp q).elim n241 (fun q => nomatch q))
  have f268 := f250.keep K260 (fun x => (fun q => (List.mem_cons.mp q).elim (fun e => e ▸ g239) (fun q => nomatch q)))
  have f269 := A238.keep K260
  have z270 := Nat.le_trans z251 K260.1
  have k271 := k252.trans K260 (fun x => (fun q => (List.mem_cons.mp q).elim (fun e => e ▸ Or.inr s240) (fun q => nomatch q)))
  show own_GW _ _ p.tables e below s _ _ _ (T260.setTop (mkF m 38 #[.val (.ref a1), .val (.ref a2), .val (.int (0 : Int32))] [(.ref b238)]))
  exact own_retAW X260 hx hlk hS224 hk262 hZ224 (own_hEL hw) C261 Bd.returns rfl rfl (hb hby dwF_38) (⟨⟨_, rfl, f269, Fa260, Fl260⟩, N260, k271⟩) (by decide) (by decide)
theorem pd__Ljava_lang_String_Ljava_lang_String_Ljava_lang_String_Ljava_lang_String_Ljava_lang_String__B_V : parseMethodDescriptor "(Ljava/lang/String;Ljava/lang/String;Ljava/lang/String;Ljava/lang/String;Ljava/lang/String;[B)V" = some ⟨[(.object "java/lang/String"), (.object "java/lang/String"), (.object "java/lang/String"), (.object "java/lang/String"), (.object "java/lang/String"), (.array .byte)], none⟩ := by decide +kernel
theorem pd__Lcom_example_vouchsafe_vouchsafe_LogEntry__Lcom_example_vouchsafe_vouchsafe_AuditTally_ : parseMethodDescriptor "(Lcom/example/vouchsafe/vouchsafe/LogEntry;)Lcom/example/vouchsafe/vouchsafe/AuditTally;" = some ⟨[(.object "com/example/vouchsafe/vouchsafe/LogEntry")], some (.object "com/example/vouchsafe/vouchsafe/AuditTally")⟩ := by decide +kernel
set_option maxRecDepth 65536 in
set_option maxHeartbeats 40000000 in
theorem own_tail_00 {p : Program} {l : Launch} {e : Env} {s : State} {m : MethodId} {args : Array Value} {below : List Frame} {meth : Method} {c : Code} {T0 : State} {locs : List Loc} {Z : State} {a0 : Array Value} {h1 : Heap} {n0 k0 kk nn : Nat} {vm0 : Vm} {Q : Option Value → Heap → List Loc → Prop} (q1 q2 : Int64) (p3 p4 w0 : Int32) (cs nw ta ex : Addr)
    (X0 : Stand p l e room_1 (s.setVm vm0) m args below meth c T0 locs 8 52) (hx : p.tables.exec = Jvm.exec) (hlk : meth.locks = false) (hZ : Z.Warmed39 (s.setVm vm0).vm) (hw : ∀ d ∈ tables_1, d.before a0 Z = true) (hby : c.code = code) (hml : c.maxLocals = 18) (hown : (s.setVm vm0).vm.findClass "com/example/vouchsafe/vouchsafe/AuditTallyLastPinLaw" = some m.cls) (hret : meth.sig.returnType = some .boolean) (e0 : T0.heap = h1) (Z1 : n0 ≤ h1.size) (N0 : Fr n0 locs) (O0 : Old Z n0 h1) (S0 : Sta Z Z.heap "java/lang/String" "COMPACT_STRINGS" "Z" (.int w0)) (hcw : ¬ w0 = 0) (hS0 : s.Since vm0 k0) (hk0 : k0 ≤ h1.size) (C0 : CHr Z own_EL s.vm s.heap vm0 h1)
    (hQ : ∀ h L, Fr n0 L → Q (some (.int 1)) h L) (hkk : 48 ≤ kk) (hnn : 11456 ≤ nn) : own_GW Z own_EL p.tables e below s Q kk nn (T0.setTop (mkF m 122 #[.val (.long q1), .second, .val (.long q2), .second, .val (.int p3), .val (.int p4), .val (.int (0 : Int32)), .val (.int (0 : Int32)), .val (.ref cs), .val (.ref nw), .val (.ref ta), .val (.ref ex), .unset, .unset, .unset, .unset, .unset, .unset] [])) := by
  refine own_goW (fun t k => XS.lloadN X0.here hx rfl (hb hby at_122) rfl k) ?_
  show own_GW _ _ p.tables e below s _ _ _ (T0.setTop (mkF m 123 #[.val (.long q1), .second, .val (.long q2), .second, .val (.int p3), .val (.int p4), .val (.int (0 : Int32)), .val (.int (0 : Int32)), .val (.ref cs), .val (.ref nw), .val (.ref ta), .val (.ref ex), .unset, .unset, .unset, .unset, .unset, .unset] [(.long q1)]))
  refine own_goW (fun t k => X0.ldc2Long hx hown (mvT hZ (hw _ (List.mem_of_getElem? (i := 64) rfl))) (g := (mkF m 123 #[.val (.long q1), .second, .val (.long q2), .second, .val (.int p3), .val (.int p4), .val (.int (0 : Int32)), .val (.int (0 : Int32)), .val (.ref cs), .val (.ref nw), .val (.ref ta), .val (.ref ex), .unset, .unset, .unset, .unset, .unset, .unset] [(.long q1)])) rfl (hb hby at_123) _ k) ?_
  show own_GW _ _ p.tables e below s _ _ _ (T0.setTop (mkF m 126 #[.val (.long q1), .second, .val (.long q2), .second, .val (.int p3), .val (.int p4), .val (.int (0 : Int32)), .val (.int (0 : Int32)), .val (.ref cs), .val (.ref nw), .val (.ref ta), .val (.ref ex), .unset, .unset, .unset, .unset, .unset, .unset] [(.long (9223372036854775807 : Int64)), (.long q1)]))
  refine own_goW (fun t k => XS.land X0.here hx rfl (hb hby at_126) rfl k) ?_
  show own_GW _ _ p.tables e below s _ _ _ (T0.setTop (mkF m 127 #[.val (.long q1), .second, .val (.long q2), .second, .val (.int p3), .val (.int p4), .val (.int (0 : Int32)), .val (.int (0 : Int32)), .val (.ref cs), .val (.ref nw), .val (.ref ta), .val (.ref ex), .unset, .unset, .unset, .unset, .unset, .unset] [(.long (q1 &&& (9223372036854775807 : Int64)))]))
  refine own_goW (fun t k => XS.lstore X0.here hx rfl (hb hby at_127) rfl (l' := #[.val (.long q1), .second, .val (.long q2), .second, .val (.int p3), .val (.int p4), .val (.int (0 : Int32)), .val (.int (0 : Int32)), .val (.ref cs), .val (.ref nw), .val (.ref ta), .val (.ref ex), .val (.long (q1 &&& (9223372036854775807 : Int64))), .second, .unset, .unset, .unset, .unset]) rfl k) ?_
  show own_GW _ _ p.tables e below s _ _ _ (T0.setTop (mkF m 129 #[.val (.long q1), .second, .val (.long q2), .second, .val (.int p3), .val (.int p4), .val (.int (0 : Int32)), .val (.int (0 : Int32)), .val (.ref cs), .val (.ref nw), .val (.ref ta), .val (.ref ex), .val (.long (q1 &&& (9223372036854775807 : Int64))), .second, .unset, .unset, .unset, .unset] []))
  obtain ⟨T272, h272, X272, e272, E272, A272, D272, -, st272⟩ := newO X0 hx hZ hown (hw _ (List.mem_of_getElem? (i := 30) rfl)) (hw _ (List.mem_of_getElem? (i := 31) rfl)) (hw _ (List.mem_of_getElem? (i := 32) rfl)) e0 (g := (mkF m 129 #[.val (.long q1), .second, .val (.long q2), .second, .val (.int p3), .val (.int p4), .val (.int (0 : Int32)), .val (.int (0 : Int32)), .val (.ref cs), .val (.ref nw), .val (.ref ta), .val (.ref ex), .val (.long (q1 &&& (9223372036854775807 : Int64))), .second, .unset, .unset, .unset, .unset] [])) rfl (hb hby at_129) (by decide) (by decide)
  obtain ⟨b272, g272⟩ : ∃ z, z = h1.size := ⟨_, rfl⟩
  rw [← g272] at A272 D272 st272
  refine own_goW st272 ?_
  have g273 := Nat.le_trans Z1 (Nat.le_of_eq g272.symm)
  have C274 := C0.trans (CHr.ext E272 C0.1)
  have hk275 := Nat.le_trans hk0 E272.1
  have f276 := O0.ext E272
  have z277 := Nat.le_trans Z1 E272.1
  have f278 : Fld Z h272 b272 "com/example/vouchsafe/vouchsafe/AuditTally" "audits" "J" (.long (0 : Int64)) := D272 (Or.inr (hw _ (List.mem_of_getElem? (i := 43) rfl))) (ty := .long) (by decide)
  have f279 : Fld Z h272 b272 "com/example/vouchsafe/vouchsafe/AuditTally" "passed" "J" (.long (0 : Int64)) := D272 (Or.inr (hw _ (List.mem_of_getElem? (i := 45) rfl))) (ty := .long) (by decide)
  have f280 : Fld Z h272 b272 "com/example/vouchsafe/vouchsafe/AuditTally" "lastPassed" "Z" (.int (0 : Int32)) := D272 (Or.inr (hw _ (List.mem_of_getElem? (i := 47) rfl))) (ty := .boolean) (by decide)
  have f281 : Fld Z h272 b272 "com/example/vouchsafe/vouchsafe/AuditTally" "newest" "Ljava/lang/String;" .null := D272 (Or.inr (hw _ (List.mem_of_getElem? (i := 49) rfl))) (ty := (.object "java/lang/String")) (by decide)
  show own_GW _ _ p.tables e below s _ _ _ (T272.setTop (mkF m 132 #[.val (.long q1), .second, .val (.long q2), .second, .val (.int p3), .val (.int p4), .val (.int (0 : Int32)), .val (.int (0 : Int32)), .val (.ref cs), .val (.ref nw), .val (.ref ta), .val (.ref ex), .val (.long (q1 &&& (9223372036854775807 : Int64))), .second, .unset, .unset, .unset, .unset] [(.ref b272)]))
  refine own_goW (fun t k => XS.dup X272.here hx rfl (hb hby at_132) rfl rfl k) ?_
  show own_GW _ _ p.tables e below s _ _ _ (T272.setTop (mkF m 133 #[.val (.long q1), .second, .val (.long q2), .second, .val (.int p3), .val (.int p4), .val (.int (0 : Int32)), .val (.int (0 : Int32)), .val (.ref cs), .val (.ref nw), .val (.ref ta), .val (.ref ex), .val (.long (q1 &&& (9223372036854775807 : Int64))), .second, .unset, .unset, .unset, .unset] [(.ref b272), (.ref b272)]))
  refine own_goW (fun t k => XS.lload X272.here hx rfl (hb hby at_133) rfl k) ?_
  show own_GW _ _ p.tables e below s _ _ _ (T272.setTop (mkF m 135 #[.val (.long q1), .second, .val (.long q2), .second, .val (.int p3), .val (.int p4), .val (.int (0 : Int32)), .val (.int (0 : Int32)), .val (.ref cs), .val (.ref nw), .val (.ref ta), .val (.ref ex), .val (.long (q1 &&& (9223372036854775807 : Int64))), .second, .unset, .unset, .unset, .unset] [(.long (q1 &&& (9223372036854775807 : Int64))), (.ref b272), (.ref b272)]))
  refine own_goW (fun t k => XS.lloadN X272.here hx rfl (hb hby at_135) rfl k) ?_
  show own_GW _ _ p.tables e below s _ _ _ (T272.setTop (mkF m 136 #[.val (.long q1), .second, .val (.long q2), .second, .val (.int p3), .val (.int p4), .val (.int (0 : Int32)), .val (.int (0 : Int32)), .val (.ref cs), .val (.ref nw), .val (.ref ta), .val (.ref ex), .val (.long (q1 &&& (9223372036854775807 : Int64))), .second, .unset, .unset, .unset, .unset] [(.long q2), (.long (q1 &&& (9223372036854775807 : Int64))), (.ref b272), (.ref b272)]))
  refine own_goW (fun t k => XS.iload X272.here hx rfl (hb hby at_136) rfl k) ?_
  show own_GW _ _ p.tables e below s _ _ _ (T272.setTop (mkF m 138 #[.val (.long q1), .second, .val (.long q2), .second, .val (.int p3), .val (.int p4), .val (.int (0 : Int32)), .val (.int (0 : Int32)), .val (.ref cs), .val (.ref nw), .val (.ref ta), .val (.ref ex), .val (.long (q1 &&& (9223372036854775807 : Int64))), .second, .unset, .unset, .unset, .unset] [(.int (0 : Int32)), (.long q2), (.long (q1 &&& (9223372036854775807 : Int64))), (.ref b272), (.ref b272)]))
  refine own_goW (fun t k => XS.aload X272.here hx rfl (hb hby at_138) rfl rfl k) ?_
  show own_GW _ _ p.tables e below s _ _ _ (T272.setTop (mkF m 140 #[.val (.long q1), .second, .val (.long q2), .second, .val (.int p3), .val (.int p4), .val (.int (0 : Int32)), .val (.int (0 : Int32)), .val (.ref cs), .val (.ref nw), .val (.ref ta), .val (.ref ex), .val (.long (q1 &&& (9223372036854775807 : Int64))), .second, .unset, .unset, .unset, .unset] [(.ref nw), (.int (0 : Int32)), (.long q2), (.long (q1 &&& (9223372036854775807 : Int64))), (.ref b272), (.ref b272)]))
  obtain ⟨_, _, ⟨T282, L282, k282, n282⟩, -, X282, ⟨Lc282, hQ282, l282, y282, z282⟩, st282⟩ := X272.specialBack hx (y := (⟨"com/example/vouchsafe/vouchsafe/AuditTally", "<init>", "(JJZLjava/lang/String;)V"⟩ : MethodName)) rfl hown (mvT hZ (hw _ (List.mem_of_getElem? (i := 33) rfl))) (mvT hZ (hw _ (List.mem_of_getElem? (i := 34) rfl))) (mvT hZ (hw _ (List.mem_of_getElem? (i := 35) rfl))) (by decide) (backOf (W := 1) (rma0 l Z a0 hw [] b272 nw (q1 &&& (9223372036854775807 : Int64)) q2 h272 n0 z277 A272 f278 f279 f280 f281 g273) hZ (hw _ (List.mem_of_getElem? (i := 35) rfl)) (hw _ (List.mem_of_getElem? (i := 32) rfl)) (by decide) (by decide)) (g := (mkF m 140 #[.val (.long q1), .second, .val (.long q2), .second, .val (.int p3), .val (.int p4), .val (.int (0 : Int32)), .val (.int (0 : Int32)), .val (.ref cs), .val (.ref nw), .val (.ref ta), .val (.ref ex), .val (.long (q1 &&& (9223372036854775807 : Int64))), .second, .unset, .unset, .unset, .unset] [(.ref nw), (.int (0 : Int32)), (.long q2), (.long (q1 &&& (9223372036854775807 : Int64))), (.ref b272), (.ref b272)])) rfl (by rw [hml]; rfl) (Steps.refl _) (a := b272) (argsL := [(.long (q1 &&& (9223372036854775807 : Int64))), (.long q2), (.int (0 : Int32)), (.ref nw)]) (rest := [(.ref b272)]) (lenOf pd__JJZLjava_lang_String__V rfl) rfl (by show 2 * 0 + _ ≤ _; exact Nat.le_of_eq rfl) (hb hby at_140) (fun _ _ => ⟨rfl, e272, (by decide : 9 + 0 ≤ _), (by decide : 56 + 0 ≤ _)⟩)
  dsimp only [Pt.U, Pt.locs, Pt.cells, Pt.slots] at X282 l282 y282 z282 st282 hQ282
  subst l282 y282 z282
  obtain ⟨rfl, N282q, K282, Fa282, Fp282, Fl282⟩ := hQ282
  have N282 := Fr.app N0 N282q
  refine own_goW (fun t k => st282.trans k) ?_
  have C283 := C274.trans (CHr.keep K282 (fun x => (fun q => (List.mem_cons.mp q).elim (fun e => e ▸ (Safe.exa hZ.alike A272 (by decide) (by decide))) (fun q => nomatch q))) C274.1)
  have hk284 := Nat.le_trans hk275 K282.1
  have f285 := f276.keep K282 (fun x => (fun q => (List.mem_cons.mp q).elim (fun e => e ▸ g273) (fun q => nomatch q)))
  have f286 := A272.keep K282
  have z287 := Nat.le_trans z277 K282.1
  show own_GW _ _ p.tables e below s _ _ _ (T282.setTop (mkF m 143 #[.val (.long q1), .second, .val (.long q2), .second, .val (.int p3), .val (.int p4), .val (.int (0 : Int32)), .val (.int (0 : Int32)), .val (.ref cs), .val (.ref nw), .val (.ref ta), .val (.ref ex), .val (.long (q1 &&& (9223372036854775807 : Int64))), .second, .unset, .unset, .unset, .unset] [(.ref b272)]))
  refine own_goW (fun t k => XS.astore X282.here hx rfl (hb hby at_143) rfl rfl (l' := #[.val (.long q1), .second, .val (.long q2), .second, .val (.int p3), .val (.int p4), .val (.int (0 : Int32)), .val (.int (0 : Int32)), .val (.ref cs), .val (.ref nw), .val (.ref ta), .val (.ref ex), .val (.long (q1 &&& (9223372036854775807 : Int64))), .second, .val (.ref b272), .unset, .unset, .unset]) rfl k) ?_
  show own_GW _ _ p.tables e below s _ _ _ (T282.setTop (mkF m 145 #[.val (.long q1), .second, .val (.long q2), .second, .val (.int p3), .val (.int p4), .val (.int (0 : Int32)), .val (.int (0 : Int32)), .val (.ref cs), .val (.ref nw), .val (.ref ta), .val (.ref ex), .val (.long (q1 &&& (9223372036854775807 : Int64))), .second, .val (.ref b272), .unset, .unset, .unset] []))
  obtain ⟨T288, h288, X288, e288, E288, A288, D288, -, st288⟩ := newO X282 hx hZ hown (hw _ (List.mem_of_getElem? (i := 65) rfl)) (hw _ (List.mem_of_getElem? (i := 66) rfl)) (hw _ (List.mem_of_getElem? (i := 67) rfl)) rfl (g := (mkF m 145 #[.val (.long q1), .second, .val (.long q2), .second, .val (.int p3), .val (.int p4), .val (.int (0 : Int32)), .val (.int (0 : Int32)), .val (.ref cs), .val (.ref nw), .val (.ref ta), .val (.ref ex), .val (.long (q1 &&& (9223372036854775807 : Int64))), .second, .val (.ref b272), .unset, .unset, .unset] [])) rfl (hb hby at_145) (by decide) (by decide)
  obtain ⟨b288, g288⟩ : ∃ z, z = T282.heap.size := ⟨_, rfl⟩
  rw [← g288] at A288 D288 st288
  refine own_goW st288 ?_
  have g289 := Nat.le_trans z287 (Nat.le_of_eq g288.symm)
  have n290 := Nat.ne_of_lt (Nat.lt_of_lt_of_le f286.lt (Nat.le_of_eq g288.symm))
  have C291 := C283.trans (CHr.ext E288 C283.1)
  have hk292 := Nat.le_trans hk284 E288.1
  have f293 := f285.ext E288
  have f294 := Exa.ext E288 f286
  have f295 := Fld.ext E288 Fa282
  have f296 := Fld.ext E288 Fp282
  have z297 := Nat.le_trans z287 E288.1
  have f298 : Fld Z h288 b288 "com/example/vouchsafe/vouchsafe/LogEntry" "eid" "Ljava/lang/String;" .null := D288 (Or.inr (hw _ (List.mem_of_getElem? (i := 76) rfl))) (ty := (.object "java/lang/String")) (by decide)
  have f299 : Fld Z h288 b288 "com/example/vouchsafe/vouchsafe/LogEntry" "prev" "Ljava/lang/String;" .null := D288 (Or.inr (hw _ (List.mem_of_getElem? (i := 78) rfl))) (ty := (.object "java/lang/String")) (by decide)
  have f300 : Fld Z h288 b288 "com/example/vouchsafe/vouchsafe/LogEntry" "group" "Ljava/lang/String;" .null := D288 (Or.inr (hw _ (List.mem_of_getElem? (i := 80) rfl))) (ty := (.object "java/lang/String")) (by decide)
  have f301 : Fld Z h288 b288 "com/example/vouchsafe/vouchsafe/LogEntry" "result" "Ljava/lang/String;" .null := D288 (Or.inr (hw _ (List.mem_of_getElem? (i := 82) rfl))) (ty := (.object "java/lang/String")) (by decide)
  have f302 : Fld Z h288 b288 "com/example/vouchsafe/vouchsafe/LogEntry" "time" "Ljava/lang/String;" .null := D288 (Or.inr (hw _ (List.mem_of_getElem? (i := 84) rfl))) (ty := (.object "java/lang/String")) (by decide)
  have f303 : Fld Z h288 b288 "com/example/vouchsafe/vouchsafe/LogEntry" "signature" "[B" .null := D288 (Or.inr (hw _ (List.mem_of_getElem? (i := 86) rfl))) (ty := (.array .byte)) (by decide)
  show own_GW _ _ p.tables e below s _ _ _ (T288.setTop (mkF m 148 #[.val (.long q1), .second, .val (.long q2), .second, .val (.int p3), .val (.int p4), .val (.int (0 : Int32)), .val (.int (0 : Int32)), .val (.ref cs), .val (.ref nw), .val (.ref ta), .val (.ref ex), .val (.long (q1 &&& (9223372036854775807 : Int64))), .second, .val (.ref b272), .unset, .unset, .unset] [(.ref b288)]))
  refine own_goW (fun t k => XS.dup X288.here hx rfl (hb hby at_148) rfl rfl k) ?_
  show own_GW _ _ p.tables e below s _ _ _ (T288.setTop (mkF m 149 #[.val (.long q1), .second, .val (.long q2), .second, .val (.int p3), .val (.int p4), .val (.int (0 : Int32)), .val (.int (0 : Int32)), .val (.ref cs), .val (.ref nw), .val (.ref ta), .val (.ref ex), .val (.long (q1 &&& (9223372036854775807 : Int64))), .second, .val (.ref b272), .unset, .unset, .unset] [(.ref b288), (.ref b288)]))
  refine own_goW (fun t k => XS.aload X288.here hx rfl (hb hby at_149) rfl rfl k) ?_
  show own_GW _ _ p.tables e below s _ _ _ (T288.setTop (mkF m 151 #[.val (.long q1), .second, .val (.long q2), .second, .val (.int p3), .val (.int p4), .val (.int (0 : Int32)), .val (.int (0 : Int32)), .val (.ref cs), .val (.ref nw), .val (.ref ta), .val (.ref ex), .val (.long (q1 &&& (9223372036854775807 : Int64))), .second, .val (.ref b272), .unset, .unset, .unset] [(.ref nw), (.ref b288), (.ref b288)]))
  obtain ⟨a304, T304, h304, k304, b304, kk304, X304, e304, E304, hS304, hk304, hZ304, ho304, Ea304, Fc304, Fv304, V304, la304, lb304, C304', Li304, sf304, st304⟩ := ldcCH X288 hx hZ hown (hw _ (List.mem_of_getElem? (i := 68) rfl)) (own_wS hw) e288 hS0 hk292 (own_hEL hw) (List.mem_of_getElem? (i := 6) rfl) C291.1 (vs := []) (z := (0 : Int32)) ⟨by decide, rfl⟩ (by decide) rfl (g := (mkF m 151 #[.val (.long q1), .second, .val (.long q2), .second, .val (.int p3), .val (.int p4), .val (.int (0 : Int32)), .val (.int (0 : Int32)), .val (.ref cs), .val (.ref nw), .val (.ref ta), .val (.ref ex), .val (.long (q1 &&& (9223372036854775807 : Int64))), .second, .val (.ref b272), .unset, .unset, .unset] [(.ref nw), (.ref b288), (.ref b288)])) rfl (hb hby at_151) (n := 0) (by decide) (by decide) (by decide) (by decide)
  refine own_goW st304 ?_
  have C305 := C291.trans C304'
  have f306 := f293.ext E304
  have f307 := Exa.ext E304 f294
  have f308 := Fld.ext E304 f295
  have f309 := Fld.ext E304 f296
  have f310 := Exa.ext E304 A288
  have f311 := Fld.ext E304 f298
  have f312 := Fld.ext E304 f299
  have f313 := Fld.ext E304 f300
  have f314 := Fld.ext E304 f301
  have f315 := Fld.ext E304 f302
  have f316 := Fld.ext E304 f303
  have z317 := Nat.le_trans z297 E304.1
  have n318 := ne_exa Ea304 f307 (by decide)
  have n319 := (Exa.neArv f307 V304 (hw _ (List.mem_of_getElem? (i := 31) rfl))).symm
  have n320 := ne_exa Ea304 f310 (by decide)
  have n321 := (Exa.neArv f310 V304 (hw _ (List.mem_of_getElem? (i := 66) rfl))).symm
  show own_GW _ _ p.tables e below s _ _ _ (T304.setTop (mkF m 153 #[.val (.long q1), .second, .val (.long q2), .second, .val (.int p3), .val (.int p4), .val (.int (0 : Int32)), .val (.int (0 : Int32)), .val (.ref cs), .val (.ref nw), .val (.ref ta), .val (.ref ex), .val (.long (q1 &&& (9223372036854775807 : Int64))), .second, .val (.ref b272), .unset, .unset, .unset] [(.ref a304), (.ref nw), (.ref b288), (.ref b288)]))
  obtain ⟨a322, T322, h322, k322, b322, kk322, X322, e322, E322, hS322, hk322, hZ322, ho322, Ea322, Fc322, Fv322, V322, la322, lb322, C322', Li322, sf322, st322⟩ := ldcCH X304 hx hZ304 ho304 (hw _ (List.mem_of_getElem? (i := 69) rfl)) (own_wS hw) e304 hS304 hk304 (own_hEL hw) (List.mem_of_getElem? (i := 7) rfl) C305.1 (vs := [(.int (103 : Int32))]) (z := (1 : Int32)) ⟨by decide, rfl⟩ (by decide) rfl (g := (mkF m 153 #[.val (.long q1), .second, .val (.long q2), .second, .val (.int p3), .val (.int p4), .val (.int (0 : Int32)), .val (.int (0 : Int32)), .val (.ref cs), .val (.ref nw), .val (.ref ta), .val (.ref ex), .val (.long (q1 &&& (9223372036854775807 : Int64))), .second, .val (.ref b272), .unset, .unset, .unset] [(.ref a304), (.ref nw), (.ref b288), (.ref b288)])) rfl (hb hby at_153) (n := 4) (by decide) (by decide) (by decide) (by decide)
  refine own_goW st322 ?_
  have C323 := C305.trans C322'
  have f324 := f306.ext E322
  have f325 := Exa.ext E322 f307
  have f326 := Fld.ext E322 f308
  have f327 := Fld.ext E322 f309
  have f328 := Exa.ext E322 f310
  have f329 := Fld.ext E322 f311
  have f330 := Fld.ext E322 f312
  have f331 := Fld.ext E322 f313
  have f332 := Fld.ext E322 f314
  have f333 := Fld.ext E322 f315
  have f334 := Fld.ext E322 f316
  have f335 := Exa.ext E322 Ea304
  have f336 := Fld.ext E322 Fc304
  have f337 := Fld.ext E322 Fv304
  have f338 := V304.ext E322
  have z339 := Nat.le_trans z317 E322.1
  have n340 := ne_exa Ea322 f325 (by decide)
  have n341 := (Exa.neArv f325 V322 (hw _ (List.mem_of_getElem? (i := 31) rfl))).symm
  have n342 := ne_exa Ea322 f328 (by decide)
  have n343 := (Exa.neArv f328 V322 (hw _ (List.mem_of_getElem? (i := 66) rfl))).symm
  show own_GW _ _ p.tables e below s _ _ _ (T322.setTop (mkF m 155 #[.val (.long q1), .second, .val (.long q2), .second, .val (.int p3), .val (.int p4), .val (.int (0 : Int32)), .val (.int (0 : Int32)), .val (.ref cs), .val (.ref nw), .val (.ref ta), .val (.ref ex), .val (.long (q1 &&& (9223372036854775807 : Int64))), .second, .val (.ref b272), .unset, .unset, .unset] [(.ref a322), (.ref a304), (.ref nw), (.ref b288), (.ref b288)]))
  refine own_goW (fun t k => XS.iload X322.here hx rfl (hb hby at_155) rfl k) ?_
  show own_GW _ _ p.tables e below s _ _ _ (T322.setTop (mkF m 157 #[.val (.long q1), .second, .val (.long q2), .second, .val (.int p3), .val (.int p4), .val (.int (0 : Int32)), .val (.int (0 : Int32)), .val (.ref cs), .val (.ref nw), .val (.ref ta), .val (.ref ex), .val (.long (q1 &&& (9223372036854775807 : Int64))), .second, .val (.ref b272), .unset, .unset, .unset] [(.int (0 : Int32)), (.ref a322), (.ref a304), (.ref nw), (.ref b288), (.ref b288)]))
  refine own_goW (fun t k => XS.ifYes X322.here hx rfl (pc0 := 157) (pc' := 165) rfl (hb hby at_157) rfl (by decide) (by decide) (by decide) k) ?_
  show own_GW _ _ p.tables e below s _ _ _ (T322.setTop (mkF m 165 #[.val (.long q1), .second, .val (.long q2), .second, .val (.int p3), .val (.int p4), .val (.int (0 : Int32)), .val (.int (0 : Int32)), .val (.ref cs), .val (.ref nw), .val (.ref ta), .val (.ref ex), .val (.long (q1 &&& (9223372036854775807 : Int64))), .second, .val (.ref b272), .unset, .unset, .unset] [(.ref a322), (.ref a304), (.ref nw), (.ref b288), (.ref b288)]))
  obtain ⟨a344, T344, h344, k344, b344, kk344, X344, e344, E344, hS344, hk344, hZ344, ho344, Ea344, Fc344, Fv344, V344, la344, lb344, C344', Li344, sf344, st344⟩ := ldcCH X322 hx hZ322 ho322 (hw _ (List.mem_of_getElem? (i := 70) rfl)) (own_wS hw) e322 hS322 hk322 (own_hEL hw) (List.mem_of_getElem? (i := 9) rfl) C323.1 (vs := [(.int (102 : Int32)), (.int (97 : Int32)), (.int (105 : Int32)), (.int (108 : Int32))]) (z := (4 : Int32)) ⟨by decide, rfl⟩ (by decide) rfl (g := (mkF m 165 #[.val (.long q1), .second, .val (.long q2), .second, .val (.int p3), .val (.int p4), .val (.int (0 : Int32)), .val (.int (0 : Int32)), .val (.ref cs), .val (.ref nw), .val (.ref ta), .val (.ref ex), .val (.long (q1 &&& (9223372036854775807 : Int64))), .second, .val (.ref b272), .unset, .unset, .unset] [(.ref a322), (.ref a304), (.ref nw), (.ref b288), (.ref b288)])) rfl (hb hby at_165) (n := 16) (by decide) (by decide) (by decide) (by decide)
  refine own_goW st344 ?_
  have C345 := C323.trans C344'
  have f346 := f324.ext E344
  have f347 := Exa.ext E344 f325
  have f348 := Fld.ext E344 f326
  have f349 := Fld.ext E344 f327
  have f350 := Exa.ext E344 f328
  have f351 := Fld.ext E344 f329
  have f352 := Fld.ext E344 f330
  have f353 := Fld.ext E344 f331
  have f354 := Fld.ext E344 f332
  have f355 := Fld.ext E344 f333
  have f356 := Fld.ext E344 f334
  have f357 := Exa.ext E344 f335
  have f358 := Fld.ext E344 f336
  have f359 := Fld.ext E344 f337
  have f360 := f338.ext E344
  have f361 := Exa.ext E344 Ea322
  have f362 := Fld.ext E344 Fc322
  have f363 := Fld.ext E344 Fv322
  have f364 := V322.ext E344
  have z365 := Nat.le_trans z339 E344.1
  have n366 := ne_exa Ea344 f347 (by decide)
  have n367 := (Exa.neArv f347 V344 (hw _ (List.mem_of_getElem? (i := 31) rfl))).symm
  have n368 := ne_exa Ea344 f350 (by decide)
  have n369 := (Exa.neArv f350 V344 (hw _ (List.mem_of_getElem? (i := 66) rfl))).symm
  show own_GW _ _ p.tables e below s _ _ _ (T344.setTop (mkF m 167 #[.val (.long q1), .second, .val (.long q2), .second, .val (.int p3), .val (.int p4), .val (.int (0 : Int32)), .val (.int (0 : Int32)), .val (.ref cs), .val (.ref nw), .val (.ref ta), .val (.ref ex), .val (.long (q1 &&& (9223372036854775807 : Int64))), .second, .val (.ref b272), .unset, .unset, .unset] [(.ref a344), (.ref a322), (.ref a304), (.ref nw), (.ref b288), (.ref b288)]))
  obtain ⟨a370, T370, h370, k370, b370, kk370, X370, e370, E370, hS370, hk370, hZ370, ho370, Ea370, Fc370, Fv370, V370, la370, lb370, C370', Li370, sf370, st370⟩ := ldcCH X344 hx hZ344 ho344 (hw _ (List.mem_of_getElem? (i := 68) rfl)) (own_wS hw) e344 hS344 hk344 (own_hEL hw) (List.mem_of_getElem? (i := 6) rfl) C345.1 (vs := []) (z := (0 : Int32)) ⟨by decide, rfl⟩ (by decide) rfl (g := (mkF m 167 #[.val (.long q1), .second, .val (.long q2), .second, .val (.int p3), .val (.int p4), .val (.int (0 : Int32)), .val (.int (0 : Int32)), .val (.ref cs), .val (.ref nw), .val (.ref ta), .val (.ref ex), .val (.long (q1 &&& (9223372036854775807 : Int64))), .second, .val (.ref b272), .unset, .unset, .unset] [(.ref a344), (.ref a322), (.ref a304), (.ref nw), (.ref b288), (.ref b288)])) rfl (hb hby at_167) (n := 0) (by decide) (by decide) (by decide) (by decide)
  refine own_goW st370 ?_
  have C371 := C345.trans C370'
  have f372 := f346.ext E370
  have f373 := Exa.ext E370 f347
  have f374 := Fld.ext E370 f348
  have f375 := Fld.ext E370 f349
  have f376 := Exa.ext E370 f350
  have f377 := Fld.ext E370 f351
  have f378 := Fld.ext E370 f352
  have f379 := Fld.ext E370 f353
  have f380 := Fld.ext E370 f354
  have f381 := Fld.ext E370 f355
  have f382 := Fld.ext E370 f356
  have f383 := Exa.ext E370 f357
  have f384 := Fld.ext E370 f358
  have f385 := Fld.ext E370 f359
  have f386 := f360.ext E370
  have f387 := Exa.ext E370 f361
  have f388 := Fld.ext E370 f362
  have f389 := Fld.ext E370 f363
  have f390 := f364.ext E370
  have f391 := Exa.ext E370 Ea344
  have f392 := Fld.ext E370 Fc344
  have f393 := Fld.ext E370 Fv344
  have f394 := V344.ext E370
  have z395 := Nat.le_trans z365 E370.1
  have n396 := ne_exa Ea370 f373 (by decide)
  have n397 := (Exa.neArv f373 V370 (hw _ (List.mem_of_getElem? (i := 31) rfl))).symm
  have n398 := ne_exa Ea370 f376 (by decide)
  have n399 := (Exa.neArv f376 V370 (hw _ (List.mem_of_getElem? (i := 66) rfl))).symm
  show own_GW _ _ p.tables e below s _ _ _ (T370.setTop (mkF m 169 #[.val (.long q1), .second, .val (.long q2), .second, .val (.int p3), .val (.int p4), .val (.int (0 : Int32)), .val (.int (0 : Int32)), .val (.ref cs), .val (.ref nw), .val (.ref ta), .val (.ref ex), .val (.long (q1 &&& (9223372036854775807 : Int64))), .second, .val (.ref b272), .unset, .unset, .unset] [(.ref a370), (.ref a344), (.ref a322), (.ref a304), (.ref nw), (.ref b288), (.ref b288)]))
  refine own_goW (fun t k => XS.iconst X370.here hx rfl (hb hby at_169) k) ?_
  show own_GW _ _ p.tables e below s _ _ _ (T370.setTop (mkF m 170 #[.val (.long q1), .second, .val (.long q2), .second, .val (.int p3), .val (.int p4), .val (.int (0 : Int32)), .val (.int (0 : Int32)), .val (.ref cs), .val (.ref nw), .val (.ref ta), .val (.ref ex), .val (.long (q1 &&& (9223372036854775807 : Int64))), .second, .val (.ref b272), .unset, .unset, .unset] [(.int (0 : Int32)), (.ref a370), (.ref a344), (.ref a322), (.ref a304), (.ref nw), (.ref b288), (.ref b288)]))
  obtain ⟨T400, h400, k400, X400, e400, E400, A400, st400⟩ := newP X370 hx hZ370 (hw _ (List.mem_of_getElem? (i := 19) rfl)) e370 (g := (mkF m 170 #[.val (.long q1), .second, .val (.long q2), .second, .val (.int p3), .val (.int p4), .val (.int (0 : Int32)), .val (.int (0 : Int32)), .val (.ref cs), .val (.ref nw), .val (.ref ta), .val (.ref ex), .val (.long (q1 &&& (9223372036854775807 : Int64))), .second, .val (.ref b272), .unset, .unset, .unset] [(.int (0 : Int32)), (.ref a370), (.ref a344), (.ref a322), (.ref a304), (.ref nw), (.ref b288), (.ref b288)])) rfl (hb hby at_170) rfl (by decide) (cap := 0) (by decide) (by decide) (by decide) (by decide)
  obtain ⟨b400, g400⟩ : ∃ z, z = h370.size := ⟨_, rfl⟩
  rw [← g400] at A400 st400
  refine own_goW st400 ?_
  have g401 := Nat.le_trans z395 (Nat.le_of_eq g400.symm)
  have n402 := Nat.ne_of_lt (Nat.lt_of_lt_of_le f373.lt (Nat.le_of_eq g400.symm))
  have n403 := Nat.ne_of_lt (Nat.lt_of_lt_of_le f376.lt (Nat.le_of_eq g400.symm))
  have n404 := Nat.ne_of_lt (Nat.lt_of_lt_of_le f383.lt (Nat.le_of_eq g400.symm))
  have n405 := Nat.ne_of_lt (Nat.lt_of_lt_of_le f386.lt (Nat.le_of_eq g400.symm))
  have n406 := Nat.ne_of_lt (Nat.lt_of_lt_of_le f387.lt (Nat.le_of_eq g400.symm))
  have n407 := Nat.ne_of_lt (Nat.lt_of_lt_of_le f390.lt (Nat.le_of_eq g400.symm))
  have n408 := Nat.ne_of_lt (Nat.lt_of_lt_of_le f391.lt (Nat.le_of_eq g400.symm))
  have n409 := Nat.ne_of_lt (Nat.lt_of_lt_of_le f394.lt (Nat.le_of_eq g400.symm))
  have n410 := Nat.ne_of_lt (Nat.lt_of_lt_of_le Ea370.lt (Nat.le_of_eq g400.symm))
  have n411 := Nat.ne_of_lt (Nat.lt_of_lt_of_le V370.lt (Nat.le_of_eq g400.symm))
  have C412 := C371.trans (CHr.ext E400 C371.1)
  have hk413 := Nat.le_trans hk370 E400.1
  have f414 := f372.ext E400
  have f415 := Exa.ext E400 f373
  have f416 := Fld.ext E400 f374
  have f417 := Fld.ext E400 f375
  have f418 := Exa.ext E400 f376
  have f419 := Fld.ext E400 f377
  have f420 := Fld.ext E400 f378
  have f421 := Fld.ext E400 f379
  have f422 := Fld.ext E400 f380
  have f423 := Fld.ext E400 f381
  have f424 := Fld.ext E400 f382
  have f425 := Exa.ext E400 f383
  have f426 := Fld.ext E400 f384
  have f427 := Fld.ext E400 f385
  have f428 := f386.ext E400
  have f429 := Exa.ext E400 f387
  have f430 := Fld.ext E400 f388
  have f431 := Fld.ext E400 f389
  have f432 := f390.ext E400
  have f433 := Exa.ext E400 f391
  have f434 := Fld.ext E400 f392
  have f435 := Fld.ext E400 f393
  have f436 := f394.ext E400
  have f437 := Exa.ext E400 Ea370
  have f438 := Fld.ext E400 Fc370
  have f439 := Fld.ext E400 Fv370
  have f440 := V370.ext E400
  have z441 := Nat.le_trans z395 E400.1
  show own_GW _ _ p.tables e below s _ _ _ (T400.setTop (mkF m 172 #[.val (.long q1), .second, .val (.long q2), .second, .val (.int p3), .val (.int p4), .val (.int (0 : Int32)), .val (.int (0 : Int32)), .val (.ref cs), .val (.ref nw), .val (.ref ta), .val (.ref ex), .val (.long (q1 &&& (9223372036854775807 : Int64))), .second, .val (.ref b272), .unset, .unset, .unset] [(.ref b400), (.ref a370), (.ref a344), (.ref a322), (.ref a304), (.ref nw), (.ref b288), (.ref b288)]))
  obtain ⟨_, _, ⟨T442, L442, k442, n442⟩, -, X442, ⟨Lc442, hQ442, l442, y442, z442⟩, st442⟩ := X400.specialBack hx (y := (⟨"com/example/vouchsafe/vouchsafe/LogEntry", "<init>", "(Ljava/lang/String;Ljava/lang/String;Ljava/lang/String;Ljava/lang/String;Ljava/lang/String;[B)V"⟩ : MethodName)) rfl ho370 (mvT hZ370 (hw _ (List.mem_of_getElem? (i := 71) rfl))) (mvT hZ370 (hw _ (List.mem_of_getElem? (i := 72) rfl))) (mvT hZ370 (hw _ (List.mem_of_getElem? (i := 73) rfl))) (by decide) (backOf (W := 1) (rme l Z a0 hw [] b288 nw a304 a322 a344 a370 b400 h400 n0 z441 f418 f419 f420 f421 f422 f423 f424 g289) hZ370 (hw _ (List.mem_of_getElem? (i := 73) rfl)) (hw _ (List.mem_of_getElem? (i := 67) rfl)) (by decide) (by decide)) (g := (mkF m 172 #[.val (.long q1), .second, .val (.long q2), .second, .val (.int p3), .val (.int p4), .val (.int (0 : Int32)), .val (.int (0 : Int32)), .val (.ref cs), .val (.ref nw), .val (.ref ta), .val (.ref ex), .val (.long (q1 &&& (9223372036854775807 : Int64))), .second, .val (.ref b272), .unset, .unset, .unset] [(.ref b400), (.ref a370), (.ref a344), (.ref a322), (.ref a304), (.ref nw), (.ref b288), (.ref b288)])) rfl (by rw [hml]; rfl) (Steps.refl _) (a := b288) (argsL := [(.ref nw), (.ref a304), (.ref a322), (.ref a344), (.ref a370), (.ref b400)]) (rest := [(.ref b288)]) (lenOf pd__Ljava_lang_String_Ljava_lang_String_Ljava_lang_String_Ljava_lang_String_Ljava_lang_String__B_V rfl) rfl (by show 2 * 0 + _ ≤ _; exact Nat.le_of_eq rfl) (hb hby at_172) (fun _ _ => ⟨rfl, e400, (by decide : 19 + 0 ≤ _), (by decide : 98 + 0 ≤ _)⟩)
  dsimp only [Pt.U, Pt.locs, Pt.cells, Pt.slots] at X442 l442 y442 z442 st442 hQ442
  subst l442 y442 z442
  obtain ⟨rfl, N442q, K442, Fe442, Fr442⟩ := hQ442
  have N442 := Fr.app N282 N442q
  refine own_goW (fun t k => st442.trans k) ?_
  have C443 := C412.trans (CHr.keep K442 (fun x => (fun q => (List.mem_cons.mp q).elim (fun e => e ▸ (Safe.exa hZ370.alike f418 (by decide) (by decide))) (fun q => nomatch q))) C412.1)
  have hk444 := Nat.le_trans hk413 K442.1
  have f445 := f414.keep K442 (fun x => (fun q => (List.mem_cons.mp q).elim (fun e => e ▸ g289) (fun q => nomatch q)))
  have f446 := f415.keep K442
  have f447 := f416.keep K442 (fun q => (List.mem_cons.mp q).elim n290 (fun q => nomatch q))
  have f448 := f417.keep K442 (fun q => (List.mem_cons.mp q).elim n290 (fun q => nomatch q))
  have f449 := f418.keep K442
  have f450 := f425.keep K442
  have f451 := f426.keep K442 (fun q => (List.mem_cons.mp q).elim n320 (fun q => nomatch q))
  have f452 := f427.keep K442 (fun q => (List.mem_cons.mp q).elim n320 (fun q => nomatch q))
  have f453 := f428.keep K442 (fun q => (List.mem_cons.mp q).elim n321 (fun q => nomatch q))
  have f454 := f429.keep K442
  have f455 := f430.keep K442 (fun q => (List.mem_cons.mp q).elim n342 (fun q => nomatch q))
  have f456 := f431.keep K442 (fun q => (List.mem_cons.mp q).elim n342 (fun q => nomatch q))
  have f457 := f432.keep K442 (fun q => (List.mem_cons.mp q).elim n343 (fun q => nomatch q))
  have f458 := f433.keep K442
  have f459 := f434.keep K442 (fun q => (List.mem_cons.mp q).elim n368 (fun q => nomatch q))
  have f460 := f435.keep K442 (fun q => (List.mem_cons.mp q).elim n368 (fun q => nomatch q))
  have f461 := f436.keep K442 (fun q => (List.mem_cons.mp q).elim n369 (fun q => nomatch q))
  have f462 := f437.keep K442
  have f463 := f438.keep K442 (fun q => (List.mem_cons.mp q).elim n398 (fun q => nomatch q))
  have f464 := f439.keep K442 (fun q => (List.mem_cons.mp q).elim n398 (fun q => nomatch q))
  have f465 := f440.keep K442 (fun q => (List.mem_cons.mp q).elim n399 (fun q => nomatch q))
  have z466 := Nat.le_trans z441 K442.1
  show own_GW _ _ p.tables e below s _ _ _ (T442.setTop (mkF m 175 #[.val (.long q1), .second, .val (.long q2), .second, .val (.int p3), .val (.int p4), .val (.int (0 : Int32)), .val (.int (0 : Int32)), .val (.ref cs), .val (.ref nw), .val (.ref ta), .val (.ref ex), .val (.long (q1 &&& (9223372036854775807 : Int64))), .second, .val (.ref b272), .unset, .unset, .unset] [(.ref b288)]))
  refine own_goW (fun t k => XS.astore X442.here hx rfl (hb hby at_175) rfl rfl (l' := #[.val (.long q1), .second, .val (.long q2), .second, .val (.int p3), .val (.int p4), .val (.int (0 : Int32)), .val (.int (0 : Int32)), .val (.ref cs), .val (.ref nw), .val (.ref ta), .val (.ref ex), .val (.long (q1 &&& (9223372036854775807 : Int64))), .second, .val (.ref b272), .val (.ref b288), .unset, .unset]) rfl k) ?_
  show own_GW _ _ p.tables e below s _ _ _ (T442.setTop (mkF m 177 #[.val (.long q1), .second, .val (.long q2), .second, .val (.int p3), .val (.int p4), .val (.int (0 : Int32)), .val (.int (0 : Int32)), .val (.ref cs), .val (.ref nw), .val (.ref ta), .val (.ref ex), .val (.long (q1 &&& (9223372036854775807 : Int64))), .second, .val (.ref b272), .val (.ref b288), .unset, .unset] []))
  refine own_goW (fun t k => XS.aload X442.here hx rfl (hb hby at_177) rfl rfl k) ?_
  show own_GW _ _ p.tables e below s _ _ _ (T442.setTop (mkF m 179 #[.val (.long q1), .second, .val (.long q2), .second, .val (.int p3), .val (.int p4), .val (.int (0 : Int32)), .val (.int (0 : Int32)), .val (.ref cs), .val (.ref nw), .val (.ref ta), .val (.ref ex), .val (.long (q1 &&& (9223372036854775807 : Int64))), .second, .val (.ref b272), .val (.ref b288), .unset, .unset] [(.ref b272)]))
  refine own_goW (fun t k => XS.aload X442.here hx rfl (hb hby at_179) rfl rfl k) ?_
  show own_GW _ _ p.tables e below s _ _ _ (T442.setTop (mkF m 181 #[.val (.long q1), .second, .val (.long q2), .second, .val (.int p3), .val (.int p4), .val (.int (0 : Int32)), .val (.int (0 : Int32)), .val (.ref cs), .val (.ref nw), .val (.ref ta), .val (.ref ex), .val (.long (q1 &&& (9223372036854775807 : Int64))), .second, .val (.ref b272), .val (.ref b288), .unset, .unset] [(.ref b288), (.ref b272)]))
  obtain ⟨cq467, kq467, q467a, q467b, q467c⟩ := isOf hZ370 rfl f446
  obtain ⟨_, _, ⟨T467, L467, k467, n467⟩, -, X467', sn467, gr467, ⟨Lc467, hQ467, l467, y467, z467, C467'⟩, st467⟩ := X442.virtualBackS hx (y := (⟨"com/example/vouchsafe/vouchsafe/AuditTally", "with", "(Lcom/example/vouchsafe/vouchsafe/LogEntry;)Lcom/example/vouchsafe/vouchsafe/AuditTally;"⟩ : MethodName)) (z := (⟨"com/example/vouchsafe/vouchsafe/AuditTally", "with", "(Lcom/example/vouchsafe/vouchsafe/LogEntry;)Lcom/example/vouchsafe/vouchsafe/AuditTally;"⟩ : MethodName)) ho370 (mvT hZ370 (hw _ (List.mem_of_getElem? (i := 87) rfl))) (mvT hZ370 (hw _ (List.mem_of_getElem? (i := 88) rfl))) (notFace_of_selects (args := #[]) (mvT hZ370 (hw _ (List.mem_of_getElem? (i := 90) rfl)))) (mvT hZ370 (hw _ (List.mem_of_getElem? (i := 90) rfl))) (mvT hZ370 (hw _ (List.mem_of_getElem? (i := 89) rfl))) (by decide) (backOfSH (W := 0) (rmwF l Z a0 hw [] b272 b288 nw a344 b344 kk344 w0 (q1 &&& (9223372036854775807 : Int64)) q2 T442.heap n0 z466 f449 f447 f448 Fe442 Fr442 f458 f459 f460 f461 f445 S0 hcw) hZ370 (hw _ (List.mem_of_getElem? (i := 91) rfl)) (hw _ (List.mem_of_getElem? (i := 32) rfl)) (by decide) (by decide) (own_hEL hw) C443.1) q467a q467c (g := (mkF m 181 #[.val (.long q1), .second, .val (.long q2), .second, .val (.int p3), .val (.int p4), .val (.int (0 : Int32)), .val (.int (0 : Int32)), .val (.ref cs), .val (.ref nw), .val (.ref ta), .val (.ref ex), .val (.long (q1 &&& (9223372036854775807 : Int64))), .second, .val (.ref b272), .val (.ref b288), .unset, .unset] [(.ref b288), (.ref b272)])) rfl (by rw [hml]; rfl) (Steps.refl _) (argsL := [(.ref b288)]) (rest := []) (lenOf pd__Lcom_example_vouchsafe_vouchsafe_LogEntry__Lcom_example_vouchsafe_vouchsafe_AuditTally_ rfl) rfl (by show 2 * 0 + _ ≤ _; exact Nat.le_of_eq rfl) (hb hby at_181) (fun _ _ => ⟨rfl, rfl, (by decide : 19 + 3 ≤ _), (by decide : 98 + 24 ≤ _)⟩)
  dsimp only [Pt.U, Pt.locs, Pt.cells, Pt.slots] at X467' sn467 gr467 l467 y467 z467 st467 hQ467 C467'
  subst l467 y467 z467
  obtain ⟨X467, hS467, hZ467, ho467⟩ := rebS hS370 hk444 X467' sn467 gr467 hZ370 ho370
  obtain ⟨⟨b467, rfl, Eb467, Fa467, Fl467⟩, N467q, K467⟩ := hQ467
  have N467 := Fr.app N442 N467q
  have C468 := C443.trans C467'
  refine own_goW (fun t k => st467.trans k) ?_
  have f469 := f445.keep K467 (fun x q => nomatch q)
  have f470 := f446.keep K467
  have f471 := f447.keep K467 (fun q => nomatch q)
  have f472 := f448.keep K467 (fun q => nomatch q)
  have f473 := f449.keep K467
  have f474 := f450.keep K467
  have f475 := f451.keep K467 (fun q => nomatch q)
  have f476 := f452.keep K467 (fun q => nomatch q)
  have f477 := f453.keep K467 (fun q => nomatch q)
  have f478 := f454.keep K467
  have f479 := f455.keep K467 (fun q => nomatch q)
  have f480 := f456.keep K467 (fun q => nomatch q)
  have f481 := f457.keep K467 (fun q => nomatch q)
  have f482 := f458.keep K467
  have f483 := f459.keep K467 (fun q => nomatch q)
  have f484 := f460.keep K467 (fun q => nomatch q)
  have f485 := f461.keep K467 (fun q => nomatch q)
  have f486 := f462.keep K467
  have f487 := f463.keep K467 (fun q => nomatch q)
  have f488 := f464.keep K467 (fun q => nomatch q)
  have f489 := f465.keep K467 (fun q => nomatch q)
  have f490 := Fe442.keep K467 (fun q => nomatch q)
  have f491 := Fr442.keep K467 (fun q => nomatch q)
  have z492 := Nat.le_trans z466 K467.1
  show own_GW _ _ p.tables e below s _ _ _ (T467.setTop (mkF m 184 #[.val (.long q1), .second, .val (.long q2), .second, .val (.int p3), .val (.int p4), .val (.int (0 : Int32)), .val (.int (0 : Int32)), .val (.ref cs), .val (.ref nw), .val (.ref ta), .val (.ref ex), .val (.long (q1 &&& (9223372036854775807 : Int64))), .second, .val (.ref b272), .val (.ref b288), .unset, .unset] [(.ref b467)]))
  obtain ⟨cq493, kq493, q493a, q493b, q493c⟩ := isOf hZ467 rfl Eb467
  obtain ⟨_, _, ⟨T493, L493, k493, n493⟩, -, X493', sn493, gr493, ⟨Lc493, hQ493, l493, y493, z493, C493'⟩, st493⟩ := X467.virtualBackS hx (y := (⟨"com/example/vouchsafe/vouchsafe/AuditTally", "last", "()Ljava/lang/String;"⟩ : MethodName)) (z := (⟨"com/example/vouchsafe/vouchsafe/AuditTally", "last", "()Ljava/lang/String;"⟩ : MethodName)) ho467 (mvT hZ467 (hw _ (List.mem_of_getElem? (i := 53) rfl))) (mvT hZ467 (hw _ (List.mem_of_getElem? (i := 54) rfl))) (notFace_of_selects (args := #[]) (mvT hZ467 (hw _ (List.mem_of_getElem? (i := 56) rfl)))) (mvT hZ467 (hw _ (List.mem_of_getElem? (i := 56) rfl))) (mvT hZ467 (hw _ (List.mem_of_getElem? (i := 55) rfl))) (by decide) (backOfSH (W := 0) (rmlF l Z a0 hw [] b467 ((q1 &&& (9223372036854775807 : Int64)) + (1 : Int64)) T467.heap n0 z492 Fa467 (own_more q1) Fl467) hZ467 (hw _ (List.mem_of_getElem? (i := 57) rfl)) (hw _ (List.mem_of_getElem? (i := 32) rfl)) (by decide) (by decide) (own_hEL hw) C468.1) q493a q493c (g := (mkF m 184 #[.val (.long q1), .second, .val (.long q2), .second, .val (.int p3), .val (.int p4), .val (.int (0 : Int32)), .val (.int (0 : Int32)), .val (.ref cs), .val (.ref nw), .val (.ref ta), .val (.ref ex), .val (.long (q1 &&& (9223372036854775807 : Int64))), .second, .val (.ref b272), .val (.ref b288), .unset, .unset] [(.ref b467)])) rfl (by rw [hml]; rfl) (Steps.refl _) (argsL := []) (rest := []) (lenOf pd___Ljava_lang_String_ rfl) rfl (by show 2 * 0 + _ ≤ _; exact Nat.le_of_eq rfl) (hb hby at_184) (fun _ _ => ⟨rfl, rfl, (by decide : 22 + 2 ≤ _), (by decide : 122 + 20 ≤ _)⟩)
  dsimp only [Pt.U, Pt.locs, Pt.cells, Pt.slots] at X493' sn493 gr493 l493 y493 z493 st493 hQ493 C493'
  subst l493 y493 z493
  obtain ⟨X493, hS493, hZ493, ho493⟩ := rebS hS467 (Nat.le_refl _) X493' sn493 gr493 hZ467 ho467
  obtain ⟨⟨a493, rfl, Ex493, Cx493, t493, kx493, Vx493, Ax493⟩, N493q, K493⟩ := hQ493
  have N493 := Fr.app N467 N493q
  have C494 := C468.trans C493'
  refine own_goW (fun t k => st493.trans k) ?_
  have f495 := f469.keep K493 (fun x q => nomatch q)
  have z496 := Nat.le_trans z492 K493.1
  show own_GW _ _ p.tables e below s _ _ _ (T493.setTop (mkF m 187 #[.val (.long q1), .second, .val (.long q2), .second, .val (.int p3), .val (.int p4), .val (.int (0 : Int32)), .val (.int (0 : Int32)), .val (.ref cs), .val (.ref nw), .val (.ref ta), .val (.ref ex), .val (.long (q1 &&& (9223372036854775807 : Int64))), .second, .val (.ref b272), .val (.ref b288), .unset, .unset] [(.ref a493)]))
  refine own_goW (fun t k => XS.astore X493.here hx rfl (hb hby at_187) rfl rfl (l' := #[.val (.long q1), .second, .val (.long q2), .second, .val (.int p3), .val (.int p4), .val (.int (0 : Int32)), .val (.int (0 : Int32)), .val (.ref cs), .val (.ref nw), .val (.ref ta), .val (.ref ex), .val (.long (q1 &&& (9223372036854775807 : Int64))), .second, .val (.ref b272), .val (.ref b288), .val (.ref a493), .unset]) rfl k) ?_
  show own_GW _ _ p.tables e below s _ _ _ (T493.setTop (mkF m 189 #[.val (.long q1), .second, .val (.long q2), .second, .val (.int p3), .val (.int p4), .val (.int (0 : Int32)), .val (.int (0 : Int32)), .val (.ref cs), .val (.ref nw), .val (.ref ta), .val (.ref ex), .val (.long (q1 &&& (9223372036854775807 : Int64))), .second, .val (.ref b272), .val (.ref b288), .val (.ref a493), .unset] []))
  refine own_goW (fun t k => XS.iload X493.here hx rfl (hb hby at_189) rfl k) ?_
  show own_GW _ _ p.tables e below s _ _ _ (T493.setTop (mkF m 191 #[.val (.long q1), .second, .val (.long q2), .second, .val (.int p3), .val (.int p4), .val (.int (0 : Int32)), .val (.int (0 : Int32)), .val (.ref cs), .val (.ref nw), .val (.ref ta), .val (.ref ex), .val (.long (q1 &&& (9223372036854775807 : Int64))), .second, .val (.ref b272), .val (.ref b288), .val (.ref a493), .unset] [(.int (0 : Int32))]))
  refine own_goW (fun t k => XS.ifYes X493.here hx rfl (pc0 := 191) (pc' := 199) rfl (hb hby at_191) rfl (by decide) (by decide) (by decide) k) ?_
  show own_GW _ _ p.tables e below s _ _ _ (T493.setTop (mkF m 199 #[.val (.long q1), .second, .val (.long q2), .second, .val (.int p3), .val (.int p4), .val (.int (0 : Int32)), .val (.int (0 : Int32)), .val (.ref cs), .val (.ref nw), .val (.ref ta), .val (.ref ex), .val (.long (q1 &&& (9223372036854775807 : Int64))), .second, .val (.ref b272), .val (.ref b288), .val (.ref a493), .unset] []))
  obtain ⟨a497, T497, h497, k497, b497, kk497, X497, e497, E497, hS497, hk497, hZ497, ho497, Ea497, Fc497, Fv497, V497, la497, lb497, C497', Li497, sf497, st497⟩ := ldcCH X493 hx hZ493 ho493 (hw _ (List.mem_of_getElem? (i := 50) rfl)) (own_wS hw) rfl hS493 (Nat.le_refl _) (own_hEL hw) (List.mem_of_getElem? (i := 5) rfl) C494.1 (vs := [(.int (70 : Int32)), (.int (65 : Int32)), (.int (73 : Int32)), (.int (76 : Int32))]) (z := (4 : Int32)) ⟨by decide, rfl⟩ (by decide) rfl (g := (mkF m 199 #[.val (.long q1), .second, .val (.long q2), .second, .val (.int p3), .val (.int p4), .val (.int (0 : Int32)), .val (.int (0 : Int32)), .val (.ref cs), .val (.ref nw), .val (.ref ta), .val (.ref ex), .val (.long (q1 &&& (9223372036854775807 : Int64))), .second, .val (.ref b272), .val (.ref b288), .val (.ref a493), .unset] [])) rfl (hb hby at_199) (n := 16) (by decide) (by decide) (by decide) (by decide)
  refine own_goW st497 ?_
  have C498 := C494.trans C497'
  have f499 := f495.ext E497
  have f500 := Exa.ext E497 Ex493
  have f501 := Fld.ext E497 Cx493
  have f502 := Fld.ext E497 Vx493
  have f503 := Ax493.ext E497
  have z504 := Nat.le_trans z496 E497.1
  show own_GW _ _ p.tables e below s _ _ _ (T497.setTop (mkF m 201 #[.val (.long q1), .second, .val (.long q2), .second, .val (.int p3), .val (.int p4), .val (.int (0 : Int32)), .val (.int (0 : Int32)), .val (.ref cs), .val (.ref nw), .val (.ref ta), .val (.ref ex), .val (.long (q1 &&& (9223372036854775807 : Int64))), .second, .val (.ref b272), .val (.ref b288), .val (.ref a493), .unset] [(.ref a497)]))
  refine own_goW (fun t k => XS.astore X497.here hx rfl (hb hby at_201) rfl rfl (l' := #[.val (.long q1), .second, .val (.long q2), .second, .val (.int p3), .val (.int p4), .val (.int (0 : Int32)), .val (.int (0 : Int32)), .val (.ref cs), .val (.ref nw), .val (.ref ta), .val (.ref ex), .val (.long (q1 &&& (9223372036854775807 : Int64))), .second, .val (.ref b272), .val (.ref b288), .val (.ref a493), .val (.ref a497)]) rfl k) ?_
  show own_GW _ _ p.tables e below s _ _ _ (T497.setTop (mkF m 203 #[.val (.long q1), .second, .val (.long q2), .second, .val (.int p3), .val (.int p4), .val (.int (0 : Int32)), .val (.int (0 : Int32)), .val (.ref cs), .val (.ref nw), .val (.ref ta), .val (.ref ex), .val (.long (q1 &&& (9223372036854775807 : Int64))), .second, .val (.ref b272), .val (.ref b288), .val (.ref a493), .val (.ref a497)] []))
  refine own_goW (fun t k => XS.aload X497.here hx rfl (hb hby at_203) rfl rfl k) ?_
  show own_GW _ _ p.tables e below s _ _ _ (T497.setTop (mkF m 205 #[.val (.long q1), .second, .val (.long q2), .second, .val (.int p3), .val (.int p4), .val (.int (0 : Int32)), .val (.int (0 : Int32)), .val (.ref cs), .val (.ref nw), .val (.ref ta), .val (.ref ex), .val (.long (q1 &&& (9223372036854775807 : Int64))), .second, .val (.ref b272), .val (.ref b288), .val (.ref a493), .val (.ref a497)] [(.ref a497)]))
  refine own_goW (fun t k => XS.aload X497.here hx rfl (hb hby at_205) rfl rfl k) ?_
  show own_GW _ _ p.tables e below s _ _ _ (T497.setTop (mkF m 207 #[.val (.long q1), .second, .val (.long q2), .second, .val (.int p3), .val (.int p4), .val (.int (0 : Int32)), .val (.int (0 : Int32)), .val (.ref cs), .val (.ref nw), .val (.ref ta), .val (.ref ex), .val (.long (q1 &&& (9223372036854775807 : Int64))), .second, .val (.ref b272), .val (.ref b288), .val (.ref a493), .val (.ref a497)] [(.ref a493), (.ref a497)]))
  obtain ⟨cq505, kq505, q505a, q505b, q505c⟩ := isOf hZ497 e497 Ea497
  obtain ⟨_, _, ⟨T505, L505, k505, n505⟩, -, X505, ⟨Lc505, hQ505, l505, y505, z505⟩, st505⟩ := X497.virtualBack hx (y := (⟨"java/lang/String", "equals", "(Ljava/lang/Object;)Z"⟩ : MethodName)) (z := (⟨"java/lang/String", "equals", "(Ljava/lang/Object;)Z"⟩ : MethodName)) ho497 (mvT hZ497 (hw _ (List.mem_of_getElem? (i := 59) rfl))) (mvT hZ497 (hw _ (List.mem_of_getElem? (i := 60) rfl))) (notFace_of_selects (args := #[]) (mvT hZ497 (hw _ (List.mem_of_getElem? (i := 62) rfl)))) (mvT hZ497 (hw _ (List.mem_of_getElem? (i := 62) rfl))) (mvT hZ497 (hw _ (List.mem_of_getElem? (i := 61) rfl))) (by decide) (StrChars.Road.eqW (W := 0) hZ497 (own_wE hw) (kI := 4) (hw _ (List.mem_of_getElem? (i := 2) rfl)) Ea497 Fv497 Fc497 V497 (StrChars.Road.codOf (cs := ([70, 65, 73, 76] : List Int32)) (n := 4) rfl (by decide)) (by decide) (by decide) f500 f502 f501 f503 (StrChars.Road.codOf (cs := ([70, 65, 73, 76] : List Int32)) (n := 4) rfl (by decide)) (by decide) (by decide) (Sta.ext f499.2 S0) hcw (by decide) (by decide)) q505a q505c (g := (mkF m 207 #[.val (.long q1), .second, .val (.long q2), .second, .val (.int p3), .val (.int p4), .val (.int (0 : Int32)), .val (.int (0 : Int32)), .val (.ref cs), .val (.ref nw), .val (.ref ta), .val (.ref ex), .val (.long (q1 &&& (9223372036854775807 : Int64))), .second, .val (.ref b272), .val (.ref b288), .val (.ref a493), .val (.ref a497)] [(.ref a493), (.ref a497)])) rfl (by rw [hml]; rfl) (Steps.refl _) (argsL := [(.ref a493)]) (rest := []) (lenOf pd__Ljava_lang_Object__Z rfl) rfl (by show 2 * 0 + _ ≤ _; exact Nat.le_of_eq rfl) (hb hby at_207) (fun _ _ => ⟨rfl, e497, (by decide : 26 + 0 ≤ _), (by decide : 162 + 0 ≤ _)⟩)
  dsimp only [Pt.U, Pt.locs, Pt.cells, Pt.slots] at X505 l505 y505 z505 st505 hQ505
  subst l505 y505 z505
  obtain ⟨hv505, rfl, hh505⟩ := hQ505
  obtain ⟨rfl, -⟩ := hv505.resolve_right (fun q => q.2 rfl)
  have N505q := Fr.nil n0
  have N505 := Fr.app N493 N505q
  refine own_goW (fun t k => st505.trans k) ?_
  show own_GW _ _ p.tables e below s _ _ _ (T505.setTop (mkF m 210 #[.val (.long q1), .second, .val (.long q2), .second, .val (.int p3), .val (.int p4), .val (.int (0 : Int32)), .val (.int (0 : Int32)), .val (.ref cs), .val (.ref nw), .val (.ref ta), .val (.ref ex), .val (.long (q1 &&& (9223372036854775807 : Int64))), .second, .val (.ref b272), .val (.ref b288), .val (.ref a493), .val (.ref a497)] [(.int (1 : Int32))]))
  exact own_retNW X505 hx hlk hS497 (by rw [hh505]; exact hk497) hZ497 (own_hEL hw) (by rw [hh505]; exact C498) (t := .boolean) (z' := (1 : Int32)) hret (by simp) (hb hby at_210) (rfl) (hQ _ _ N505) (Nat.le_trans (by decide) hkk) (Nat.le_trans (by decide) hnn)
set_option maxRecDepth 65536 in
set_option maxHeartbeats 40000000 in
theorem own_tail_01 {p : Program} {l : Launch} {e : Env} {s : State} {m : MethodId} {args : Array Value} {below : List Frame} {meth : Method} {c : Code} {T0 : State} {locs : List Loc} {Z : State} {a0 : Array Value} {h1 : Heap} {n0 k0 kk nn : Nat} {vm0 : Vm} {Q : Option Value → Heap → List Loc → Prop} (q1 q2 : Int64) (p3 p4 w0 : Int32) (cs nw ta ex : Addr)
    (X0 : Stand p l e room_1 (s.setVm vm0) m args below meth c T0 locs 8 52) (hx : p.tables.exec = Jvm.exec) (hlk : meth.locks = false) (hZ : Z.Warmed39 (s.setVm vm0).vm) (hw : ∀ d ∈ tables_1, d.before a0 Z = true) (hby : c.code = code) (hml : c.maxLocals = 18) (hown : (s.setVm vm0).vm.findClass "com/example/vouchsafe/vouchsafe/AuditTallyLastPinLaw" = some m.cls) (hret : meth.sig.returnType = some .boolean) (e0 : T0.heap = h1) (Z1 : n0 ≤ h1.size) (N0 : Fr n0 locs) (O0 : Old Z n0 h1) (S0 : Sta Z Z.heap "java/lang/String" "COMPACT_STRINGS" "Z" (.int w0)) (hcw : ¬ w0 = 0) (hS0 : s.Since vm0 k0) (hk0 : k0 ≤ h1.size) (C0 : CHr Z own_EL s.vm s.heap vm0 h1)
    (hQ : ∀ h L, Fr n0 L → Q (some (.int 1)) h L) (hkk : 48 ≤ kk) (hnn : 11456 ≤ nn) : own_GW Z own_EL p.tables e below s Q kk nn (T0.setTop (mkF m 122 #[.val (.long q1), .second, .val (.long q2), .second, .val (.int p3), .val (.int p4), .val (.int (0 : Int32)), .val (.int (1 : Int32)), .val (.ref cs), .val (.ref nw), .val (.ref ta), .val (.ref ex), .unset, .unset, .unset, .unset, .unset, .unset] [])) := by
  refine own_goW (fun t k => XS.lloadN X0.here hx rfl (hb hby at_122) rfl k) ?_
  show own_GW _ _ p.tables e below s _ _ _ (T0.setTop (mkF m 123 #[.val (.long q1), .second, .val (.long q2), .second, .val (.int p3), .val (.int p4), .val (.int (0 : Int32)), .val (.int (1 : Int32)), .val (.ref cs), .val (.ref nw), .val (.ref ta), .val (.ref ex), .unset, .unset, .unset, .unset, .unset, .unset] [(.long q1)]))
  refine own_goW (fun t k => X0.ldc2Long hx hown (mvT hZ (hw _ (List.mem_of_getElem? (i := 64) rfl))) (g := (mkF m 123 #[.val (.long q1), .second, .val (.long q2), .second, .val (.int p3), .val (.int p4), .val (.int (0 : Int32)), .val (.int (1 : Int32)), .val (.ref cs), .val (.ref nw), .val (.ref ta), .val (.ref ex), .unset, .unset, .unset, .unset, .unset, .unset] [(.long q1)])) rfl (hb hby at_123) _ k) ?_
  show own_GW _ _ p.tables e below s _ _ _ (T0.setTop (mkF m 126 #[.val (.long q1), .second, .val (.long q2), .second, .val (.int p3), .val (.int p4), .val (.int (0 : Int32)), .val (.int (1 : Int32)), .val (.ref cs), .val (.ref nw), .val (.ref ta), .val (.ref ex), .unset, .unset, .unset, .unset, .unset, .unset] [(.long (9223372036854775807 : Int64)), (.long q1)]))
  refine own_goW (fun t k => XS.land X0.here hx rfl (hb hby at_126) rfl k) ?_
  show own_GW _ _ p.tables e below s _ _ _ (T0.setTop (mkF m 127 #[.val (.long q1), .second, .val (.long q2), .second, .val (.int p3), .val (.int p4), .val (.int (0 : Int32)), .val (.int (1 : Int32)), .val (.ref cs), .val (.ref nw), .val (.ref ta), .val (.ref ex), .unset, .unset, .unset, .unset, .unset, .unset] [(.long (q1 &&& (9223372036854775807 : Int64)))]))
  refine own_goW (fun t k => XS.lstore X0.here hx rfl (hb hby at_127) rfl (l' := #[.val (.long q1), .second, .val (.long q2), .second, .val (.int p3), .val (.int p4), .val (.int (0 : Int32)), .val (.int (1 : Int32)), .val (.ref cs), .val (.ref nw), .val (.ref ta), .val (.ref ex), .val (.long (q1 &&& (9223372036854775807 : Int64))), .second, .unset, .unset, .unset, .unset]) rfl k) ?_
  show own_GW _ _ p.tables e below s _ _ _ (T0.setTop (mkF m 129 #[.val (.long q1), .second, .val (.long q2), .second, .val (.int p3), .val (.int p4), .val (.int (0 : Int32)), .val (.int (1 : Int32)), .val (.ref cs), .val (.ref nw), .val (.ref ta), .val (.ref ex), .val (.long (q1 &&& (9223372036854775807 : Int64))), .second, .unset, .unset, .unset, .unset] []))
  obtain ⟨T506, h506, X506, e506, E506, A506, D506, -, st506⟩ := newO X0 hx hZ hown (hw _ (List.mem_of_getElem? (i := 30) rfl)) (hw _ (List.mem_of_getElem? (i := 31) rfl)) (hw _ (List.mem_of_getElem? (i := 32) rfl)) e0 (g := (mkF m 129 #[.val (.long q1), .second, .val (.long q2), .second, .val (.int p3), .val (.int p4), .val (.int (0 : Int32)), .val (.int (1 : Int32)), .val (.ref cs), .val (.ref nw), .val (.ref ta), .val (.ref ex), .val (.long (q1 &&& (9223372036854775807 : Int64))), .second, .unset, .unset, .unset, .unset] [])) rfl (hb hby at_129) (by decide) (by decide)
  obtain ⟨b506, g506⟩ : ∃ z, z = h1.size := ⟨_, rfl⟩
  rw [← g506] at A506 D506 st506
  refine own_goW st506 ?_
  have g507 := Nat.le_trans Z1 (Nat.le_of_eq g506.symm)
  have C508 := C0.trans (CHr.ext E506 C0.1)
  have hk509 := Nat.le_trans hk0 E506.1
  have f510 := O0.ext E506
  have z511 := Nat.le_trans Z1 E506.1
  have f512 : Fld Z h506 b506 "com/example/vouchsafe/vouchsafe/AuditTally" "audits" "J" (.long (0 : Int64)) := D506 (Or.inr (hw _ (List.mem_of_getElem? (i := 43) rfl))) (ty := .long) (by decide)
  have f513 : Fld Z h506 b506 "com/example/vouchsafe/vouchsafe/AuditTally" "passed" "J" (.long (0 : Int64)) := D506 (Or.inr (hw _ (List.mem_of_getElem? (i := 45) rfl))) (ty := .long) (by decide)
  have f514 : Fld Z h506 b506 "com/example/vouchsafe/vouchsafe/AuditTally" "lastPassed" "Z" (.int (0 : Int32)) := D506 (Or.inr (hw _ (List.mem_of_getElem? (i := 47) rfl))) (ty := .boolean) (by decide)
  have f515 : Fld Z h506 b506 "com/example/vouchsafe/vouchsafe/AuditTally" "newest" "Ljava/lang/String;" .null := D506 (Or.inr (hw _ (List.mem_of_getElem? (i := 49) rfl))) (ty := (.object "java/lang/String")) (by decide)
  show own_GW _ _ p.tables e below s _ _ _ (T506.setTop (mkF m 132 #[.val (.long q1), .second, .val (.long q2), .second, .val (.int p3), .val (.int p4), .val (.int (0 : Int32)), .val (.int (1 : Int32)), .val (.ref cs), .val (.ref nw), .val (.ref ta), .val (.ref ex), .val (.long (q1 &&& (9223372036854775807 : Int64))), .second, .unset, .unset, .unset, .unset] [(.ref b506)]))
  refine own_goW (fun t k => XS.dup X506.here hx rfl (hb hby at_132) rfl rfl k) ?_
  show own_GW _ _ p.tables e below s _ _ _ (T506.setTop (mkF m 133 #[.val (.long q1), .second, .val (.long q2), .second, .val (.int p3), .val (.int p4), .val (.int (0 : Int32)), .val (.int (1 : Int32)), .val (.ref cs), .val (.ref nw), .val (.ref ta), .val (.ref ex), .val (.long (q1 &&& (9223372036854775807 : Int64))), .second, .unset, .unset, .unset, .unset] [(.ref b506), (.ref b506)]))
  refine own_goW (fun t k => XS.lload X506.here hx rfl (hb hby at_133) rfl k) ?_
  show own_GW _ _ p.tables e below s _ _ _ (T506.setTop (mkF m 135 #[.val (.long q1), .second, .val (.long q2), .second, .val (.int p3), .val (.int p4), .val (.int (0 : Int32)), .val (.int (1 : Int32)), .val (.ref cs), .val (.ref nw), .val (.ref ta), .val (.ref ex), .val (.long (q1 &&& (9223372036854775807 : Int64))), .second, .unset, .unset, .unset, .unset] [(.long (q1 &&& (9223372036854775807 : Int64))), (.ref b506), (.ref b506)]))
  refine own_goW (fun t k => XS.lloadN X506.here hx rfl (hb hby at_135) rfl k) ?_
  show own_GW _ _ p.tables e below s _ _ _ (T506.setTop (mkF m 136 #[.val (.long q1), .second, .val (.long q2), .second, .val (.int p3), .val (.int p4), .val (.int (0 : Int32)), .val (.int (1 : Int32)), .val (.ref cs), .val (.ref nw), .val (.ref ta), .val (.ref ex), .val (.long (q1 &&& (9223372036854775807 : Int64))), .second, .unset, .unset, .unset, .unset] [(.long q2), (.long (q1 &&& (9223372036854775807 : Int64))), (.ref b506), (.ref b506)]))
  refine own_goW (fun t k => XS.iload X506.here hx rfl (hb hby at_136) rfl k) ?_
  show own_GW _ _ p.tables e below s _ _ _ (T506.setTop (mkF m 138 #[.val (.long q1), .second, .val (.long q2), .second, .val (.int p3), .val (.int p4), .val (.int (0 : Int32)), .val (.int (1 : Int32)), .val (.ref cs), .val (.ref nw), .val (.ref ta), .val (.ref ex), .val (.long (q1 &&& (9223372036854775807 : Int64))), .second, .unset, .unset, .unset, .unset] [(.int (0 : Int32)), (.long q2), (.long (q1 &&& (9223372036854775807 : Int64))), (.ref b506), (.ref b506)]))
  refine own_goW (fun t k => XS.aload X506.here hx rfl (hb hby at_138) rfl rfl k) ?_
  show own_GW _ _ p.tables e below s _ _ _ (T506.setTop (mkF m 140 #[.val (.long q1), .second, .val (.long q2), .second, .val (.int p3), .val (.int p4), .val (.int (0 : Int32)), .val (.int (1 : Int32)), .val (.ref cs), .val (.ref nw), .val (.ref ta), .val (.ref ex), .val (.long (q1 &&& (9223372036854775807 : Int64))), .second, .unset, .unset, .unset, .unset] [(.ref nw), (.int (0 : Int32)), (.long q2), (.long (q1 &&& (9223372036854775807 : Int64))), (.ref b506), (.ref b506)]))
  obtain ⟨_, _, ⟨T516, L516, k516, n516⟩, -, X516, ⟨Lc516, hQ516, l516, y516, z516⟩, st516⟩ := X506.specialBack hx (y := (⟨"com/example/vouchsafe/vouchsafe/AuditTally", "<init>", "(JJZLjava/lang/String;)V"⟩ : MethodName)) rfl hown (mvT hZ (hw _ (List.mem_of_getElem? (i := 33) rfl))) (mvT hZ (hw _ (List.mem_of_getElem? (i := 34) rfl))) (mvT hZ (hw _ (List.mem_of_getElem? (i := 35) rfl))) (by decide) (backOf (W := 1) (rma0 l Z a0 hw [] b506 nw (q1 &&& (9223372036854775807 : Int64)) q2 h506 n0 z511 A506 f512 f513 f514 f515 g507) hZ (hw _ (List.mem_of_getElem? (i := 35) rfl)) (hw _ (List.mem_of_getElem? (i := 32) rfl)) (by decide) (by decide)) (g := (mkF m 140 #[.val (.long q1), .second, .val (.long q2), .second, .val (.int p3), .val (.int p4), .val (.int (0 : Int32)), .val (.int (1 : Int32)), .val (.ref cs), .val (.ref nw), .val (.ref ta), .val (.ref ex), .val (.long (q1 &&& (9223372036854775807 : Int64))), .second, .unset, .unset, .unset, .unset] [(.ref nw), (.int (0 : Int32)), (.long q2), (.long (q1 &&& (9223372036854775807 : Int64))), (.ref b506), (.ref b506)])) rfl (by rw [hml]; rfl) (Steps.refl _) (a := b506) (argsL := [(.long (q1 &&& (9223372036854775807 : Int64))), (.long q2), (.int (0 : Int32)), (.ref nw)]) (rest := [(.ref b506)]) (lenOf pd__JJZLjava_lang_String__V rfl) rfl (by show 2 * 0 + _ ≤ _; exact Nat.le_of_eq rfl) (hb hby at_140) (fun _ _ => ⟨rfl, e506, (by decide : 9 + 0 ≤ _), (by decide : 56 + 0 ≤ _)⟩)
  dsimp only [Pt.U, Pt.locs, Pt.cells, Pt.slots] at X516 l516 y516 z516 st516 hQ516
  subst l516 y516 z516
  obtain ⟨rfl, N516q, K516, Fa516, Fp516, Fl516⟩ := hQ516
  have N516 := Fr.app N0 N516q
  refine own_goW (fun t k => st516.trans k) ?_
  have C517 := C508.trans (CHr.keep K516 (fun x => (fun q => (List.mem_cons.mp q).elim (fun e => e ▸ (Safe.exa hZ.alike A506 (by decide) (by decide))) (fun q => nomatch q))) C508.1)
  have hk518 := Nat.le_trans hk509 K516.1
  have f519 := f510.keep K516 (fun x => (fun q => (List.mem_cons.mp q).elim (fun e => e ▸ g507) (fun q => nomatch q)))
  have f520 := A506.keep K516
  have z521 := Nat.le_trans z511 K516.1
  show own_GW _ _ p.tables e below s _ _ _ (T516.setTop (mkF m 143 #[.val (.long q1), .second, .val (.long q2), .second, .val (.int p3), .val (.int p4), .val (.int (0 : Int32)), .val (.int (1 : Int32)), .val (.ref cs), .val (.ref nw), .val (.ref ta), .val (.ref ex), .val (.long (q1 &&& (9223372036854775807 : Int64))), .second, .unset, .unset, .unset, .unset] [(.ref b506)]))
  refine own_goW (fun t k => XS.astore X516.here hx rfl (hb hby at_143) rfl rfl (l' := #[.val (.long q1), .second, .val (.long q2), .second, .val (.int p3), .val (.int p4), .val (.int (0 : Int32)), .val (.int (1 : Int32)), .val (.ref cs), .val (.ref nw), .val (.ref ta), .val (.ref ex), .val (.long (q1 &&& (9223372036854775807 : Int64))), .second, .val (.ref b506), .unset, .unset, .unset]) rfl k) ?_
  show own_GW _ _ p.tables e below s _ _ _ (T516.setTop (mkF m 145 #[.val (.long q1), .second, .val (.long q2), .second, .val (.int p3), .val (.int p4), .val (.int (0 : Int32)), .val (.int (1 : Int32)), .val (.ref cs), .val (.ref nw), .val (.ref ta), .val (.ref ex), .val (.long (q1 &&& (9223372036854775807 : Int64))), .second, .val (.ref b506), .unset, .unset, .unset] []))
  obtain ⟨T522, h522, X522, e522, E522, A522, D522, -, st522⟩ := newO X516 hx hZ hown (hw _ (List.mem_of_getElem? (i := 65) rfl)) (hw _ (List.mem_of_getElem? (i := 66) rfl)) (hw _ (List.mem_of_getElem? (i := 67) rfl)) rfl (g := (mkF m 145 #[.val (.long q1), .second, .val (.long q2), .second, .val (.int p3), .val (.int p4), .val (.int (0 : Int32)), .val (.int (1 : Int32)), .val (.ref cs), .val (.ref nw), .val (.ref ta), .val (.ref ex), .val (.long (q1 &&& (9223372036854775807 : Int64))), .second, .val (.ref b506), .unset, .unset, .unset] [])) rfl (hb hby at_145) (by decide) (by decide)
  obtain ⟨b522, g522⟩ : ∃ z, z = T516.heap.size := ⟨_, rfl⟩
  rw [← g522] at A522 D522 st522
  refine own_goW st522 ?_
  have g523 := Nat.le_trans z521 (Nat.le_of_eq g522.symm)
  have n524 := Nat.ne_of_lt (Nat.lt_of_lt_of_le f520.lt (Nat.le_of_eq g522.symm))
  have C525 := C517.trans (CHr.ext E522 C517.1)
  have hk526 := Nat.le_trans hk518 E522.1
  have f527 := f519.ext E522
  have f528 := Exa.ext E522 f520
  have f529 := Fld.ext E522 Fa516
  have f530 := Fld.ext E522 Fp516
  have z531 := Nat.le_trans z521 E522.1
  have f532 : Fld Z h522 b522 "com/example/vouchsafe/vouchsafe/LogEntry" "eid" "Ljava/lang/String;" .null := D522 (Or.inr (hw _ (List.mem_of_getElem? (i := 76) rfl))) (ty := (.object "java/lang/String")) (by decide)
  have f533 : Fld Z h522 b522 "com/example/vouchsafe/vouchsafe/LogEntry" "prev" "Ljava/lang/String;" .null := D522 (Or.inr (hw _ (List.mem_of_getElem? (i := 78) rfl))) (ty := (.object "java/lang/String")) (by decide)
  have f534 : Fld Z h522 b522 "com/example/vouchsafe/vouchsafe/LogEntry" "group" "Ljava/lang/String;" .null := D522 (Or.inr (hw _ (List.mem_of_getElem? (i := 80) rfl))) (ty := (.object "java/lang/String")) (by decide)
  have f535 : Fld Z h522 b522 "com/example/vouchsafe/vouchsafe/LogEntry" "result" "Ljava/lang/String;" .null := D522 (Or.inr (hw _ (List.mem_of_getElem? (i := 82) rfl))) (ty := (.object "java/lang/String")) (by decide)
  have f536 : Fld Z h522 b522 "com/example/vouchsafe/vouchsafe/LogEntry" "time" "Ljava/lang/String;" .null := D522 (Or.inr (hw _ (List.mem_of_getElem? (i := 84) rfl))) (ty := (.object "java/lang/String")) (by decide)
  have f537 : Fld Z h522 b522 "com/example/vouchsafe/vouchsafe/LogEntry" "signature" "[B" .null := D522 (Or.inr (hw _ (List.mem_of_getElem? (i := 86) rfl))) (ty := (.array .byte)) (by decide)
  show own_GW _ _ p.tables e below s _ _ _ (T522.setTop (mkF m 148 #[.val (.long q1), .second, .val (.long q2), .second, .val (.int p3), .val (.int p4), .val (.int (0 : Int32)), .val (.int (1 : Int32)), .val (.ref cs), .val (.ref nw), .val (.ref ta), .val (.ref ex), .val (.long (q1 &&& (9223372036854775807 : Int64))), .second, .val (.ref b506), .unset, .unset, .unset] [(.ref b522)]))
  refine own_goW (fun t k => XS.dup X522.here hx rfl (hb hby at_148) rfl rfl k) ?_
  show own_GW _ _ p.tables e below s _ _ _ (T522.setTop (mkF m 149 #[.val (.long q1), .second, .val (.long q2), .second, .val (.int p3), .val (.int p4), .val (.int (0 : Int32)), .val (.int (1 : Int32)), .val (.ref cs), .val (.ref nw), .val (.ref ta), .val (.ref ex), .val (.long (q1 &&& (9223372036854775807 : Int64))), .second, .val (.ref b506), .unset, .unset, .unset] [(.ref b522), (.ref b522)]))
  refine own_goW (fun t k => XS.aload X522.here hx rfl (hb hby at_149) rfl rfl k) ?_
  show own_GW _ _ p.tables e below s _ _ _ (T522.setTop (mkF m 151 #[.val (.long q1), .second, .val (.long q2), .second, .val (.int p3), .val (.int p4), .val (.int (0 : Int32)), .val (.int (1 : Int32)), .val (.ref cs), .val (.ref nw), .val (.ref ta), .val (.ref ex), .val (.long (q1 &&& (9223372036854775807 : Int64))), .second, .val (.ref b506), .unset, .unset, .unset] [(.ref nw), (.ref b522), (.ref b522)]))
  obtain ⟨a538, T538, h538, k538, b538, kk538, X538, e538, E538, hS538, hk538, hZ538, ho538, Ea538, Fc538, Fv538, V538, la538, lb538, C538', Li538, sf538, st538⟩ := ldcCH X522 hx hZ hown (hw _ (List.mem_of_getElem? (i := 68) rfl)) (own_wS hw) e522 hS0 hk526 (own_hEL hw) (List.mem_of_getElem? (i := 6) rfl) C525.1 (vs := []) (z := (0 : Int32)) ⟨by decide, rfl⟩ (by decide) rfl (g := (mkF m 151 #[.val (.long q1), .second, .val (.long q2), .second, .val (.int p3), .val (.int p4), .val (.int (0 : Int32)), .val (.int (1 : Int32)), .val (.ref cs), .val (.ref nw), .val (.ref ta), .val (.ref ex), .val (.long (q1 &&& (9223372036854775807 : Int64))), .second, .val (.ref b506), .unset, .unset, .unset] [(.ref nw), (.ref b522), (.ref b522)])) rfl (hb hby at_151) (n := 0) (by decide) (by decide) (by decide) (by decide)
  refine own_goW st538 ?_
  have C539 := C525.trans C538'
  have f540 := f527.ext E538
  have f541 := Exa.ext E538 f528
  have f542 := Fld.ext E538 f529
  have f543 := Fld.ext E538 f530
  have f544 := Exa.ext E538 A522
  have f545 := Fld.ext E538 f532
  have f546 := Fld.ext E538 f533
  have f547 := Fld.ext E538 f534
  have f548 := Fld.ext E538 f535
  have f549 := Fld.ext E538 f536
  have f550 := Fld.ext E538 f537
  have z551 := Nat.le_trans z531 E538.1
  have n552 := ne_exa Ea538 f541 (by decide)
  have n553 := (Exa.neArv f541 V538 (hw _ (List.mem_of_getElem? (i := 31) rfl))).symm
  have n554 := ne_exa Ea538 f544 (by decide)
  have n555 := (Exa.neArv f544 V538 (hw _ (List.mem_of_getElem? (i := 66) rfl))).symm
  show own_GW _ _ p.tables e below s _ _ _ (T538.setTop (mkF m 153 #[.val (.long q1), .second, .val (.long q2), .second, .val (.int p3), .val (.int p4), .val (.int (0 : Int32)), .val (.int (1 : Int32)), .val (.ref cs), .val (.ref nw), .val (.ref ta), .val (.ref ex), .val (.long (q1 &&& (9223372036854775807 : Int64))), .second, .val (.ref b506), .unset, .unset, .unset] [(.ref a538), (.ref nw), (.ref b522), (.ref b522)]))
  obtain ⟨a556, T556, h556, k556, b556, kk556, X556, e556, E556, hS556, hk556, hZ556, ho556, Ea556, Fc556, Fv556, V556, la556, lb556, C556', Li556, sf556, st556⟩ := ldcCH X538 hx hZ538 ho538 (hw _ (List.mem_of_getElem? (i := 69) rfl)) (own_wS hw) e538 hS538 hk538 (own_hEL hw) (List.mem_of_getElem? (i := 7) rfl) C539.1 (vs := [(.int (103 : Int32))]) (z := (1 : Int32)) ⟨by decide, rfl⟩ (by decide) rfl (g := (mkF m 153 #[.val (.long q1), .second, .val (.long q2), .second, .val (.int p3), .val (.int p4), .val (.int (0 : Int32)), .val (.int (1 : Int32)), .val (.ref cs), .val (.ref nw), .val (.ref ta), .val (.ref ex), .val (.long (q1 &&& (9223372036854775807 : Int64))), .second, .val (.ref b506), .unset, .unset, .unset] [(.ref a538), (.ref nw), (.ref b522), (.ref b522)])) rfl (hb hby at_153) (n := 4) (by decide) (by decide) (by decide) (by decide)
  refine own_goW st556 ?_
  have C557 := C539.trans C556'
  have f558 := f540.ext E556
  have f559 := Exa.ext E556 f541
  have f560 := Fld.ext E556 f542
  have f561 := Fld.ext E556 f543
  have f562 := Exa.ext E556 f544
  have f563 := Fld.ext E556 f545
  have f564 := Fld.ext E556 f546
  have f565 := Fld.ext E556 f547
  have f566 := Fld.ext E556 f548
  have f567 := Fld.ext E556 f549
  have f568 := Fld.ext E556 f550
  have f569 := Exa.ext E556 Ea538
  have f570 := Fld.ext E556 Fc538
  have f571 := Fld.ext E556 Fv538
  have f572 := V538.ext E556
  have z573 := Nat.le_trans z551 E556.1
  have n574 := ne_exa Ea556 f559 (by decide)
  have n575 := (Exa.neArv f559 V556 (hw _ (List.mem_of_getElem? (i := 31) rfl))).symm
  have n576 := ne_exa Ea556 f562 (by decide)
  have n577 := (Exa.neArv f562 V556 (hw _ (List.mem_of_getElem? (i := 66) rfl))).symm
  show own_GW _ _ p.tables e below s _ _ _ (T556.setTop (mkF m 155 #[.val (.long q1), .second, .val (.long q2), .second, .val (.int p3), .val (.int p4), .val (.int (0 : Int32)), .val (.int (1 : Int32)), .val (.ref cs), .val (.ref nw), .val (.ref ta), .val (.ref ex), .val (.long (q1 &&& (9223372036854775807 : Int64))), .second, .val (.ref b506), .unset, .unset, .unset] [(.ref a556), (.ref a538), (.ref nw), (.ref b522), (.ref b522)]))
  refine own_goW (fun t k => XS.iload X556.here hx rfl (hb hby at_155) rfl k) ?_
  show own_GW _ _ p.tables e below s _ _ _ (T556.setTop (mkF m 157 #[.val (.long q1), .second, .val (.long q2), .second, .val (.int p3), .val (.int p4), .val (.int (0 : Int32)), .val (.int (1 : Int32)), .val (.ref cs), .val (.ref nw), .val (.ref ta), .val (.ref ex), .val (.long (q1 &&& (9223372036854775807 : Int64))), .second, .val (.ref b506), .unset, .unset, .unset] [(.int (1 : Int32)), (.ref a556), (.ref a538), (.ref nw), (.ref b522), (.ref b522)]))
  refine own_goW (fun t k => XS.ifNo X556.here hx rfl (hb hby at_157) rfl (by decide) k) ?_
  show own_GW _ _ p.tables e below s _ _ _ (T556.setTop (mkF m 160 #[.val (.long q1), .second, .val (.long q2), .second, .val (.int p3), .val (.int p4), .val (.int (0 : Int32)), .val (.int (1 : Int32)), .val (.ref cs), .val (.ref nw), .val (.ref ta), .val (.ref ex), .val (.long (q1 &&& (9223372036854775807 : Int64))), .second, .val (.ref b506), .unset, .unset, .unset] [(.ref a556), (.ref a538), (.ref nw), (.ref b522), (.ref b522)]))
  obtain ⟨a578, T578, h578, k578, b578, kk578, X578, e578, E578, hS578, hk578, hZ578, ho578, Ea578, Fc578, Fv578, V578, la578, lb578, C578', Li578, sf578, st578⟩ := ldcCH X556 hx hZ556 ho556 (hw _ (List.mem_of_getElem? (i := 113) rfl)) (own_wS hw) e556 hS556 hk556 (own_hEL hw) (List.mem_of_getElem? (i := 8) rfl) C557.1 (vs := [(.int (112 : Int32)), (.int (97 : Int32)), (.int (115 : Int32)), (.int (115 : Int32))]) (z := (4 : Int32)) ⟨by decide, rfl⟩ (by decide) rfl (g := (mkF m 160 #[.val (.long q1), .second, .val (.long q2), .second, .val (.int p3), .val (.int p4), .val (.int (0 : Int32)), .val (.int (1 : Int32)), .val (.ref cs), .val (.ref nw), .val (.ref ta), .val (.ref ex), .val (.long (q1 &&& (9223372036854775807 : Int64))), .second, .val (.ref b506), .unset, .unset, .unset] [(.ref a556), (.ref a538), (.ref nw), (.ref b522), (.ref b522)])) rfl (hb hby at_160) (n := 16) (by decide) (by decide) (by decide) (by decide)
  refine own_goW st578 ?_
  have C579 := C557.trans C578'
  have f580 := f558.ext E578
  have f581 := Exa.ext E578 f559
  have f582 := Fld.ext E578 f560
  have f583 := Fld.ext E578 f561
  have f584 := Exa.ext E578 f562
  have f585 := Fld.ext E578 f563
  have f586 := Fld.ext E578 f564
  have f587 := Fld.ext E578 f565
  have f588 := Fld.ext E578 f566
  have f589 := Fld.ext E578 f567
  have f590 := Fld.ext E578 f568
  have f591 := Exa.ext E578 f569
  have f592 := Fld.ext E578 f570
  have f593 := Fld.ext E578 f571
  have f594 := f572.ext E578
  have f595 := Exa.ext E578 Ea556
  have f596 := Fld.ext E578 Fc556
  have f597 := Fld.ext E578 Fv556
  have f598 := V556.ext E578
  have z599 := Nat.le_trans z573 E578.1
  have n600 := ne_exa Ea578 f581 (by decide)
  have n601 := (Exa.neArv f581 V578 (hw _ (List.mem_of_getElem? (i := 31) rfl))).symm
  have n602 := ne_exa Ea578 f584 (by decide)
  have n603 := (Exa.neArv f584 V578 (hw _ (List.mem_of_getElem? (i := 66) rfl))).symm
  show own_GW _ _ p.tables e below s _ _ _ (T578.setTop (mkF m 162 #[.val (.long q1), .second, .val (.long q2), .second, .val (.int p3), .val (.int p4), .val (.int (0 : Int32)), .val (.int (1 : Int32)), .val (.ref cs), .val (.ref nw), .val (.ref ta), .val (.ref ex), .val (.long (q1 &&& (9223372036854775807 : Int64))), .second, .val (.ref b506), .unset, .unset, .unset] [(.ref a578), (.ref a556), (.ref a538), (.ref nw), (.ref b522), (.ref b522)]))
  refine own_goW (fun t k => XS.goto X578.here hx rfl (pc0 := 162) (pc' := 167) rfl (hb hby at_162) (by decide) (by decide) k) ?_
  show own_GW _ _ p.tables e below s _ _ _ (T578.setTop (mkF m 167 #[.val (.long q1), .second, .val (.long q2), .second, .val (.int p3), .val (.int p4), .val (.int (0 : Int32)), .val (.int (1 : Int32)), .val (.ref cs), .val (.ref nw), .val (.ref ta), .val (.ref ex), .val (.long (q1 &&& (9223372036854775807 : Int64))), .second, .val (.ref b506), .unset, .unset, .unset] [(.ref a578), (.ref a556), (.ref a538), (.ref nw), (.ref b522), (.ref b522)]))
  obtain ⟨a604, T604, h604, k604, b604, kk604, X604, e604, E604, hS604, hk604, hZ604, ho604, Ea604, Fc604, Fv604, V604, la604, lb604, C604', Li604, sf604, st604⟩ := ldcCH X578 hx hZ578 ho578 (hw _ (List.mem_of_getElem? (i := 68) rfl)) (own_wS hw) e578 hS578 hk578 (own_hEL hw) (List.mem_of_getElem? (i := 6) rfl) C579.1 (vs := []) (z := (0 : Int32)) ⟨by decide, rfl⟩ (by decide) rfl (g := (mkF m 167 #[.val (.long q1), .second, .val (.long q2), .second, .val (.int p3), .val (.int p4), .val (.int (0 : Int32)), .val (.int (1 : Int32)), .val (.ref cs), .val (.ref nw), .val (.ref ta), .val (.ref ex), .val (.long (q1 &&& (9223372036854775807 : Int64))), .second, .val (.ref b506), .unset, .unset, .unset] [(.ref a578), (.ref a556), (.ref a538), (.ref nw), (.ref b522), (.ref b522)])) rfl (hb hby at_167) (n := 0) (by decide) (by decide) (by decide) (by decide)
  refine own_goW st604 ?_
  have C605 := C579.trans C604'
  have f606 := f580.ext E604
  have f607 := Exa.ext E604 f581
  have f608 := Fld.ext E604 f582
  have f609 := Fld.ext E604 f583
  have f610 := Exa.ext E604 f584
  have f611 := Fld.ext E604 f585
  have f612 := Fld.ext E604 f586
  have f613 := Fld.ext E604 f587
  have f614 := Fld.ext E604 f588
  have f615 := Fld.ext E604 f589
  have f616 := Fld.ext E604 f590
  have f617 := Exa.ext E604 f591
  have f618 := Fld.ext E604 f592
  have f619 := Fld.ext E604 f593
  have f620 := f594.ext E604
  have f621 := Exa.ext E604 f595
  have f622 := Fld.ext E604 f596
  have f623 := Fld.ext E604 f597
  have f624 := f598.ext E604
  have f625 := Exa.ext E604 Ea578
  have f626 := Fld.ext E604 Fc578
  have f627 := Fld.ext E604 Fv578
  have f628 := V578.ext E604
  have z629 := Nat.le_trans z599 E604.1
  have n630 := ne_exa Ea604 f607 (by decide)
  have n631 := (Exa.neArv f607 V604 (hw _ (List.mem_of_getElem? (i := 31) rfl))).symm
  have n632 := ne_exa Ea604 f610 (by decide)
  have n633 := (Exa.neArv f610 V604 (hw _ (List.mem_of_getElem? (i := 66) rfl))).symm
  show own_GW _ _ p.tables e below s _ _ _ (T604.setTop (mkF m 169 #[.val (.long q1), .second, .val (.long q2), .second, .val (.int p3), .val (.int p4), .val (.int (0 : Int32)), .val (.int (1 : Int32)), .val (.ref cs), .val (.ref nw), .val (.ref ta), .val (.ref ex), .val (.long (q1 &&& (9223372036854775807 : Int64))), .second, .val (.ref b506), .unset, .unset, .unset] [(.ref a604), (.ref a578), (.ref a556), (.ref a538), (.ref nw), (.ref b522), (.ref b522)]))
  refine own_goW (fun t k => XS.iconst X604.here hx rfl (hb hby at_169) k) ?_
  show own_GW _ _ p.tables e below s _ _ _ (T604.setTop (mkF m 170 #[.val (.long q1), .second, .val (.long q2), .second, .val (.int p3), .val (.int p4), .val (.int (0 : Int32)), .val (.int (1 : Int32)), .val (.ref cs), .val (.ref nw), .val (.ref ta), .val (.ref ex), .val (.long (q1 &&& (9223372036854775807 : Int64))), .second, .val (.ref b506), .unset, .unset, .unset] [(.int (0 : Int32)), (.ref a604), (.ref a578), (.ref a556), (.ref a538), (.ref nw), (.ref b522), (.ref b522)]))
  obtain ⟨T634, h634, k634, X634, e634, E634, A634, st634⟩ := newP X604 hx hZ604 (hw _ (List.mem_of_getElem? (i := 19) rfl)) e604 (g := (mkF m 170 #[.val (.long q1), .second, .val (.long q2), .second, .val (.int p3), .val (.int p4), .val (.int (0 : Int32)), .val (.int (1 : Int32)), .val (.ref cs), .val (.ref nw), .val (.ref ta), .val (.ref ex), .val (.long (q1 &&& (9223372036854775807 : Int64))), .second, .val (.ref b506), .unset, .unset, .unset] [(.int (0 : Int32)), (.ref a604), (.ref a578), (.ref a556), (.ref a538), (.ref nw), (.ref b522), (.ref b522)])) rfl (hb hby at_170) rfl (by decide) (cap := 0) (by decide) (by decide) (by decide) (by decide)
  obtain ⟨b634, g634⟩ : ∃ z, z = h604.size := ⟨_, rfl⟩
  rw [← g634] at A634 st634
  refine own_goW st634 ?_
  have g635 := Nat.le_trans z629 (Nat.le_of_eq g634.symm)
  have n636 := Nat.ne_of_lt (Nat.lt_of_lt_of_le f607.lt (Nat.le_of_eq g634.symm))
  have n637 := Nat.ne_of_lt (Nat.lt_of_lt_of_le f610.lt (Nat.le_of_eq g634.symm))
  have n638 := Nat.ne_of_lt (Nat.lt_of_lt_of_le f617.lt (Nat.le_of_eq g634.symm))
  have n639 := Nat.ne_of_lt (Nat.lt_of_lt_of_le f620.lt (Nat.le_of_eq g634.symm))
  have n640 := Nat.ne_of_lt (Nat.lt_of_lt_of_le f621.lt (Nat.le_of_eq g634.symm))
  have n641 := Nat.ne_of_lt (Nat.lt_of_lt_of_le f624.lt (Nat.le_of_eq g634.symm))
  have n642 := Nat.ne_of_lt (Nat.lt_of_lt_of_le f625.lt (Nat.le_of_eq g634.symm))
  have n643 := Nat.ne_of_lt (Nat.lt_of_lt_of_le f628.lt (Nat.le_of_eq g634.symm))
  have n644 := Nat.ne_of_lt (Nat.lt_of_lt_of_le Ea604.lt (Nat.le_of_eq g634.symm))
  have n645 := Nat.ne_of_lt (Nat.lt_of_lt_of_le V604.lt (Nat.le_of_eq g634.symm))
  have C646 := C605.trans (CHr.ext E634 C605.1)
  have hk647 := Nat.le_trans hk604 E634.1
  have f648 := f606.ext E634
  have f649 := Exa.ext E634 f607
  have f650 := Fld.ext E634 f608
  have f651 := Fld.ext E634 f609
  have f652 := Exa.ext E634 f610
  have f653 := Fld.ext E634 f611
  have f654 := Fld.ext E634 f612
  have f655 := Fld.ext E634 f613
  have f656 := Fld.ext E634 f614
  have f657 := Fld.ext E634 f615
  have f658 := Fld.ext E634 f616
  have f659 := Exa.ext E634 f617
  have f660 := Fld.ext E634 f618
  have f661 := Fld.ext E634 f619
  have f662 := f620.ext E634
  have f663 := Exa.ext E634 f621
  have f664 := Fld.ext E634 f622
  have f665 := Fld.ext E634 f623
  have f666 := f624.ext E634
  have f667 := Exa.ext E634 f625
  have f668 := Fld.ext E634 f626
  have f669 := Fld.ext E634 f627
  have f670 := f628.ext E634
  have f671 := Exa.ext E634 Ea604
  have f672 := Fld.ext E634 Fc604
  have f673 := Fld.ext E634 Fv604
  have f674 := V604.ext E634
  have z675 := Nat.le_trans z629 E634.1
  show own_GW _ _ p.tables e below s _ _ _ (T634.setTop (mkF m 172 #[.val (.long q1), .second, .val (.long q2), .second, .val (.int p3), .val (.int p4), .val (.int (0 : Int32)), .val (.int (1 : Int32)), .val (.ref cs), .val (.ref nw), .val (.ref ta), .val (.ref ex), .val (.long (q1 &&& (9223372036854775807 : Int64))), .second, .val (.ref b506), .unset, .unset, .unset] [(.ref b634), (.ref a604), (.ref a578), (.ref a556), (.ref a538), (.ref nw), (.ref b522), (.ref b522)]))
  obtain ⟨_, _, ⟨T676, L676, k676, n676⟩, -, X676, ⟨Lc676, hQ676, l676, y676, z676⟩, st676⟩ := X634.specialBack hx (y := (⟨"com/example/vouchsafe/vouchsafe/LogEntry", "<init>", "(Ljava/lang/String;Ljava/lang/String;Ljava/lang/String;Ljava/lang/String;Ljava/lang/String;[B)V"⟩ : MethodName)) rfl ho604 (mvT hZ604 (hw _ (List.mem_of_getElem? (i := 71) rfl))) (mvT hZ604 (hw _ (List.mem_of_getElem? (i := 72) rfl))) (mvT hZ604 (hw _ (List.mem_of_getElem? (i := 73) rfl))) (by decide) (backOf (W := 1) (rme l Z a0 hw [] b522 nw a538 a556 a578 a604 b634 h634 n0 z675 f652 f653 f654 f655 f656 f657 f658 g523) hZ604 (hw _ (List.mem_of_getElem? (i := 73) rfl)) (hw _ (List.mem_of_getElem? (i := 67) rfl)) (by decide) (by decide)) (g := (mkF m 172 #[.val (.long q1), .second, .val (.long q2), .second, .val (.int p3), .val (.int p4), .val (.int (0 : Int32)), .val (.int (1 : Int32)), .val (.ref cs), .val (.ref nw), .val (.ref ta), .val (.ref ex), .val (.long (q1 &&& (9223372036854775807 : Int64))), .second, .val (.ref b506), .unset, .unset, .unset] [(.ref b634), (.ref a604), (.ref a578), (.ref a556), (.ref a538), (.ref nw), (.ref b522), (.ref b522)])) rfl (by rw [hml]; rfl) (Steps.refl _) (a := b522) (argsL := [(.ref nw), (.ref a538), (.ref a556), (.ref a578), (.ref a604), (.ref b634)]) (rest := [(.ref b522)]) (lenOf pd__Ljava_lang_String_Ljava_lang_String_Ljava_lang_String_Ljava_lang_String_Ljava_lang_String__B_V rfl) rfl (by show 2 * 0 + _ ≤ _; exact Nat.le_of_eq rfl) (hb hby at_172) (fun _ _ => ⟨rfl, e634, (by decide : 19 + 0 ≤ _), (by decide : 98 + 0 ≤ _)⟩)
  dsimp only [Pt.U, Pt.locs, Pt.cells, Pt.slots] at X676 l676 y676 z676 st676 hQ676
  subst l676 y676 z676
  obtain ⟨rfl, N676q, K676, Fe676, Fr676⟩ := hQ676
  have N676 := Fr.app N516 N676q
  refine own_goW (fun t k => st676.trans k) ?_
  have C677 := C646.trans (CHr.keep K676 (fun x => (fun q => (List.mem_cons.mp q).elim (fun e => e ▸ (Safe.exa hZ604.alike f652 (by decide) (by decide))) (fun q => nomatch q))) C646.1)
  have hk678 := Nat.le_trans hk647 K676.1
  have f679 := f648.keep K676 (fun x => (fun q => (List.mem_cons.mp q).elim (fun e => e ▸ g523) (fun q => nomatch q)))
  have f680 := f649.keep K676
  have f681 := f650.keep K676 (fun q => (List.mem_cons.mp q).elim n524 (fun q => nomatch q))
  have f682 := f651.keep K676 (fun q => (List.mem_cons.mp q).elim n524 (fun q => nomatch q))
  have f683 := f652.keep K676
  have f684 := f659.keep K676
  have f685 := f660.keep K676 (fun q => (List.mem_cons.mp q).elim n554 (fun q => nomatch q))
  have f686 := f661.keep K676 (fun q => (List.mem_cons.mp q).elim n554 (fun q => nomatch q))
  have f687 := f662.keep K676 (fun q => (List.mem_cons.mp q).elim n555 (fun q => nomatch q))
  have f688 := f663.keep K676
  have f689 := f664.keep K676 (fun q => (List.mem_cons.mp q).elim n576 (fun q => nomatch q))
  have f690 := f665.keep K676 (fun q => (List.mem_cons.mp q).elim n576 (fun q => nomatch q))
  have f691 := f666.keep K676 (fun q => (List.mem_cons.mp q).elim n577 (fun q => nomatch q))
  have f692 := f667.keep K676
  have f693 := f668.keep K676 (fun q => (List.mem_cons.mp q).elim n602 (fun q => nomatch q))
  have f694 := f669.keep K676 (fun q => (List.mem_cons.mp q).elim n602 (fun q => nomatch q))
  have f695 := f670.keep K676 (fun q => (List.mem_cons.mp q).elim n603 (fun q => nomatch q))
  have f696 := f671.keep K676
  have f697 := f672.keep K676 (fun q => (List.mem_cons.mp q).elim n632 (fun q => nomatch q))
  have f698 := f673.keep K676 (fun q => (List.mem_cons.mp q).elim n632 (fun q => nomatch q))
  have f699 := f674.keep K676 (fun q => (List.mem_cons.mp q).elim n633 (fun q => nomatch q))
  have z700 := Nat.le_trans z675 K676.1
  show own_GW _ _ p.tables e below s _ _ _ (T676.setTop (mkF m 175 #[.val (.long q1), .second, .val (.long q2), .second, .val (.int p3), .val (.int p4), .val (.int (0 : Int32)), .val (.int (1 : Int32)), .val (.ref cs), .val (.ref nw), .val (.ref ta), .val (.ref ex), .val (.long (q1 &&& (9223372036854775807 : Int64))), .second, .val (.ref b506), .unset, .unset, .unset] [(.ref b522)]))
  refine own_goW (fun t k => XS.astore X676.here hx rfl (hb hby at_175) rfl rfl (l' := #[.val (.long q1), .second, .val (.long q2), .second, .val (.int p3), .val (.int p4), .val (.int (0 : Int32)), .val (.int (1 : Int32)), .val (.ref cs), .val (.ref nw), .val (.ref ta), .val (.ref ex), .val (.long (q1 &&& (9223372036854775807 : Int64))), .second, .val (.ref b506), .val (.ref b522), .unset, .unset]) rfl k) ?_
  show own_GW _ _ p.tables e below s _ _ _ (T676.setTop (mkF m 177 #[.val (.long q1), .second, .val (.long q2), .second, .val (.int p3), .val (.int p4), .val (.int (0 : Int32)), .val (.int (1 : Int32)), .val (.ref cs), .val (.ref nw), .val (.ref ta), .val (.ref ex), .val (.long (q1 &&& (9223372036854775807 : Int64))), .second, .val (.ref b506), .val (.ref b522), .unset, .unset] []))
  refine own_goW (fun t k => XS.aload X676.here hx rfl (hb hby at_177) rfl rfl k) ?_
  show own_GW _ _ p.tables e below s _ _ _ (T676.setTop (mkF m 179 #[.val (.long q1), .second, .val (.long q2), .second, .val (.int p3), .val (.int p4), .val (.int (0 : Int32)), .val (.int (1 : Int32)), .val (.ref cs), .val (.ref nw), .val (.ref ta), .val (.ref ex), .val (.long (q1 &&& (9223372036854775807 : Int64))), .second, .val (.ref b506), .val (.ref b522), .unset, .unset] [(.ref b506)]))
  refine own_goW (fun t k => XS.aload X676.here hx rfl (hb hby at_179) rfl rfl k) ?_
  show own_GW _ _ p.tables e below s _ _ _ (T676.setTop (mkF m 181 #[.val (.long q1), .second, .val (.long q2), .second, .val (.int p3), .val (.int p4), .val (.int (0 : Int32)), .val (.int (1 : Int32)), .val (.ref cs), .val (.ref nw), .val (.ref ta), .val (.ref ex), .val (.long (q1 &&& (9223372036854775807 : Int64))), .second, .val (.ref b506), .val (.ref b522), .unset, .unset] [(.ref b522), (.ref b506)]))
  obtain ⟨cq701, kq701, q701a, q701b, q701c⟩ := isOf hZ604 rfl f680
  obtain ⟨_, _, ⟨T701, L701, k701, n701⟩, -, X701', sn701, gr701, ⟨Lc701, hQ701, l701, y701, z701, C701'⟩, st701⟩ := X676.virtualBackS hx (y := (⟨"com/example/vouchsafe/vouchsafe/AuditTally", "with", "(Lcom/example/vouchsafe/vouchsafe/LogEntry;)Lcom/example/vouchsafe/vouchsafe/AuditTally;"⟩ : MethodName)) (z := (⟨"com/example/vouchsafe/vouchsafe/AuditTally", "with", "(Lcom/example/vouchsafe/vouchsafe/LogEntry;)Lcom/example/vouchsafe/vouchsafe/AuditTally;"⟩ : MethodName)) ho604 (mvT hZ604 (hw _ (List.mem_of_getElem? (i := 87) rfl))) (mvT hZ604 (hw _ (List.mem_of_getElem? (i := 88) rfl))) (notFace_of_selects (args := #[]) (mvT hZ604 (hw _ (List.mem_of_getElem? (i := 90) rfl)))) (mvT hZ604 (hw _ (List.mem_of_getElem? (i := 90) rfl))) (mvT hZ604 (hw _ (List.mem_of_getElem? (i := 89) rfl))) (by decide) (backOfSH (W := 0) (rmwP l Z a0 hw [] b506 b522 nw a578 b578 kk578 w0 (q1 &&& (9223372036854775807 : Int64)) q2 T676.heap n0 z700 f683 f681 f682 Fe676 Fr676 f692 f693 f694 f695 f679 S0 hcw) hZ604 (hw _ (List.mem_of_getElem? (i := 91) rfl)) (hw _ (List.mem_of_getElem? (i := 32) rfl)) (by decide) (by decide) (own_hEL hw) C677.1) q701a q701c (g := (mkF m 181 #[.val (.long q1), .second, .val (.long q2), .second, .val (.int p3), .val (.int p4), .val (.int (0 : Int32)), .val (.int (1 : Int32)), .val (.ref cs), .val (.ref nw), .val (.ref ta), .val (.ref ex), .val (.long (q1 &&& (9223372036854775807 : Int64))), .second, .val (.ref b506), .val (.ref b522), .unset, .unset] [(.ref b522), (.ref b506)])) rfl (by rw [hml]; rfl) (Steps.refl _) (argsL := [(.ref b522)]) (rest := []) (lenOf pd__Lcom_example_vouchsafe_vouchsafe_LogEntry__Lcom_example_vouchsafe_vouchsafe_AuditTally_ rfl) rfl (by show 2 * 0 + _ ≤ _; exact Nat.le_of_eq rfl) (hb hby at_181) (fun _ _ => ⟨rfl, rfl, (by decide : 19 + 3 ≤ _), (by decide : 98 + 24 ≤ _)⟩)
  dsimp only [Pt.U, Pt.locs, Pt.cells, Pt.slots] at X701' sn701 gr701 l701 y701 z701 st701 hQ701 C701'
  subst l701 y701 z701
  obtain ⟨X701, hS701, hZ701, ho701⟩ := rebS hS604 hk678 X701' sn701 gr701 hZ604 ho604
  obtain ⟨⟨b701, rfl, Eb701, Fa701, Fl701⟩, N701q, K701⟩ := hQ701
  have N701 := Fr.app N676 N701q
  have C702 := C677.trans C701'
  refine own_goW (fun t k => st701.trans k) ?_
  have f703 := f679.keep K701 (fun x q => nomatch q)
  have f704 := f680.keep K701
  have f705 := f681.keep K701 (fun q => nomatch q)
  have f706 := f682.keep K701 (fun q => nomatch q)
  have f707 := f683.keep K701
  have f708 := f684.keep K701
  have f709 := f685.keep K701 (fun q => nomatch q)
  have f710 := f686.keep K701 (fun q => nomatch q)
  have f711 := f687.keep K701 (fun q => nomatch q)
  have f712 := f688.keep K701
  have f713 := f689.keep K701 (fun q => nomatch q)
  have f714 := f690.keep K701 (fun q => nomatch q)
  have f715 := f691.keep K701 (fun q => nomatch q)
  have f716 := f692.keep K701
  have f717 := f693.keep K701 (fun q => nomatch q)
  have f718 := f694.keep K701 (fun q => nomatch q)
  have f719 := f695.keep K701 (fun q => nomatch q)
  have f720 := f696.keep K701
  have f721 := f697.keep K701 (fun q => nomatch q)
  have f722 := f698.keep K701 (fun q => nomatch q)
  have f723 := f699.keep K701 (fun q => nomatch q)
  have f724 := Fe676.keep K701 (fun q => nomatch q)
  have f725 := Fr676.keep K701 (fun q => nomatch q)
  have z726 := Nat.le_trans z700 K701.1
  show own_GW _ _ p.tables e below s _ _ _ (T701.setTop (mkF m 184 #[.val (.long q1), .second, .val (.long q2), .second, .val (.int p3), .val (.int p4), .val (.int (0 : Int32)), .val (.int (1 : Int32)), .val (.ref cs), .val (.ref nw), .val (.ref ta), .val (.ref ex), .val (.long (q1 &&& (9223372036854775807 : Int64))), .second, .val (.ref b506), .val (.ref b522), .unset, .unset] [(.ref b701)]))
  obtain ⟨cq727, kq727, q727a, q727b, q727c⟩ := isOf hZ701 rfl Eb701
  obtain ⟨_, _, ⟨T727, L727, k727, n727⟩, -, X727', sn727, gr727, ⟨Lc727, hQ727, l727, y727, z727, C727'⟩, st727⟩ := X701.virtualBackS hx (y := (⟨"com/example/vouchsafe/vouchsafe/AuditTally", "last", "()Ljava/lang/String;"⟩ : MethodName)) (z := (⟨"com/example/vouchsafe/vouchsafe/AuditTally", "last", "()Ljava/lang/String;"⟩ : MethodName)) ho701 (mvT hZ701 (hw _ (List.mem_of_getElem? (i := 53) rfl))) (mvT hZ701 (hw _ (List.mem_of_getElem? (i := 54) rfl))) (notFace_of_selects (args := #[]) (mvT hZ701 (hw _ (List.mem_of_getElem? (i := 56) rfl)))) (mvT hZ701 (hw _ (List.mem_of_getElem? (i := 56) rfl))) (mvT hZ701 (hw _ (List.mem_of_getElem? (i := 55) rfl))) (by decide) (backOfSH (W := 0) (rmlP l Z a0 hw [] b701 ((q1 &&& (9223372036854775807 : Int64)) + (1 : Int64)) T701.heap n0 z726 Fa701 (own_more q1) Fl701) hZ701 (hw _ (List.mem_of_getElem? (i := 57) rfl)) (hw _ (List.mem_of_getElem? (i := 32) rfl)) (by decide) (by decide) (own_hEL hw) C702.1) q727a q727c (g := (mkF m 184 #[.val (.long q1), .second, .val (.long q2), .second, .val (.int p3), .val (.int p4), .val (.int (0 : Int32)), .val (.int (1 : Int32)), .val (.ref cs), .val (.ref nw), .val (.ref ta), .val (.ref ex), .val (.long (q1 &&& (9223372036854775807 : Int64))), .second, .val (.ref b506), .val (.ref b522), .unset, .unset] [(.ref b701)])) rfl (by rw [hml]; rfl) (Steps.refl _) (argsL := []) (rest := []) (lenOf pd___Ljava_lang_String_ rfl) rfl (by show 2 * 0 + _ ≤ _; exact Nat.le_of_eq rfl) (hb hby at_184) (fun _ _ => ⟨rfl, rfl, (by decide : 22 + 2 ≤ _), (by decide : 122 + 20 ≤ _)⟩)
  dsimp only [Pt.U, Pt.locs, Pt.cells, Pt.slots] at X727' sn727 gr727 l727 y727 z727 st727 hQ727 C727'
  subst l727 y727 z727
  obtain ⟨X727, hS727, hZ727, ho727⟩ := rebS hS701 (Nat.le_refl _) X727' sn727 gr727 hZ701 ho701
  obtain ⟨⟨a727, rfl, Ex727, Cx727, t727, kx727, Vx727, Ax727⟩, N727q, K727⟩ := hQ727
  have N727 := Fr.app N701 N727q
  have C728 := C702.trans C727'
  refine own_goW (fun t k => st727.trans k) ?_
  have f729 := f703.keep K727 (fun x q => nomatch q)
  have z730 := Nat.le_trans z726 K727.1
  show own_GW _ _ p.tables e below s _ _ _ (T727.setTop (mkF m 187 #[.val (.long q1), .second, .val (.long q2), .second, .val (.int p3), .val (.int p4), .val (.int (0 : Int32)), .val (.int (1 : Int32)), .val (.ref cs), .val (.ref nw), .val (.ref ta), .val (.ref ex), .val (.long (q1 &&& (9223372036854775807 : Int64))), .second, .val (.ref b506), .val (.ref b522), .unset, .unset] [(.ref a727)]))
  refine own_goW (fun t k => XS.astore X727.here hx rfl (hb hby at_187) rfl rfl (l' := #[.val (.long q1), .second, .val (.long q2), .second, .val (.int p3), .val (.int p4), .val (.int (0 : Int32)), .val (.int (1 : Int32)), .val (.ref cs), .val (.ref nw), .val (.ref ta), .val (.ref ex), .val (.long (q1 &&& (9223372036854775807 : Int64))), .second, .val (.ref b506), .val (.ref b522), .val (.ref a727), .unset]) rfl k) ?_
  show own_GW _ _ p.tables e below s _ _ _ (T727.setTop (mkF m 189 #[.val (.long q1), .second, .val (.long q2), .second, .val (.int p3), .val (.int p4), .val (.int (0 : Int32)), .val (.int (1 : Int32)), .val (.ref cs), .val (.ref nw), .val (.ref ta), .val (.ref ex), .val (.long (q1 &&& (9223372036854775807 : Int64))), .second, .val (.ref b506), .val (.ref b522), .val (.ref a727), .unset] []))
  refine own_goW (fun t k => XS.iload X727.here hx rfl (hb hby at_189) rfl k) ?_
  show own_GW _ _ p.tables e below s _ _ _ (T727.setTop (mkF m 191 #[.val (.long q1), .second, .val (.long q2), .second, .val (.int p3), .val (.int p4), .val (.int (0 : Int32)), .val (.int (1 : Int32)), .val (.ref cs), .val (.ref nw), .val (.ref ta), .val (.ref ex), .val (.long (q1 &&& (9223372036854775807 : Int64))), .second, .val (.ref b506), .val (.ref b522), .val (.ref a727), .unset] [(.int (1 : Int32))]))
  refine own_goW (fun t k => XS.ifNo X727.here hx rfl (hb hby at_191) rfl (by decide) k) ?_
  show own_GW _ _ p.tables e below s _ _ _ (T727.setTop (mkF m 194 #[.val (.long q1), .second, .val (.long q2), .second, .val (.int p3), .val (.int p4), .val (.int (0 : Int32)), .val (.int (1 : Int32)), .val (.ref cs), .val (.ref nw), .val (.ref ta), .val (.ref ex), .val (.long (q1 &&& (9223372036854775807 : Int64))), .second, .val (.ref b506), .val (.ref b522), .val (.ref a727), .unset] []))
  obtain ⟨a731, T731, h731, k731, b731, kk731, X731, e731, E731, hS731, hk731, hZ731, ho731, Ea731, Fc731, Fv731, V731, la731, lb731, C731', Li731, sf731, st731⟩ := ldcCH X727 hx hZ727 ho727 (hw _ (List.mem_of_getElem? (i := 111) rfl)) (own_wS hw) rfl hS727 (Nat.le_refl _) (own_hEL hw) (List.mem_of_getElem? (i := 4) rfl) C728.1 (vs := [(.int (80 : Int32)), (.int (65 : Int32)), (.int (83 : Int32)), (.int (83 : Int32))]) (z := (4 : Int32)) ⟨by decide, rfl⟩ (by decide) rfl (g := (mkF m 194 #[.val (.long q1), .second, .val (.long q2), .second, .val (.int p3), .val (.int p4), .val (.int (0 : Int32)), .val (.int (1 : Int32)), .val (.ref cs), .val (.ref nw), .val (.ref ta), .val (.ref ex), .val (.long (q1 &&& (9223372036854775807 : Int64))), .second, .val (.ref b506), .val (.ref b522), .val (.ref a727), .unset] [])) rfl (hb hby at_194) (n := 16) (by decide) (by decide) (by decide) (by decide)
  refine own_goW st731 ?_
  have C732 := C728.trans C731'
  have f733 := f729.ext E731
  have f734 := Exa.ext E731 Ex727
  have f735 := Fld.ext E731 Cx727
  have f736 := Fld.ext E731 Vx727
  have f737 := Ax727.ext E731
  have z738 := Nat.le_trans z730 E731.1
  show own_GW _ _ p.tables e below s _ _ _ (T731.setTop (mkF m 196 #[.val (.long q1), .second, .val (.long q2), .second, .val (.int p3), .val (.int p4), .val (.int (0 : Int32)), .val (.int (1 : Int32)), .val (.ref cs), .val (.ref nw), .val (.ref ta), .val (.ref ex), .val (.long (q1 &&& (9223372036854775807 : Int64))), .second, .val (.ref b506), .val (.ref b522), .val (.ref a727), .unset] [(.ref a731)]))
  refine own_goW (fun t k => XS.goto X731.here hx rfl (pc0 := 196) (pc' := 201) rfl (hb hby at_196) (by decide) (by decide) k) ?_
  show own_GW _ _ p.tables e below s _ _ _ (T731.setTop (mkF m 201 #[.val (.long q1), .second, .val (.long q2), .second, .val (.int p3), .val (.int p4), .val (.int (0 : Int32)), .val (.int (1 : Int32)), .val (.ref cs), .val (.ref nw), .val (.ref ta), .val (.ref ex), .val (.long (q1 &&& (9223372036854775807 : Int64))), .second, .val (.ref b506), .val (.ref b522), .val (.ref a727), .unset] [(.ref a731)]))
  refine own_goW (fun t k => XS.astore X731.here hx rfl (hb hby at_201) rfl rfl (l' := #[.val (.long q1), .second, .val (.long q2), .second, .val (.int p3), .val (.int p4), .val (.int (0 : Int32)), .val (.int (1 : Int32)), .val (.ref cs), .val (.ref nw), .val (.ref ta), .val (.ref ex), .val (.long (q1 &&& (9223372036854775807 : Int64))), .second, .val (.ref b506), .val (.ref b522), .val (.ref a727), .val (.ref a731)]) rfl k) ?_
  show own_GW _ _ p.tables e below s _ _ _ (T731.setTop (mkF m 203 #[.val (.long q1), .second, .val (.long q2), .second, .val (.int p3), .val (.int p4), .val (.int (0 : Int32)), .val (.int (1 : Int32)), .val (.ref cs), .val (.ref nw), .val (.ref ta), .val (.ref ex), .val (.long (q1 &&& (9223372036854775807 : Int64))), .second, .val (.ref b506), .val (.ref b522), .val (.ref a727), .val (.ref a731)] []))
  refine own_goW (fun t k => XS.aload X731.here hx rfl (hb hby at_203) rfl rfl k) ?_
  show own_GW _ _ p.tables e below s _ _ _ (T731.setTop (mkF m 205 #[.val (.long q1), .second, .val (.long q2), .second, .val (.int p3), .val (.int p4), .val (.int (0 : Int32)), .val (.int (1 : Int32)), .val (.ref cs), .val (.ref nw), .val (.ref ta), .val (.ref ex), .val (.long (q1 &&& (9223372036854775807 : Int64))), .second, .val (.ref b506), .val (.ref b522), .val (.ref a727), .val (.ref a731)] [(.ref a731)]))
  refine own_goW (fun t k => XS.aload X731.here hx rfl (hb hby at_205) rfl rfl k) ?_
  show own_GW _ _ p.tables e below s _ _ _ (T731.setTop (mkF m 207 #[.val (.long q1), .second, .val (.long q2), .second, .val (.int p3), .val (.int p4), .val (.int (0 : Int32)), .val (.int (1 : Int32)), .val (.ref cs), .val (.ref nw), .val (.ref ta), .val (.ref ex), .val (.long (q1 &&& (9223372036854775807 : Int64))), .second, .val (.ref b506), .val (.ref b522), .val (.ref a727), .val (.ref a731)] [(.ref a727), (.ref a731)]))
  obtain ⟨cq739, kq739, q739a, q739b, q739c⟩ := isOf hZ731 e731 Ea731
  obtain ⟨_, _, ⟨T739, L739, k739, n739⟩, -, X739, ⟨Lc739, hQ739, l739, y739, z739⟩, st739⟩ := X731.virtualBack hx (y := (⟨"java/lang/String", "equals", "(Ljava/lang/Object;)Z"⟩ : MethodName)) (z := (⟨"java/lang/String", "equals", "(Ljava/lang/Object;)Z"⟩ : MethodName)) ho731 (mvT hZ731 (hw _ (List.mem_of_getElem? (i := 59) rfl))) (mvT hZ731 (hw _ (List.mem_of_getElem? (i := 60) rfl))) (notFace_of_selects (args := #[]) (mvT hZ731 (hw _ (List.mem_of_getElem? (i := 62) rfl)))) (mvT hZ731 (hw _ (List.mem_of_getElem? (i := 62) rfl))) (mvT hZ731 (hw _ (List.mem_of_getElem? (i := 61) rfl))) (by decide) (StrChars.Road.eqW (W := 0) hZ731 (own_wE hw) (kI := 4) (hw _ (List.mem_of_getElem? (i := 2) rfl)) Ea731 Fv731 Fc731 V731 (StrChars.Road.codOf (cs := ([80, 65, 83, 83] : List Int32)) (n := 4) rfl (by decide)) (by decide) (by decide) f734 f736 f735 f737 (StrChars.Road.codOf (cs := ([80, 65, 83, 83] : List Int32)) (n := 4) rfl (by decide)) (by decide) (by decide) (Sta.ext f733.2 S0) hcw (by decide) (by decide)) q739a q739c (g := (mkF m 207 #[.val (.long q1), .second, .val (.long q2), .second, .val (.int p3), .val (.int p4), .val (.int (0 : Int32)), .val (.int (1 : Int32)), .val (.ref cs), .val (.ref nw), .val (.ref ta), .val (.ref ex), .val (.long (q1 &&& (9223372036854775807 : Int64))), .second, .val (.ref b506), .val (.ref b522), .val (.ref a727), .val (.ref a731)] [(.ref a727), (.ref a731)])) rfl (by rw [hml]; rfl) (Steps.refl _) (argsL := [(.ref a727)]) (rest := []) (lenOf pd__Ljava_lang_Object__Z rfl) rfl (by show 2 * 0 + _ ≤ _; exact Nat.le_of_eq rfl) (hb hby at_207) (fun _ _ => ⟨rfl, e731, (by decide : 26 + 0 ≤ _), (by decide : 162 + 0 ≤ _)⟩)
  dsimp only [Pt.U, Pt.locs, Pt.cells, Pt.slots] at X739 l739 y739 z739 st739 hQ739
  subst l739 y739 z739
  obtain ⟨hv739, rfl, hh739⟩ := hQ739
  obtain ⟨rfl, -⟩ := hv739.resolve_right (fun q => q.2 rfl)
  have N739q := Fr.nil n0
  have N739 := Fr.app N727 N739q
  refine own_goW (fun t k => st739.trans k) ?_
  show own_GW _ _ p.tables e below s _ _ _ (T739.setTop (mkF m 210 #[.val (.long q1), .second, .val (.long q2), .second, .val (.int p3), .val (.int p4), .val (.int (0 : Int32)), .val (.int (1 : Int32)), .val (.ref cs), .val (.ref nw), .val (.ref ta), .val (.ref ex), .val (.long (q1 &&& (9223372036854775807 : Int64))), .second, .val (.ref b506), .val (.ref b522), .val (.ref a727), .val (.ref a731)] [(.int (1 : Int32))]))
  exact own_retNW X739 hx hlk hS731 (by rw [hh739]; exact hk731) hZ731 (own_hEL hw) (by rw [hh739]; exact C732) (t := .boolean) (z' := (1 : Int32)) hret (by simp) (hb hby at_210) (rfl) (hQ _ _ N739) (Nat.le_trans (by decide) hkk) (Nat.le_trans (by decide) hnn)
set_option maxRecDepth 65536 in
set_option maxHeartbeats 40000000 in
theorem own_tail_10 {p : Program} {l : Launch} {e : Env} {s : State} {m : MethodId} {args : Array Value} {below : List Frame} {meth : Method} {c : Code} {T0 : State} {locs : List Loc} {Z : State} {a0 : Array Value} {h1 : Heap} {n0 k0 kk nn : Nat} {vm0 : Vm} {Q : Option Value → Heap → List Loc → Prop} (q1 q2 : Int64) (p3 p4 w0 : Int32) (cs nw ta ex : Addr)
    (X0 : Stand p l e room_1 (s.setVm vm0) m args below meth c T0 locs 8 52) (hx : p.tables.exec = Jvm.exec) (hlk : meth.locks = false) (hZ : Z.Warmed39 (s.setVm vm0).vm) (hw : ∀ d ∈ tables_1, d.before a0 Z = true) (hby : c.code = code) (hml : c.maxLocals = 18) (hown : (s.setVm vm0).vm.findClass "com/example/vouchsafe/vouchsafe/AuditTallyLastPinLaw" = some m.cls) (hret : meth.sig.returnType = some .boolean) (e0 : T0.heap = h1) (Z1 : n0 ≤ h1.size) (N0 : Fr n0 locs) (O0 : Old Z n0 h1) (S0 : Sta Z Z.heap "java/lang/String" "COMPACT_STRINGS" "Z" (.int w0)) (hcw : ¬ w0 = 0) (hS0 : s.Since vm0 k0) (hk0 : k0 ≤ h1.size) (C0 : CHr Z own_EL s.vm s.heap vm0 h1)
    (hQ : ∀ h L, Fr n0 L → Q (some (.int 1)) h L) (hkk : 48 ≤ kk) (hnn : 11456 ≤ nn) : own_GW Z own_EL p.tables e below s Q kk nn (T0.setTop (mkF m 122 #[.val (.long q1), .second, .val (.long q2), .second, .val (.int p3), .val (.int p4), .val (.int (1 : Int32)), .val (.int (0 : Int32)), .val (.ref cs), .val (.ref nw), .val (.ref ta), .val (.ref ex), .unset, .unset, .unset, .unset, .unset, .unset] [])) := by
  refine own_goW (fun t k => XS.lloadN X0.here hx rfl (hb hby at_122) rfl k) ?_
  show own_GW _ _ p.tables e below s _ _ _ (T0.setTop (mkF m 123 #[.val (.long q1), .second, .val (.long q2), .second, .val (.int p3), .val (.int p4), .val (.int (1 : Int32)), .val (.int (0 : Int32)), .val (.ref cs), .val (.ref nw), .val (.ref ta), .val (.ref ex), .unset, .unset, .unset, .unset, .unset, .unset] [(.long q1)]))
  refine own_goW (fun t k => X0.ldc2Long hx hown (mvT hZ (hw _ (List.mem_of_getElem? (i := 64) rfl))) (g := (mkF m 123 #[.val (.long q1), .second, .val (.long q2), .second, .val (.int p3), .val (.int p4), .val (.int (1 : Int32)), .val (.int (0 : Int32)), .val (.ref cs), .val (.ref nw), .val (.ref ta), .val (.ref ex), .unset, .unset, .unset, .unset, .unset, .unset] [(.long q1)])) rfl (hb hby at_123) _ k) ?_
  show own_GW _ _ p.tables e below s _ _ _ (T0.setTop (mkF m 126 #[.val (.long q1), .second, .val (.long q2), .second, .val (.int p3), .val (.int p4), .val (.int (1 : Int32)), .val (.int (0 : Int32)), .val (.ref cs), .val (.ref nw), .val (.ref ta), .val (.ref ex), .unset, .unset, .unset, .unset, .unset, .unset] [(.long (9223372036854775807 : Int64)), (.long q1)]))
  refine own_goW (fun t k => XS.land X0.here hx rfl (hb hby at_126) rfl k) ?_
  show own_GW _ _ p.tables e below s _ _ _ (T0.setTop (mkF m 127 #[.val (.long q1), .second, .val (.long q2), .second, .val (.int p3), .val (.int p4), .val (.int (1 : Int32)), .val (.int (0 : Int32)), .val (.ref cs), .val (.ref nw), .val (.ref ta), .val (.ref ex), .unset, .unset, .unset, .unset, .unset, .unset] [(.long (q1 &&& (9223372036854775807 : Int64)))]))
  refine own_goW (fun t k => XS.lstore X0.here hx rfl (hb hby at_127) rfl (l' := #[.val (.long q1), .second, .val (.long q2), .second, .val (.int p3), .val (.int p4), .val (.int (1 : Int32)), .val (.int (0 : Int32)), .val (.ref cs), .val (.ref nw), .val (.ref ta), .val (.ref ex), .val (.long (q1 &&& (9223372036854775807 : Int64))), .second, .unset, .unset, .unset, .unset]) rfl k) ?_
  show own_GW _ _ p.tables e below s _ _ _ (T0.setTop (mkF m 129 #[.val (.long q1), .second, .val (.long q2), .second, .val (.int p3), .val (.int p4), .val (.int (1 : Int32)), .val (.int (0 : Int32)), .val (.ref cs), .val (.ref nw), .val (.ref ta), .val (.ref ex), .val (.long (q1 &&& (9223372036854775807 : Int64))), .second, .unset, .unset, .unset, .unset] []))
  obtain ⟨T740, h740, X740, e740, E740, A740, D740, -, st740⟩ := newO X0 hx hZ hown (hw _ (List.mem_of_getElem? (i := 30) rfl)) (hw _ (List.mem_of_getElem? (i := 31) rfl)) (hw _ (List.mem_of_getElem? (i := 32) rfl)) e0 (g := (mkF m 129 #[.val (.long q1), .second, .val (.long q2), .second, .val (.int p3), .val (.int p4), .val (.int (1 : Int32)), .val (.int (0 : Int32)), .val (.ref cs), .val (.ref nw), .val (.ref ta), .val (.ref ex), .val (.long (q1 &&& (9223372036854775807 : Int64))), .second, .unset, .unset, .unset, .unset] [])) rfl (hb hby at_129) (by decide) (by decide)
  obtain ⟨b740, g740⟩ : ∃ z, z = h1.size := ⟨_, rfl⟩
  rw [← g740] at A740 D740 st740
  refine own_goW st740 ?_
  have g741 := Nat.le_trans Z1 (Nat.le_of_eq g740.symm)
  have C742 := C0.trans (CHr.ext E740 C0.1)
  have hk743 := Nat.le_trans hk0 E740.1
  have f744 := O0.ext E740
  have z745 := Nat.le_trans Z1 E740.1
  have f746 : Fld Z h740 b740 "com/example/vouchsafe/vouchsafe/AuditTally" "audits" "J" (.long (0 : Int64)) := D740 (Or.inr (hw _ (List.mem_of_getElem? (i := 43) rfl))) (ty := .long) (by decide)
  have f747 : Fld Z h740 b740 "com/example/vouchsafe/vouchsafe/AuditTally" "passed" "J" (.long (0 : Int64)) := D740 (Or.inr (hw _ (List.mem_of_getElem? (i := 45) rfl))) (ty := .long) (by decide)
  have f748 : Fld Z h740 b740 "com/example/vouchsafe/vouchsafe/AuditTally" "lastPassed" "Z" (.int (0 : Int32)) := D740 (Or.inr (hw _ (List.mem_of_getElem? (i := 47) rfl))) (ty := .boolean) (by decide)
  have f749 : Fld Z h740 b740 "com/example/vouchsafe/vouchsafe/AuditTally" "newest" "Ljava/lang/String;" .null := D740 (Or.inr (hw _ (List.mem_of_getElem? (i := 49) rfl))) (ty := (.object "java/lang/String")) (by decide)
  show own_GW _ _ p.tables e below s _ _ _ (T740.setTop (mkF m 132 #[.val (.long q1), .second, .val (.long q2), .second, .val (.int p3), .val (.int p4), .val (.int (1 : Int32)), .val (.int (0 : Int32)), .val (.ref cs), .val (.ref nw), .val (.ref ta), .val (.ref ex), .val (.long (q1 &&& (9223372036854775807 : Int64))), .second, .unset, .unset, .unset, .unset] [(.ref b740)]))
  refine own_goW (fun t k => XS.dup X740.here hx rfl (hb hby at_132) rfl rfl k) ?_
  show own_GW _ _ p.tables e below s _ _ _ (T740.setTop (mkF m 133 #[.val (.long q1), .second, .val (.long q2), .second, .val (.int p3), .val (.int p4), .val (.int (1 : Int32)), .val (.int (0 : Int32)), .val (.ref cs), .val (.ref nw), .val (.ref ta), .val (.ref ex), .val (.long (q1 &&& (9223372036854775807 : Int64))), .second, .unset, .unset, .unset, .unset] [(.ref b740), (.ref b740)]))
  refine own_goW (fun t k => XS.lload X740.here hx rfl (hb hby at_133) rfl k) ?_
  show own_GW _ _ p.tables e below s _ _ _ (T740.setTop (mkF m 135 #[.val (.long q1), .second, .val (.long q2), .second, .val (.int p3), .val (.int p4), .val (.int (1 : Int32)), .val (.int (0 : Int32)), .val (.ref cs), .val (.ref nw), .val (.ref ta), .val (.ref ex), .val (.long (q1 &&& (9223372036854775807 : Int64))), .second, .unset, .unset, .unset, .unset] [(.long (q1 &&& (9223372036854775807 : Int64))), (.ref b740), (.ref b740)]))
  refine own_goW (fun t k => XS.lloadN X740.here hx rfl (hb hby at_135) rfl k) ?_
  show own_GW _ _ p.tables e below s _ _ _ (T740.setTop (mkF m 136 #[.val (.long q1), .second, .val (.long q2), .second, .val (.int p3), .val (.int p4), .val (.int (1 : Int32)), .val (.int (0 : Int32)), .val (.ref cs), .val (.ref nw), .val (.ref ta), .val (.ref ex), .val (.long (q1 &&& (9223372036854775807 : Int64))), .second, .unset, .unset, .unset, .unset] [(.long q2), (.long (q1 &&& (9223372036854775807 : Int64))), (.ref b740), (.ref b740)]))
  refine own_goW (fun t k => XS.iload X740.here hx rfl (hb hby at_136) rfl k) ?_
  show own_GW _ _ p.tables e below s _ _ _ (T740.setTop (mkF m 138 #[.val (.long q1), .second, .val (.long q2), .second, .val (.int p3), .val (.int p4), .val (.int (1 : Int32)), .val (.int (0 : Int32)), .val (.ref cs), .val (.ref nw), .val (.ref ta), .val (.ref ex), .val (.long (q1 &&& (9223372036854775807 : Int64))), .second, .unset, .unset, .unset, .unset] [(.int (1 : Int32)), (.long q2), (.long (q1 &&& (9223372036854775807 : Int64))), (.ref b740), (.ref b740)]))
  refine own_goW (fun t k => XS.aload X740.here hx rfl (hb hby at_138) rfl rfl k) ?_
  show own_GW _ _ p.tables e below s _ _ _ (T740.setTop (mkF m 140 #[.val (.long q1), .second, .val (.long q2), .second, .val (.int p3), .val (.int p4), .val (.int (1 : Int32)), .val (.int (0 : Int32)), .val (.ref cs), .val (.ref nw), .val (.ref ta), .val (.ref ex), .val (.long (q1 &&& (9223372036854775807 : Int64))), .second, .unset, .unset, .unset, .unset] [(.ref nw), (.int (1 : Int32)), (.long q2), (.long (q1 &&& (9223372036854775807 : Int64))), (.ref b740), (.ref b740)]))
  obtain ⟨_, _, ⟨T750, L750, k750, n750⟩, -, X750, ⟨Lc750, hQ750, l750, y750, z750⟩, st750⟩ := X740.specialBack hx (y := (⟨"com/example/vouchsafe/vouchsafe/AuditTally", "<init>", "(JJZLjava/lang/String;)V"⟩ : MethodName)) rfl hown (mvT hZ (hw _ (List.mem_of_getElem? (i := 33) rfl))) (mvT hZ (hw _ (List.mem_of_getElem? (i := 34) rfl))) (mvT hZ (hw _ (List.mem_of_getElem? (i := 35) rfl))) (by decide) (backOf (W := 1) (rma1 l Z a0 hw [] b740 nw (q1 &&& (9223372036854775807 : Int64)) q2 h740 n0 z745 A740 f746 f747 f748 f749 g741) hZ (hw _ (List.mem_of_getElem? (i := 35) rfl)) (hw _ (List.mem_of_getElem? (i := 32) rfl)) (by decide) (by decide)) (g := (mkF m 140 #[.val (.long q1), .second, .val (.long q2), .second, .val (.int p3), .val (.int p4), .val (.int (1 : Int32)), .val (.int (0 : Int32)), .val (.ref cs), .val (.ref nw), .val (.ref ta), .val (.ref ex), .val (.long (q1 &&& (9223372036854775807 : Int64))), .second, .unset, .unset, .unset, .unset] [(.ref nw), (.int (1 : Int32)), (.long q2), (.long (q1 &&& (9223372036854775807 : Int64))), (.ref b740), (.ref b740)])) rfl (by rw [hml]; rfl) (Steps.refl _) (a := b740) (argsL := [(.long (q1 &&& (9223372036854775807 : Int64))), (.long q2), (.int (1 : Int32)), (.ref nw)]) (rest := [(.ref b740)]) (lenOf pd__JJZLjava_lang_String__V rfl) rfl (by show 2 * 0 + _ ≤ _; exact Nat.le_of_eq rfl) (hb hby at_140) (fun _ _ => ⟨rfl, e740, (by decide : 9 + 0 ≤ _), (by decide : 56 + 0 ≤ _)⟩)
  dsimp only [Pt.U, Pt.locs, Pt.cells, Pt.slots] at X750 l750 y750 z750 st750 hQ750
  subst l750 y750 z750
  obtain ⟨rfl, N750q, K750, Fa750, Fp750, Fl750⟩ := hQ750
  have N750 := Fr.app N0 N750q
  refine own_goW (fun t k => st750.trans k) ?_
  have C751 := C742.trans (CHr.keep K750 (fun x => (fun q => (List.mem_cons.mp q).elim (fun e => e ▸ (Safe.exa hZ.alike A740 (by decide) (by decide))) (fun q => nomatch q))) C742.1)
  have hk752 := Nat.le_trans hk743 K750.1
  have f753 := f744.keep K750 (fun x => (fun q => (List.mem_cons.mp q).elim (fun e => e ▸ g741) (fun q => nomatch q)))
  have f754 := A740.keep K750
  have z755 := Nat.le_trans z745 K750.1
  show own_GW _ _ p.tables e below s _ _ _ (T750.setTop (mkF m 143 #[.val (.long q1), .second, .val (.long q2), .second, .val (.int p3), .val (.int p4), .val (.int (1 : Int32)), .val (.int (0 : Int32)), .val (.ref cs), .val (.ref nw), .val (.ref ta), .val (.ref ex), .val (.long (q1 &&& (9223372036854775807 : Int64))), .second, .unset, .unset, .unset, .unset] [(.ref b740)]))
  refine own_goW (fun t k => XS.astore X750.here hx rfl (hb hby at_143) rfl rfl (l' := #[.val (.long q1), .second, .val (.long q2), .second, .val (.int p3), .val (.int p4), .val (.int (1 : Int32)), .val (.int (0 : Int32)), .val (.ref cs), .val (.ref nw), .val (.ref ta), .val (.ref ex), .val (.long (q1 &&& (9223372036854775807 : Int64))), .second, .val (.ref b740), .unset, .unset, .unset]) rfl k) ?_
  show own_GW _ _ p.tables e below s _ _ _ (T750.setTop (mkF m 145 #[.val (.long q1), .second, .val (.long q2), .second, .val (.int p3), .val (.int p4), .val (.int (1 : Int32)), .val (.int (0 : Int32)), .val (.ref cs), .val (.ref nw), .val (.ref ta), .val (.ref ex), .val (.long (q1 &&& (9223372036854775807 : Int64))), .second, .val (.ref b740), .unset, .unset, .unset] []))
  obtain ⟨T756, h756, X756, e756, E756, A756, D756, -, st756⟩ := newO X750 hx hZ hown (hw _ (List.mem_of_getElem? (i := 65) rfl)) (hw _ (List.mem_of_getElem? (i := 66) rfl)) (hw _ (List.mem_of_getElem? (i := 67) rfl)) rfl (g := (mkF m 145 #[.val (.long q1), .second, .val (.long q2), .second, .val (.int p3), .val (.int p4), .val (.int (1 : Int32)), .val (.int (0 : Int32)), .val (.ref cs), .val (.ref nw), .val (.ref ta), .val (.ref ex), .val (.long (q1 &&& (9223372036854775807 : Int64))), .second, .val (.ref b740), .unset, .unset, .unset] [])) rfl (hb hby at_145) (by decide) (by decide)
  obtain ⟨b756, g756⟩ : ∃ z, z = T750.heap.size := ⟨_, rfl⟩
  rw [← g756] at A756 D756 st756
  refine own_goW st756 ?_
  have g757 := Nat.le_trans z755 (Nat.le_of_eq g756.symm)
  have n758 := Nat.ne_of_lt (Nat.lt_of_lt_of_le f754.lt (Nat.le_of_eq g756.symm))
  have C759 := C751.trans (CHr.ext E756 C751.1)
  have hk760 := Nat.le_trans hk752 E756.1
  have f761 := f753.ext E756
  have f762 := Exa.ext E756 f754
  have f763 := Fld.ext E756 Fa750
  have f764 := Fld.ext E756 Fp750
  have z765 := Nat.le_trans z755 E756.1
  have f766 : Fld Z h756 b756 "com/example/vouchsafe/vouchsafe/LogEntry" "eid" "Ljava/lang/String;" .null := D756 (Or.inr (hw _ (List.mem_of_getElem? (i := 76) rfl))) (ty := (.object "java/lang/String")) (by decide)
  have f767 : Fld Z h756 b756 "com/example/vouchsafe/vouchsafe/LogEntry" "prev" "Ljava/lang/String;" .null := D756 (Or.inr (hw _ (List.mem_of_getElem? (i := 78) rfl))) (ty := (.object "java/lang/String")) (by decide)
  have f768 : Fld Z h756 b756 "com/example/vouchsafe/vouchsafe/LogEntry" "group" "Ljava/lang/String;" .null := D756 (Or.inr (hw _ (List.mem_of_getElem? (i := 80) rfl))) (ty := (.object "java/lang/String")) (by decide)
  have f769 : Fld Z h756 b756 "com/example/vouchsafe/vouchsafe/LogEntry" "result" "Ljava/lang/String;" .null := D756 (Or.inr (hw _ (List.mem_of_getElem? (i := 82) rfl))) (ty := (.object "java/lang/String")) (by decide)
  have f770 : Fld Z h756 b756 "com/example/vouchsafe/vouchsafe/LogEntry" "time" "Ljava/lang/String;" .null := D756 (Or.inr (hw _ (List.mem_of_getElem? (i := 84) rfl))) (ty := (.object "java/lang/String")) (by decide)
  have f771 : Fld Z h756 b756 "com/example/vouchsafe/vouchsafe/LogEntry" "signature" "[B" .null := D756 (Or.inr (hw _ (List.mem_of_getElem? (i := 86) rfl))) (ty := (.array .byte)) (by decide)
  show own_GW _ _ p.tables e below s _ _ _ (T756.setTop (mkF m 148 #[.val (.long q1), .second, .val (.long q2), .second, .val (.int p3), .val (.int p4), .val (.int (1 : Int32)), .val (.int (0 : Int32)), .val (.ref cs), .val (.ref nw), .val (.ref ta), .val (.ref ex), .val (.long (q1 &&& (9223372036854775807 : Int64))), .second, .val (.ref b740), .unset, .unset, .unset] [(.ref b756)]))
  refine own_goW (fun t k => XS.dup X756.here hx rfl (hb hby at_148) rfl rfl k) ?_
  show own_GW _ _ p.tables e below s _ _ _ (T756.setTop (mkF m 149 #[.val (.long q1), .second, .val (.long q2), .second, .val (.int p3), .val (.int p4), .val (.int (1 : Int32)), .val (.int (0 : Int32)), .val (.ref cs), .val (.ref nw), .val (.ref ta), .val (.ref ex), .val (.long (q1 &&& (9223372036854775807 : Int64))), .second, .val (.ref b740), .unset, .unset, .unset] [(.ref b756), (.ref b756)]))
  refine own_goW (fun t k => XS.aload X756.here hx rfl (hb hby at_149) rfl rfl k) ?_
  show own_GW _ _ p.tables e below s _ _ _ (T756.setTop (mkF m 151 #[.val (.long q1), .second, .val (.long q2), .second, .val (.int p3), .val (.int p4), .val (.int (1 : Int32)), .val (.int (0 : Int32)), .val (.ref cs), .val (.ref nw), .val (.ref ta), .val (.ref ex), .val (.long (q1 &&& (9223372036854775807 : Int64))), .second, .val (.ref b740), .unset, .unset, .unset] [(.ref nw), (.ref b756), (.ref b756)]))
  obtain ⟨a772, T772, h772, k772, b772, kk772, X772, e772, E772, hS772, hk772, hZ772, ho772, Ea772, Fc772, Fv772, V772, la772, lb772, C772', Li772, sf772, st772⟩ := ldcCH X756 hx hZ hown (hw _ (List.mem_of_getElem? (i := 68) rfl)) (own_wS hw) e756 hS0 hk760 (own_hEL hw) (List.mem_of_getElem? (i := 6) rfl) C759.1 (vs := []) (z := (0 : Int32)) ⟨by decide, rfl⟩ (by decide) rfl (g := (mkF m 151 #[.val (.long q1), .second, .val (.long q2), .second, .val (.int p3), .val (.int p4), .val (.int (1 : Int32)), .val (.int (0 : Int32)), .val (.ref cs), .val (.ref nw), .val (.ref ta), .val (.ref ex), .val (.long (q1 &&& (9223372036854775807 : Int64))), .second, .val (.ref b740), .unset, .unset, .unset] [(.ref nw), (.ref b756), (.ref b756)])) rfl (hb hby at_151) (n := 0) (by decide) (by decide) (by decide) (by decide)
  refine own_goW st772 ?_
  have C773 := C759.trans C772'
  have f774 := f761.ext E772
  have f775 := Exa.ext E772 f762
  have f776 := Fld.ext E772 f763
  have f777 := Fld.ext E772 f764
  have f778 := Exa.ext E772 A756
  have f779 := Fld.ext E772 f766
  have f780 := Fld.ext E772 f767
  have f781 := Fld.ext E772 f768
  have f782 := Fld.ext E772 f769
  have f783 := Fld.ext E772 f770
  have f784 := Fld.ext E772 f771
  have z785 := Nat.le_trans z765 E772.1
  have n786 := ne_exa Ea772 f775 (by decide)
  have n787 := (Exa.neArv f775 V772 (hw _ (List.mem_of_getElem? (i := 31) rfl))).symm
  have n788 := ne_exa Ea772 f778 (by decide)
  have n789 := (Exa.neArv f778 V772 (hw _ (List.mem_of_getElem? (i := 66) rfl))).symm
  show own_GW _ _ p.tables e below s _ _ _ (T772.setTop (mkF m 153 #[.val (.long q1), .second, .val (.long q2), .second, .val (.int p3), .val (.int p4), .val (.int (1 : Int32)), .val (.int (0 : Int32)), .val (.ref cs), .val (.ref nw), .val (.ref ta), .val (.ref ex), .val (.long (q1 &&& (9223372036854775807 : Int64))), .second, .val (.ref b740), .unset, .unset, .unset] [(.ref a772), (.ref nw), (.ref b756), (.ref b756)]))
  obtain ⟨a790, T790, h790, k790, b790, kk790, X790, e790, E790, hS790, hk790, hZ790, ho790, Ea790, Fc790, Fv790, V790, la790, lb790, C790', Li790, sf790, st790⟩ := ldcCH X772 hx hZ772 ho772 (hw _ (List.mem_of_getElem? (i := 69) rfl)) (own_wS hw) e772 hS772 hk772 (own_hEL hw) (List.mem_of_getElem? (i := 7) rfl) C773.1 (vs := [(.int (103 : Int32))]) (z := (1 : Int32)) ⟨by decide, rfl⟩ (by decide) rfl (g := (mkF m 153 #[.val (.long q1), .second, .val (.long q2), .second, .val (.int p3), .val (.int p4), .val (.int (1 : Int32)), .val (.int (0 : Int32)), .val (.ref cs), .val (.ref nw), .val (.ref ta), .val (.ref ex), .val (.long (q1 &&& (9223372036854775807 : Int64))), .second, .val (.ref b740), .unset, .unset, .unset] [(.ref a772), (.ref nw), (.ref b756), (.ref b756)])) rfl (hb hby at_153) (n := 4) (by decide) (by decide) (by decide) (by decide)
  refine own_goW st790 ?_
  have C791 := C773.trans C790'
  have f792 := f774.ext E790
  have f793 := Exa.ext E790 f775
  have f794 := Fld.ext E790 f776
  have f795 := Fld.ext E790 f777
  have f796 := Exa.ext E790 f778
  have f797 := Fld.ext E790 f779
  have f798 := Fld.ext E790 f780
  have f799 := Fld.ext E790 f781
  have f800 := Fld.ext E790 f782
  have f801 := Fld.ext E790 f783
  have f802 := Fld.ext E790 f784
  have f803 := Exa.ext E790 Ea772
  have f804 := Fld.ext E790 Fc772
  have f805 := Fld.ext E790 Fv772
  have f806 := V772.ext E790
  have z807 := Nat.le_trans z785 E790.1
  have n808 := ne_exa Ea790 f793 (by decide)
  have n809 := (Exa.neArv f793 V790 (hw _ (List.mem_of_getElem? (i := 31) rfl))).symm
  have n810 := ne_exa Ea790 f796 (by decide)
  have n811 := (Exa.neArv f796 V790 (hw _ (List.mem_of_getElem? (i := 66) rfl))).symm
  show own_GW _ _ p.tables e below s _ _ _ (T790.setTop (mkF m 155 #[.val (.long q1), .second, .val (.long q2), .second, .val (.int p3), .val (.int p4), .val (.int (1 : Int32)), .val (.int (0 : Int32)), .val (.ref cs), .val (.ref nw), .val (.ref ta), .val (.ref ex), .val (.long (q1 &&& (9223372036854775807 : Int64))), .second, .val (.ref b740), .unset, .unset, .unset] [(.ref a790), (.ref a772), (.ref nw), (.ref b756), (.ref b756)]))
  refine own_goW (fun t k => XS.iload X790.here hx rfl (hb hby at_155) rfl k) ?_
  show own_GW _ _ p.tables e below s _ _ _ (T790.setTop (mkF m 157 #[.val (.long q1), .second, .val (.long q2), .second, .val (.int p3), .val (.int p4), .val (.int (1 : Int32)), .val (.int (0 : Int32)), .val (.ref cs), .val (.ref nw), .val (.ref ta), .val (.ref ex), .val (.long (q1 &&& (9223372036854775807 : Int64))), .second, .val (.ref b740), .unset, .unset, .unset] [(.int (0 : Int32)), (.ref a790), (.ref a772), (.ref nw), (.ref b756), (.ref b756)]))
  refine own_goW (fun t k => XS.ifYes X790.here hx rfl (pc0 := 157) (pc' := 165) rfl (hb hby at_157) rfl (by decide) (by decide) (by decide) k) ?_
  show own_GW _ _ p.tables e below s _ _ _ (T790.setTop (mkF m 165 #[.val (.long q1), .second, .val (.long q2), .second, .val (.int p3), .val (.int p4), .val (.int (1 : Int32)), .val (.int (0 : Int32)), .val (.ref cs), .val (.ref nw), .val (.ref ta), .val (.ref ex), .val (.long (q1 &&& (9223372036854775807 : Int64))), .second, .val (.ref b740), .unset, .unset, .unset] [(.ref a790), (.ref a772), (.ref nw), (.ref b756), (.ref b756)]))
  obtain ⟨a812, T812, h812, k812, b812, kk812, X812, e812, E812, hS812, hk812, hZ812, ho812, Ea812, Fc812, Fv812, V812, la812, lb812, C812', Li812, sf812, st812⟩ := ldcCH X790 hx hZ790 ho790 (hw _ (List.mem_of_getElem? (i := 70) rfl)) (own_wS hw) e790 hS790 hk790 (own_hEL hw) (List.mem_of_getElem? (i := 9) rfl) C791.1 (vs := [(.int (102 : Int32)), (.int (97 : Int32)), (.int (105 : Int32)), (.int (108 : Int32))]) (z := (4 : Int32)) ⟨by decide, rfl⟩ (by decide) rfl (g := (mkF m 165 #[.val (.long q1), .second, .val (.long q2), .second, .val (.int p3), .val (.int p4), .val (.int (1 : Int32)), .val (.int (0 : Int32)), .val (.ref cs), .val (.ref nw), .val (.ref ta), .val (.ref ex), .val (.long (q1 &&& (9223372036854775807 : Int64))), .second, .val (.ref b740), .unset, .unset, .unset] [(.ref a790), (.ref a772), (.ref nw), (.ref b756), (.ref b756)])) rfl (hb hby at_165) (n := 16) (by decide) (by decide) (by decide) (by decide)
  refine own_goW st812 ?_
  have C813 := C791.trans C812'
  have f814 := f792.ext E812
  have f815 := Exa.ext E812 f793
  have f816 := Fld.ext E812 f794
  have f817 := Fld.ext E812 f795
  have f818 := Exa.ext E812 f796
  have f819 := Fld.ext E812 f797
  have f820 := Fld.ext E812 f798
  have f821 := Fld.ext E812 f799
  have f822 := Fld.ext E812 f800
  have f823 := Fld.ext E812 f801
  have f824 := Fld.ext E812 f802
  have f825 := Exa.ext E812 f803
  have f826 := Fld.ext E812 f804
  have f827 := Fld.ext E812 f805
  have f828 := f806.ext E812
  have f829 := Exa.ext E812 Ea790
  have f830 := Fld.ext E812 Fc790
  have f831 := Fld.ext E812 Fv790
  have f832 := V790.ext E812
  have z833 := Nat.le_trans z807 E812.1
  have n834 := ne_exa Ea812 f815 (by decide)
  have n835 := (Exa.neArv f815 V812 (hw _ (List.mem_of_getElem? (i := 31) rfl))).symm
  have n836 := ne_exa Ea812 f818 (by decide)
  have n837 := (Exa.neArv f818 V812 (hw _ (List.mem_of_getElem? (i := 66) rfl))).symm
  show own_GW _ _ p.tables e below s _ _ _ (T812.setTop (mkF m 167 #[.val (.long q1), .second, .val (.long q2), .second, .val (.int p3), .val (.int p4), .val (.int (1 : Int32)), .val (.int (0 : Int32)), .val (.ref cs), .val (.ref nw), .val (.ref ta), .val (.ref ex), .val (.long (q1 &&& (9223372036854775807 : Int64))), .second, .val (.ref b740), .unset, .unset, .unset] [(.ref a812), (.ref a790), (.ref a772), (.ref nw), (.ref b756), (.ref b756)]))
  obtain ⟨a838, T838, h838, k838, b838, kk838, X838, e838, E838, hS838, hk838, hZ838, ho838, Ea838, Fc838, Fv838, V838, la838, lb838, C838', Li838, sf838, st838⟩ := ldcCH X812 hx hZ812 ho812 (hw _ (List.mem_of_getElem? (i := 68) rfl)) (own_wS hw) e812 hS812 hk812 (own_hEL hw) (List.mem_of_getElem? (i := 6) rfl) C813.1 (vs := []) (z := (0 : Int32)) ⟨by decide, rfl⟩ (by decide) rfl (g := (mkF m 167 #[.val (.long q1), .second, .val (.long q2), .second, .val (.int p3), .val (.int p4), .val (.int (1 : Int32)), .val (.int (0 : Int32)), .val (.ref cs), .val (.ref nw), .val (.ref ta), .val (.ref ex), .val (.long (q1 &&& (9223372036854775807 : Int64))), .second, .val (.ref b740), .unset, .unset, .unset] [(.ref a812), (.ref a790), (.ref a772), (.ref nw), (.ref b756), (.ref b756)])) rfl (hb hby at_167) (n := 0) (by decide) (by decide) (by decide) (by decide)
  refine own_goW st838 ?_
  have C839 := C813.trans C838'
  have f840 := f814.ext E838
  have f841 := Exa.ext E838 f815
  have f842 := Fld.ext E838 f816
  have f843 := Fld.ext E838 f817
  have f844 := Exa.ext E838 f818
  have f845 := Fld.ext E838 f819
  have f846 := Fld.ext E838 f820
  have f847 := Fld.ext E838 f821
  have f848 := Fld.ext E838 f822
  have f849 := Fld.ext E838 f823
  have f850 := Fld.ext E838 f824
  have f851 := Exa.ext E838 f825
  have f852 := Fld.ext E838 f826
  have f853 := Fld.ext E838 f827
  have f854 := f828.ext E838
  have f855 := Exa.ext E838 f829
  have f856 := Fld.ext E838 f830
  have f857 := Fld.ext E838 f831
  have f858 := f832.ext E838
  have f859 := Exa.ext E838 Ea812
  have f860 := Fld.ext E838 Fc812
  have f861 := Fld.ext E838 Fv812
  have f862 := V812.ext E838
  have z863 := Nat.le_trans z833 E838.1
  have n864 := ne_exa Ea838 f841 (by decide)
  have n865 := (Exa.neArv f841 V838 (hw _ (List.mem_of_getElem? (i := 31) rfl))).symm
  have n866 := ne_exa Ea838 f844 (by decide)
  have n867 := (Exa.neArv f844 V838 (hw _ (List.mem_of_getElem? (i := 66) rfl))).symm
  show own_GW _ _ p.tables e below s _ _ _ (T838.setTop (mkF m 169 #[.val (.long q1), .second, .val (.long q2), .second, .val (.int p3), .val (.int p4), .val (.int (1 : Int32)), .val (.int (0 : Int32)), .val (.ref cs), .val (.ref nw), .val (.ref ta), .val (.ref ex), .val (.long (q1 &&& (9223372036854775807 : Int64))), .second, .val (.ref b740), .unset, .unset, .unset] [(.ref a838), (.ref a812), (.ref a790), (.ref a772), (.ref nw), (.ref b756), (.ref b756)]))
  refine own_goW (fun t k => XS.iconst X838.here hx rfl (hb hby at_169) k) ?_
  show own_GW _ _ p.tables e below s _ _ _ (T838.setTop (mkF m 170 #[.val (.long q1), .second, .val (.long q2), .second, .val (.int p3), .val (.int p4), .val (.int (1 : Int32)), .val (.int (0 : Int32)), .val (.ref cs), .val (.ref nw), .val (.ref ta), .val (.ref ex), .val (.long (q1 &&& (9223372036854775807 : Int64))), .second, .val (.ref b740), .unset, .unset, .unset] [(.int (0 : Int32)), (.ref a838), (.ref a812), (.ref a790), (.ref a772), (.ref nw), (.ref b756), (.ref b756)]))
  obtain ⟨T868, h868, k868, X868, e868, E868, A868, st868⟩ := newP X838 hx hZ838 (hw _ (List.mem_of_getElem? (i := 19) rfl)) e838 (g := (mkF m 170 #[.val (.long q1), .second, .val (.long q2), .second, .val (.int p3), .val (.int p4), .val (.int (1 : Int32)), .val (.int (0 : Int32)), .val (.ref cs), .val (.ref nw), .val (.ref ta), .val (.ref ex), .val (.long (q1 &&& (9223372036854775807 : Int64))), .second, .val (.ref b740), .unset, .unset, .unset] [(.int (0 : Int32)), (.ref a838), (.ref a812), (.ref a790), (.ref a772), (.ref nw), (.ref b756), (.ref b756)])) rfl (hb hby at_170) rfl (by decide) (cap := 0) (by decide) (by decide) (by decide) (by decide)
  obtain ⟨b868, g868⟩ : ∃ z, z = h838.size := ⟨_, rfl⟩
  rw [← g868] at A868 st868
  refine own_goW st868 ?_
  have g869 := Nat.le_trans z863 (Nat.le_of_eq g868.symm)
  have n870 := Nat.ne_of_lt (Nat.lt_of_lt_of_le f841.lt (Nat.le_of_eq g868.symm))
  have n871 := Nat.ne_of_lt (Nat.lt_of_lt_of_le f844.lt (Nat.le_of_eq g868.symm))
  have n872 := Nat.ne_of_lt (Nat.lt_of_lt_of_le f851.lt (Nat.le_of_eq g868.symm))
  have n873 := Nat.ne_of_lt (Nat.lt_of_lt_of_le f854.lt (Nat.le_of_eq g868.symm))
  have n874 := Nat.ne_of_lt (Nat.lt_of_lt_of_le f855.lt (Nat.le_of_eq g868.symm))
  have n875 := Nat.ne_of_lt (Nat.lt_of_lt_of_le f858.lt (Nat.le_of_eq g868.symm))
  have n876 := Nat.ne_of_lt (Nat.lt_of_lt_of_le f859.lt (Nat.le_of_eq g868.symm))
  have n877 := Nat.ne_of_lt (Nat.lt_of_lt_of_le f862.lt (Nat.le_of_eq g868.symm))
  have n878 := Nat.ne_of_lt (Nat.lt_of_lt_of_le Ea838.lt (Nat.le_of_eq g868.symm))
  have n879 := Nat.ne_of_lt (Nat.lt_of_lt_of_le V838.lt (Nat.le_of_eq g868.symm))
  have C880 := C839.trans (CHr.ext E868 C839.1)
  have hk881 := Nat.le_trans hk838 E868.1
  have f882 := f840.ext E868
  have f883 := Exa.ext E868 f841
  have f884 := Fld.ext E868 f842
  have f885 := Fld.ext E868 f843
  have f886 := Exa.ext E868 f844
  have f887 := Fld.ext E868 f845
  have f888 := Fld.ext E868 f846
  have f889 := Fld.ext E868 f847
  have f890 := Fld.ext E868 f848
  have f891 := Fld.ext E868 f849
  have f892 := Fld.ext E868 f850
  have f893 := Exa.ext E868 f851
  have f894 := Fld.ext E868 f852
  have f895 := Fld.ext E868 f853
  have f896 := f854.ext E868
  have f897 := Exa.ext E868 f855
  have f898 := Fld.ext E868 f856
  have f899 := Fld.ext E868 f857
  have f900 := f858.ext E868
  have f901 := Exa.ext E868 f859
  have f902 := Fld.ext E868 f860
  have f903 := Fld.ext E868 f861
  have f904 := f862.ext E868
  have f905 := Exa.ext E868 Ea838
  have f906 := Fld.ext E868 Fc838
  have f907 := Fld.ext E868 Fv838
  have f908 := V838.ext E868
  have z909 := Nat.le_trans z863 E868.1
  show own_GW _ _ p.tables e below s _ _ _ (T868.setTop (mkF m 172 #[.val (.long q1), .second, .val (.long q2), .second, .val (.int p3), .val (.int p4), .val (.int (1 : Int32)), .val (.int (0 : Int32)), .val (.ref cs), .val (.ref nw), .val (.ref ta), .val (.ref ex), .val (.long (q1 &&& (9223372036854775807 : Int64))), .second, .val (.ref b740), .unset, .unset, .unset] [(.ref b868), (.ref a838), (.ref a812), (.ref a790), (.ref a772), (.ref nw), (.ref b756), (.ref b756)]))
  obtain ⟨_, _, ⟨T910, L910, k910, n910⟩, -, X910, ⟨Lc910, hQ910, l910, y910, z910⟩, st910⟩ := X868.specialBack hx (y := (⟨"com/example/vouchsafe/vouchsafe/LogEntry", "<init>", "(Ljava/lang/String;Ljava/lang/String;Ljava/lang/String;Ljava/lang/String;Ljava/lang/String;[B)V"⟩ : MethodName)) rfl ho838 (mvT hZ838 (hw _ (List.mem_of_getElem? (i := 71) rfl))) (mvT hZ838 (hw _ (List.mem_of_getElem? (i := 72) rfl))) (mvT hZ838 (hw _ (List.mem_of_getElem? (i := 73) rfl))) (by decide) (backOf (W := 1) (rme l Z a0 hw [] b756 nw a772 a790 a812 a838 b868 h868 n0 z909 f886 f887 f888 f889 f890 f891 f892 g757) hZ838 (hw _ (List.mem_of_getElem? (i := 73) rfl)) (hw _ (List.mem_of_getElem? (i := 67) rfl)) (by decide) (by decide)) (g := (mkF m 172 #[.val (.long q1), .second, .val (.long q2), .second, .val (.int p3), .val (.int p4), .val (.int (1 : Int32)), .val (.int (0 : Int32)), .val (.ref cs), .val (.ref nw), .val (.ref ta), .val (.ref ex), .val (.long (q1 &&& (9223372036854775807 : Int64))), .second, .val (.ref b740), .unset, .unset, .unset] [(.ref b868), (.ref a838), (.ref a812), (.ref a790), (.ref a772), (.ref nw), (.ref b756), (.ref b756)])) rfl (by rw [hml]; rfl) (Steps.refl _) (a := b756) (argsL := [(.ref nw), (.ref a772), (.ref a790), (.ref a812), (.ref a838), (.ref b868)]) (rest := [(.ref b756)]) (lenOf pd__Ljava_lang_String_Ljava_lang_String_Ljava_lang_String_Ljava_lang_String_Ljava_lang_String__B_V rfl) rfl (by show 2 * 0 + _ ≤ _; exact Nat.le_of_eq rfl) (hb hby at_172) (fun _ _ => ⟨rfl, e868, (by decide : 19 + 0 ≤ _), (by decide : 98 + 0 ≤ _)⟩)
  dsimp only [Pt.U, Pt.locs, Pt.cells, Pt.slots] at X910 l910 y910 z910 st910 hQ910
  subst l910 y910 z910
  obtain ⟨rfl, N910q, K910, Fe910, Fr910⟩ := hQ910
  have N910 := Fr.app N750 N910q
  refine own_goW (fun t k => st910.trans k) ?_
  have C911 := C880.trans (CHr.keep K910 (fun x => (fun q => (List.mem_cons.mp q).elim (fun e => e ▸ (Safe.exa hZ838.alike f886 (by decide) (by decide))) (fun q => nomatch q))) C880.1)
  have hk912 := Nat.le_trans hk881 K910.1
  have f913 := f882.keep K910 (fun x => (fun q => (List.mem_cons.mp q).elim (fun e => e ▸ g757) (fun q => nomatch q)))
  have f914 := f883.keep K910
  have f915 := f884.keep K910 (fun q => (List.mem_cons.mp q).elim n758 (fun q => nomatch q))
  have f916 := f885.keep K910 (fun q => (List.mem_cons.mp q).elim n758 (fun q => nomatch q))
  have f917 := f886.keep K910
  have f918 := f893.keep K910
  have f919 := f894.keep K910 (fun q => (List.mem_cons.mp q).elim n788 (fun q => nomatch q))
  have f920 := f895.keep K910 (fun q => (List.mem_cons.mp q).elim n788 (fun q => nomatch q))
  have f921 := f896.keep K910 (fun q => (List.mem_cons.mp q).elim n789 (fun q => nomatch q))
  have f922 := f897.keep K910
  have f923 := f898.keep K910 (fun q => (List.mem_cons.mp q).elim n810 (fun q => nomatch q))
  have f924 := f899.keep K910 (fun q => (List.mem_cons.mp q).elim n810 (fun q => nomatch q))
  have f925 := f900.keep K910 (fun q => (List.mem_cons.mp q).elim n811 (fun q => nomatch q))
  have f926 := f901.keep K910
  have f927 := f902.keep K910 (fun q => (List.mem_cons.mp q).elim n836 (fun q => nomatch q))
  have f928 := f903.keep K910 (fun q => (List.mem_cons.mp q).elim n836 (fun q => nomatch q))
  have f929 := f904.keep K910 (fun q => (List.mem_cons.mp q).elim n837 (fun q => nomatch q))
  have f930 := f905.keep K910
  have f931 := f906.keep K910 (fun q => (List.mem_cons.mp q).elim n866 (fun q => nomatch q))
  have f932 := f907.keep K910 (fun q => (List.mem_cons.mp q).elim n866 (fun q => nomatch q))
  have f933 := f908.keep K910 (fun q => (List.mem_cons.mp q).elim n867 (fun q => nomatch q))
  have z934 := Nat.le_trans z909 K910.1
  show own_GW _ _ p.tables e below s _ _ _ (T910.setTop (mkF m 175 #[.val (.long q1), .second, .val (.long q2), .second, .val (.int p3), .val (.int p4), .val (.int (1 : Int32)), .val (.int (0 : Int32)), .val (.ref cs), .val (.ref nw), .val (.ref ta), .val (.ref ex), .val (.long (q1 &&& (9223372036854775807 : Int64))), .second, .val (.ref b740), .unset, .unset, .unset] [(.ref b756)]))
  refine own_goW (fun t k => XS.astore X910.here hx rfl (hb hby at_175) rfl rfl (l' := #[.val (.long q1), .second, .val (.long q2), .second, .val (.int p3), .val (.int p4), .val (.int (1 : Int32)), .val (.int (0 : Int32)), .val (.ref cs), .val (.ref nw), .val (.ref ta), .val (.ref ex), .val (.long (q1 &&& (9223372036854775807 : Int64))), .second, .val (.ref b740), .val (.ref b756), .unset, .unset]) rfl k) ?_
  show own_GW _ _ p.tables e below s _ _ _ (T910.setTop (mkF m 177 #[.val (.long q1), .second, .val (.long q2), .second, .val (.int p3), .val (.int p4), .val (.int (1 : Int32)), .val (.int (0 : Int32)), .val (.ref cs), .val (.ref nw), .val (.ref ta), .val (.ref ex), .val (.long (q1 &&& (9223372036854775807 : Int64))), .second, .val (.ref b740), .val (.ref b756), .unset, .unset] []))
  refine own_goW (fun t k => XS.aload X910.here hx rfl (hb hby at_177) rfl rfl k) ?_
  show own_GW _ _ p.tables e below s _ _ _ (T910.setTop (mkF m 179 #[.val (.long q1), .second, .val (.long q2), .second, .val (.int p3), .val (.int p4), .val (.int (1 : Int32)), .val (.int (0 : Int32)), .val (.ref cs), .val (.ref nw), .val (.ref ta), .val (.ref ex), .val (.long (q1 &&& (9223372036854775807 : Int64))), .second, .val (.ref b740), .val (.ref b756), .unset, .unset] [(.ref b740)]))
  refine own_goW (fun t k => XS.aload X910.here hx rfl (hb hby at_179) rfl rfl k) ?_
  show own_GW _ _ p.tables e below s _ _ _ (T910.setTop (mkF m 181 #[.val (.long q1), .second, .val (.long q2), .second, .val (.int p3), .val (.int p4), .val (.int (1 : Int32)), .val (.int (0 : Int32)), .val (.ref cs), .val (.ref nw), .val (.ref ta), .val (.ref ex), .val (.long (q1 &&& (9223372036854775807 : Int64))), .second, .val (.ref b740), .val (.ref b756), .unset, .unset] [(.ref b756), (.ref b740)]))
  obtain ⟨cq935, kq935, q935a, q935b, q935c⟩ := isOf hZ838 rfl f914
  obtain ⟨_, _, ⟨T935, L935, k935, n935⟩, -, X935', sn935, gr935, ⟨Lc935, hQ935, l935, y935, z935, C935'⟩, st935⟩ := X910.virtualBackS hx (y := (⟨"com/example/vouchsafe/vouchsafe/AuditTally", "with", "(Lcom/example/vouchsafe/vouchsafe/LogEntry;)Lcom/example/vouchsafe/vouchsafe/AuditTally;"⟩ : MethodName)) (z := (⟨"com/example/vouchsafe/vouchsafe/AuditTally", "with", "(Lcom/example/vouchsafe/vouchsafe/LogEntry;)Lcom/example/vouchsafe/vouchsafe/AuditTally;"⟩ : MethodName)) ho838 (mvT hZ838 (hw _ (List.mem_of_getElem? (i := 87) rfl))) (mvT hZ838 (hw _ (List.mem_of_getElem? (i := 88) rfl))) (notFace_of_selects (args := #[]) (mvT hZ838 (hw _ (List.mem_of_getElem? (i := 90) rfl)))) (mvT hZ838 (hw _ (List.mem_of_getElem? (i := 90) rfl))) (mvT hZ838 (hw _ (List.mem_of_getElem? (i := 89) rfl))) (by decide) (backOfSH (W := 0) (rmwF l Z a0 hw [] b740 b756 nw a812 b812 kk812 w0 (q1 &&& (9223372036854775807 : Int64)) q2 T910.heap n0 z934 f917 f915 f916 Fe910 Fr910 f926 f927 f928 f929 f913 S0 hcw) hZ838 (hw _ (List.mem_of_getElem? (i := 91) rfl)) (hw _ (List.mem_of_getElem? (i := 32) rfl)) (by decide) (by decide) (own_hEL hw) C911.1) q935a q935c (g := (mkF m 181 #[.val (.long q1), .second, .val (.long q2), .second, .val (.int p3), .val (.int p4), .val (.int (1 : Int32)), .val (.int (0 : Int32)), .val (.ref cs), .val (.ref nw), .val (.ref ta), .val (.ref ex), .val (.long (q1 &&& (9223372036854775807 : Int64))), .second, .val (.ref b740), .val (.ref b756), .unset, .unset] [(.ref b756), (.ref b740)])) rfl (by rw [hml]; rfl) (Steps.refl _) (argsL := [(.ref b756)]) (rest := []) (lenOf pd__Lcom_example_vouchsafe_vouchsafe_LogEntry__Lcom_example_vouchsafe_vouchsafe_AuditTally_ rfl) rfl (by show 2 * 0 + _ ≤ _; exact Nat.le_of_eq rfl) (hb hby at_181) (fun _ _ => ⟨rfl, rfl, (by decide : 19 + 3 ≤ _), (by decide : 98 + 24 ≤ _)⟩)
  dsimp only [Pt.U, Pt.locs, Pt.cells, Pt.slots] at X935' sn935 gr935 l935 y935 z935 st935 hQ935 C935'
  subst l935 y935 z935
  obtain ⟨X935, hS935, hZ935, ho935⟩ := rebS hS838 hk912 X935' sn935 gr935 hZ838 ho838
  obtain ⟨⟨b935, rfl, Eb935, Fa935, Fl935⟩, N935q, K935⟩ := hQ935
  have N935 := Fr.app N910 N935q
  have C936 := C911.trans C935'
  refine own_goW (fun t k => st935.trans k) ?_
  have f937 := f913.keep K935 (fun x q => nomatch q)
  have f938 := f914.keep K935
  have f939 := f915.keep K935 (fun q => nomatch q)
  have f940 := f916.keep K935 (fun q => nomatch q)
  have f941 := f917.keep K935
  have f942 := f918.keep K935
  have f943 := f919.keep K935 (fun q => nomatch q)
  have f944 := f920.keep K935 (fun q => nomatch q)
  have f945 := f921.keep K935 (fun q => nomatch q)
  have f946 := f922.keep K935
  have f947 := f923.keep K935 (fun q => nomatch q)
  have f948 := f924.keep K935 (fun q => nomatch q)
  have f949 := f925.keep K935 (fun q => nomatch q)
  have f950 := f926.keep K935
  have f951 := f927.keep K935 (fun q => nomatch q)
  have f952 := f928.keep K935 (fun q => nomatch q)
  have f953 := f929.keep K935 (fun q => nomatch q)
  have f954 := f930.keep K935
  have f955 := f931.keep K935 (fun q => nomatch q)
  have f956 := f932.keep K935 (fun q => nomatch q)
  have f957 := f933.keep K935 (fun q => nomatch q)
  have f958 := Fe910.keep K935 (fun q => nomatch q)
  have f959 := Fr910.keep K935 (fun q => nomatch q)
  have z960 := Nat.le_trans z934 K935.1
  show own_GW _ _ p.tables e below s _ _ _ (T935.setTop (mkF m 184 #[.val (.long q1), .second, .val (.long q2), .second, .val (.int p3), .val (.int p4), .val (.int (1 : Int32)), .val (.int (0 : Int32)), .val (.ref cs), .val (.ref nw), .val (.ref ta), .val (.ref ex), .val (.long (q1 &&& (9223372036854775807 : Int64))), .second, .val (.ref b740), .val (.ref b756), .unset, .unset] [(.ref b935)]))
  obtain ⟨cq961, kq961, q961a, q961b, q961c⟩ := isOf hZ935 rfl Eb935
  obtain ⟨_, _, ⟨T961, L961, k961, n961⟩, -, X961', sn961, gr961, ⟨Lc961, hQ961, l961, y961, z961, C961'⟩, st961⟩ := X935.virtualBackS hx (y := (⟨"com/example/vouchsafe/vouchsafe/AuditTally", "last", "()Ljava/lang/String;"⟩ : MethodName)) (z := (⟨"com/example/vouchsafe/vouchsafe/AuditTally", "last", "()Ljava/lang/String;"⟩ : MethodName)) ho935 (mvT hZ935 (hw _ (List.mem_of_getElem? (i := 53) rfl))) (mvT hZ935 (hw _ (List.mem_of_getElem? (i := 54) rfl))) (notFace_of_selects (args := #[]) (mvT hZ935 (hw _ (List.mem_of_getElem? (i := 56) rfl)))) (mvT hZ935 (hw _ (List.mem_of_getElem? (i := 56) rfl))) (mvT hZ935 (hw _ (List.mem_of_getElem? (i := 55) rfl))) (by decide) (backOfSH (W := 0) (rmlF l Z a0 hw [] b935 ((q1 &&& (9223372036854775807 : Int64)) + (1 : Int64)) T935.heap n0 z960 Fa935 (own_more q1) Fl935) hZ935 (hw _ (List.mem_of_getElem? (i := 57) rfl)) (hw _ (List.mem_of_getElem? (i := 32) rfl)) (by decide) (by decide) (own_hEL hw) C936.1) q961a q961c (g := (mkF m 184 #[.val (.long q1), .second, .val (.long q2), .second, .val (.int p3), .val (.int p4), .val (.int (1 : Int32)), .val (.int (0 : Int32)), .val (.ref cs), .val (.ref nw), .val (.ref ta), .val (.ref ex), .val (.long (q1 &&& (9223372036854775807 : Int64))), .second, .val (.ref b740), .val (.ref b756), .unset, .unset] [(.ref b935)])) rfl (by rw [hml]; rfl) (Steps.refl _) (argsL := []) (rest := []) (lenOf pd___Ljava_lang_String_ rfl) rfl (by show 2 * 0 + _ ≤ _; exact Nat.le_of_eq rfl) (hb hby at_184) (fun _ _ => ⟨rfl, rfl, (by decide : 22 + 2 ≤ _), (by decide : 122 + 20 ≤ _)⟩)
  dsimp only [Pt.U, Pt.locs, Pt.cells, Pt.slots] at X961' sn961 gr961 l961 y961 z961 st961 hQ961 C961'
  subst l961 y961 z961
  obtain ⟨X961, hS961, hZ961, ho961⟩ := rebS hS935 (Nat.le_refl _) X961' sn961 gr961 hZ935 ho935
  obtain ⟨⟨a961, rfl, Ex961, Cx961, t961, kx961, Vx961, Ax961⟩, N961q, K961⟩ := hQ961
  have N961 := Fr.app N935 N961q
  have C962 := C936.trans C961'
  refine own_goW (fun t k => st961.trans k) ?_
  have f963 := f937.keep K961 (fun x q => nomatch q)
  have z964 := Nat.le_trans z960 K961.1
  show own_GW _ _ p.tables e below s _ _ _ (T961.setTop (mkF m 187 #[.val (.long q1), .second, .val (.long q2), .second, .val (.int p3), .val (.int p4), .val (.int (1 : Int32)), .val (.int (0 : Int32)), .val (.ref cs), .val (.ref nw), .val (.ref ta), .val (.ref ex), .val (.long (q1 &&& (9223372036854775807 : Int64))), .second, .val (.ref b740), .val (.ref b756), .unset, .unset] [(.ref a961)]))
  refine own_goW (fun t k => XS.astore X961.here hx rfl (hb hby at_187) rfl rfl (l' := #[.val (.long q1), .second, .val (.long q2), .second, .val (.int p3), .val (.int p4), .val (.int (1 : Int32)), .val (.int (0 : Int32)), .val (.ref cs), .val (.ref nw), .val (.ref ta), .val (.ref ex), .val (.long (q1 &&& (9223372036854775807 : Int64))), .second, .val (.ref b740), .val (.ref b756), .val (.ref a961), .unset]) rfl k) ?_
  show own_GW _ _ p.tables e below s _ _ _ (T961.setTop (mkF m 189 #[.val (.long q1), .second, .val (.long q2), .second, .val (.int p3), .val (.int p4), .val (.int (1 : Int32)), .val (.int (0 : Int32)), .val (.ref cs), .val (.ref nw), .val (.ref ta), .val (.ref ex), .val (.long (q1 &&& (9223372036854775807 : Int64))), .second, .val (.ref b740), .val (.ref b756), .val (.ref a961), .unset] []))
  refine own_goW (fun t k => XS.iload X961.here hx rfl (hb hby at_189) rfl k) ?_
  show own_GW _ _ p.tables e below s _ _ _ (T961.setTop (mkF m 191 #[.val (.long q1), .second, .val (.long q2), .second, .val (.int p3), .val (.int p4), .val (.int (1 : Int32)), .val (.int (0 : Int32)), .val (.ref cs), .val (.ref nw), .val (.ref ta), .val (.ref ex), .val (.long (q1 &&& (9223372036854775807 : Int64))), .second, .val (.ref b740), .val (.ref b756), .val (.ref a961), .unset] [(.int (0 : Int32))]))
  refine own_goW (fun t k => XS.ifYes X961.here hx rfl (pc0 := 191) (pc' := 199) rfl (hb hby at_191) rfl (by decide) (by decide) (by decide) k) ?_
  show own_GW _ _ p.tables e below s _ _ _ (T961.setTop (mkF m 199 #[.val (.long q1), .second, .val (.long q2), .second, .val (.int p3), .val (.int p4), .val (.int (1 : Int32)), .val (.int (0 : Int32)), .val (.ref cs), .val (.ref nw), .val (.ref ta), .val (.ref ex), .val (.long (q1 &&& (9223372036854775807 : Int64))), .second, .val (.ref b740), .val (.ref b756), .val (.ref a961), .unset] []))
  obtain ⟨a965, T965, h965, k965, b965, kk965, X965, e965, E965, hS965, hk965, hZ965, ho965, Ea965, Fc965, Fv965, V965, la965, lb965, C965', Li965, sf965, st965⟩ := ldcCH X961 hx hZ961 ho961 (hw _ (List.mem_of_getElem? (i := 50) rfl)) (own_wS hw) rfl hS961 (Nat.le_refl _) (own_hEL hw) (List.mem_of_getElem? (i := 5) rfl) C962.1 (vs := [(.int (70 : Int32)), (.int (65 : Int32)), (.int (73 : Int32)), (.int (76 : Int32))]) (z := (4 : Int32)) ⟨by decide, rfl⟩ (by decide) rfl (g := (mkF m 199 #[.val (.long q1), .second, .val (.long q2), .second, .val (.int p3), .val (.int p4), .val (.int (1 : Int32)), .val (.int (0 : Int32)), .val (.ref cs), .val (.ref nw), .val (.ref ta), .val (.ref ex), .val (.long (q1 &&& (9223372036854775807 : Int64))), .second, .val (.ref b740), .val (.ref b756), .val (.ref a961), .unset] [])) rfl (hb hby at_199) (n := 16) (by decide) (by decide) (by decide) (by decide)
  refine own_goW st965 ?_
  have C966 := C962.trans C965'
  have f967 := f963.ext E965
  have f968 := Exa.ext E965 Ex961
  have f969 := Fld.ext E965 Cx961
  have f970 := Fld.ext E965 Vx961
  have f971 := Ax961.ext E965
  have z972 := Nat.le_trans z964 E965.1
  show own_GW _ _ p.tables e below s _ _ _ (T965.setTop (mkF m 201 #[.val (.long q1), .second, .val (.long q2), .second, .val (.int p3), .val (.int p4), .val (.int (1 : Int32)), .val (.int (0 : Int32)), .val (.ref cs), .val (.ref nw), .val (.ref ta), .val (.ref ex), .val (.long (q1 &&& (9223372036854775807 : Int64))), .second, .val (.ref b740), .val (.ref b756), .val (.ref a961), .unset] [(.ref a965)]))
  refine own_goW (fun t k => XS.astore X965.here hx rfl (hb hby at_201) rfl rfl (l' := #[.val (.long q1), .second, .val (.long q2), .second, .val (.int p3), .val (.int p4), .val (.int (1 : Int32)), .val (.int (0 : Int32)), .val (.ref cs), .val (.ref nw), .val (.ref ta), .val (.ref ex), .val (.long (q1 &&& (9223372036854775807 : Int64))), .second, .val (.ref b740), .val (.ref b756), .val (.ref a961), .val (.ref a965)]) rfl k) ?_
  show own_GW _ _ p.tables e below s _ _ _ (T965.setTop (mkF m 203 #[.val (.long q1), .second, .val (.long q2), .second, .val (.int p3), .val (.int p4), .val (.int (1 : Int32)), .val (.int (0 : Int32)), .val (.ref cs), .val (.ref nw), .val (.ref ta), .val (.ref ex), .val (.long (q1 &&& (9223372036854775807 : Int64))), .second, .val (.ref b740), .val (.ref b756), .val (.ref a961), .val (.ref a965)] []))
  refine own_goW (fun t k => XS.aload X965.here hx rfl (hb hby at_203) rfl rfl k) ?_
  show own_GW _ _ p.tables e below s _ _ _ (T965.setTop (mkF m 205 #[.val (.long q1), .second, .val (.long q2), .second, .val (.int p3), .val (.int p4), .val (.int (1 : Int32)), .val (.int (0 : Int32)), .val (.ref cs), .val (.ref nw), .val (.ref ta), .val (.ref ex), .val (.long (q1 &&& (9223372036854775807 : Int64))), .second, .val (.ref b740), .val (.ref b756), .val (.ref a961), .val (.ref a965)] [(.ref a965)]))
  refine own_goW (fun t k => XS.aload X965.here hx rfl (hb hby at_205) rfl rfl k) ?_
  show own_GW _ _ p.tables e below s _ _ _ (T965.setTop (mkF m 207 #[.val (.long q1), .second, .val (.long q2), .second, .val (.int p3), .val (.int p4), .val (.int (1 : Int32)), .val (.int (0 : Int32)), .val (.ref cs), .val (.ref nw), .val (.ref ta), .val (.ref ex), .val (.long (q1 &&& (9223372036854775807 : Int64))), .second, .val (.ref b740), .val (.ref b756), .val (.ref a961), .val (.ref a965)] [(.ref a961), (.ref a965)]))
  obtain ⟨cq973, kq973, q973a, q973b, q973c⟩ := isOf hZ965 e965 Ea965
  obtain ⟨_, _, ⟨T973, L973, k973, n973⟩, -, X973, ⟨Lc973, hQ973, l973, y973, z973⟩, st973⟩ := X965.virtualBack hx (y := (⟨"java/lang/String", "equals", "(Ljava/lang/Object;)Z"⟩ : MethodName)) (z := (⟨"java/lang/String", "equals", "(Ljava/lang/Object;)Z"⟩ : MethodName)) ho965 (mvT hZ965 (hw _ (List.mem_of_getElem? (i := 59) rfl))) (mvT hZ965 (hw _ (List.mem_of_getElem? (i := 60) rfl))) (notFace_of_selects (args := #[]) (mvT hZ965 (hw _ (List.mem_of_getElem? (i := 62) rfl)))) (mvT hZ965 (hw _ (List.mem_of_getElem? (i := 62) rfl))) (mvT hZ965 (hw _ (List.mem_of_getElem? (i := 61) rfl))) (by decide) (StrChars.Road.eqW (W := 0) hZ965 (own_wE hw) (kI := 4) (hw _ (List.mem_of_getElem? (i := 2) rfl)) Ea965 Fv965 Fc965 V965 (StrChars.Road.codOf (cs := ([70, 65, 73, 76] : List Int32)) (n := 4) rfl (by decide)) (by decide) (by decide) f968 f970 f969 f971 (StrChars.Road.codOf (cs := ([70, 65, 73, 76] : List Int32)) (n := 4) rfl (by decide)) (by decide) (by decide) (Sta.ext f967.2 S0) hcw (by decide) (by decide)) q973a q973c (g := (mkF m 207 #[.val (.long q1), .second, .val (.long q2), .second, .val (.int p3), .val (.int p4), .val (.int (1 : Int32)), .val (.int (0 : Int32)), .val (.ref cs), .val (.ref nw), .val (.ref ta), .val (.ref ex), .val (.long (q1 &&& (9223372036854775807 : Int64))), .second, .val (.ref b740), .val (.ref b756), .val (.ref a961), .val (.ref a965)] [(.ref a961), (.ref a965)])) rfl (by rw [hml]; rfl) (Steps.refl _) (argsL := [(.ref a961)]) (rest := []) (lenOf pd__Ljava_lang_Object__Z rfl) rfl (by show 2 * 0 + _ ≤ _; exact Nat.le_of_eq rfl) (hb hby at_207) (fun _ _ => ⟨rfl, e965, (by decide : 26 + 0 ≤ _), (by decide : 162 + 0 ≤ _)⟩)
  dsimp only [Pt.U, Pt.locs, Pt.cells, Pt.slots] at X973 l973 y973 z973 st973 hQ973
  subst l973 y973 z973
  obtain ⟨hv973, rfl, hh973⟩ := hQ973
  obtain ⟨rfl, -⟩ := hv973.resolve_right (fun q => q.2 rfl)
  have N973q := Fr.nil n0
  have N973 := Fr.app N961 N973q
  refine own_goW (fun t k => st973.trans k) ?_
  show own_GW _ _ p.tables e below s _ _ _ (T973.setTop (mkF m 210 #[.val (.long q1), .second, .val (.long q2), .second, .val (.int p3), .val (.int p4), .val (.int (1 : Int32)), .val (.int (0 : Int32)), .val (.ref cs), .val (.ref nw), .val (.ref ta), .val (.ref ex), .val (.long (q1 &&& (9223372036854775807 : Int64))), .second, .val (.ref b740), .val (.ref b756), .val (.ref a961), .val (.ref a965)] [(.int (1 : Int32))]))
  exact own_retNW X973 hx hlk hS965 (by rw [hh973]; exact hk965) hZ965 (own_hEL hw) (by rw [hh973]; exact C966) (t := .boolean) (z' := (1 : Int32)) hret (by simp) (hb hby at_210) (rfl) (hQ _ _ N973) (Nat.le_trans (by decide) hkk) (Nat.le_trans (by decide) hnn)
set_option maxRecDepth 65536 in
set_option maxHeartbeats 40000000 in
theorem own_tail_11 {p : Program} {l : Launch} {e : Env} {s : State} {m : MethodId} {args : Array Value} {below : List Frame} {meth : Method} {c : Code} {T0 : State} {locs : List Loc} {Z : State} {a0 : Array Value} {h1 : Heap} {n0 k0 kk nn : Nat} {vm0 : Vm} {Q : Option Value → Heap → List Loc → Prop} (q1 q2 : Int64) (p3 p4 w0 : Int32) (cs nw ta ex : Addr)
    (X0 : Stand p l e room_1 (s.setVm vm0) m args below meth c T0 locs 8 52) (hx : p.tables.exec = Jvm.exec) (hlk : meth.locks = false) (hZ : Z.Warmed39 (s.setVm vm0).vm) (hw : ∀ d ∈ tables_1, d.before a0 Z = true) (hby : c.code = code) (hml : c.maxLocals = 18) (hown : (s.setVm vm0).vm.findClass "com/example/vouchsafe/vouchsafe/AuditTallyLastPinLaw" = some m.cls) (hret : meth.sig.returnType = some .boolean) (e0 : T0.heap = h1) (Z1 : n0 ≤ h1.size) (N0 : Fr n0 locs) (O0 : Old Z n0 h1) (S0 : Sta Z Z.heap "java/lang/String" "COMPACT_STRINGS" "Z" (.int w0)) (hcw : ¬ w0 = 0) (hS0 : s.Since vm0 k0) (hk0 : k0 ≤ h1.size) (C0 : CHr Z own_EL s.vm s.heap vm0 h1)
    (hQ : ∀ h L, Fr n0 L → Q (some (.int 1)) h L) (hkk : 48 ≤ kk) (hnn : 11456 ≤ nn) : own_GW Z own_EL p.tables e below s Q kk nn (T0.setTop (mkF m 122 #[.val (.long q1), .second, .val (.long q2), .second, .val (.int p3), .val (.int p4), .val (.int (1 : Int32)), .val (.int (1 : Int32)), .val (.ref cs), .val (.ref nw), .val (.ref ta), .val (.ref ex), .unset, .unset, .unset, .unset, .unset, .unset] [])) := by
  refine own_goW (fun t k => XS.lloadN X0.here hx rfl (hb hby at_122) rfl k) ?_
  show own_GW _ _ p.tables e below s _ _ _ (T0.setTop (mkF m 123 #[.val (.long q1), .second, .val (.long q2), .second, .val (.int p3), .val (.int p4), .val (.int (1 : Int32)), .val (.int (1 : Int32)), .val (.ref cs), .val (.ref nw), .val (.ref ta), .val (.ref ex), .unset, .unset, .unset, .unset, .unset, .unset] [(.long q1)]))
  refine own_goW (fun t k => X0.ldc2Long hx hown (mvT hZ (hw _ (List.mem_of_getElem? (i := 64) rfl))) (g := (mkF m 123 #[.val (.long q1), .second, .val (.long q2), .second, .val (.int p3), .val (.int p4), .val (.int (1 : Int32)), .val (.int (1 : Int32)), .val (.ref cs), .val (.ref nw), .val (.ref ta), .val (.ref ex), .unset, .unset, .unset, .unset, .unset, .unset] [(.long q1)])) rfl (hb hby at_123) _ k) ?_
  show own_GW _ _ p.tables e below s _ _ _ (T0.setTop (mkF m 126 #[.val (.long q1), .second, .val (.long q2), .second, .val (.int p3), .val (.int p4), .val (.int (1 : Int32)), .val (.int (1 : Int32)), .val (.ref cs), .val (.ref nw), .val (.ref ta), .val (.ref ex), .unset, .unset, .unset, .unset, .unset, .unset] [(.long (9223372036854775807 : Int64)), (.long q1)]))
  refine own_goW (fun t k => XS.land X0.here hx rfl (hb hby at_126) rfl k) ?_
  show own_GW _ _ p.tables e below s _ _ _ (T0.setTop (mkF m 127 #[.val (.long q1), .second, .val (.long q2), .second, .val (.int p3), .val (.int p4), .val (.int (1 : Int32)), .val (.int (1 : Int32)), .val (.ref cs), .val (.ref nw), .val (.ref ta), .val (.ref ex), .unset, .unset, .unset, .unset, .unset, .unset] [(.long (q1 &&& (9223372036854775807 : Int64)))]))
  refine own_goW (fun t k => XS.lstore X0.here hx rfl (hb hby at_127) rfl (l' := #[.val (.long q1), .second, .val (.long q2), .second, .val (.int p3), .val (.int p4), .val (.int (1 : Int32)), .val (.int (1 : Int32)), .val (.ref cs), .val (.ref nw), .val (.ref ta), .val (.ref ex), .val (.long (q1 &&& (9223372036854775807 : Int64))), .second, .unset, .unset, .unset, .unset]) rfl k) ?_
  show own_GW _ _ p.tables e below s _ _ _ (T0.setTop (mkF m 129 #[.val (.long q1), .second, .val (.long q2), .second, .val (.int p3), .val (.int p4), .val (.int (1 : Int32)), .val (.int (1 : Int32)), .val (.ref cs), .val (.ref nw), .val (.ref ta), .val (.ref ex), .val (.long (q1 &&& (9223372036854775807 : Int64))), .second, .unset, .unset, .unset, .unset] []))
  obtain ⟨T974, h974, X974, e974, E974, A974, D974, -, st974⟩ := newO X0 hx hZ hown (hw _ (List.mem_of_getElem? (i := 30) rfl)) (hw _ (List.mem_of_getElem? (i := 31) rfl)) (hw _ (List.mem_of_getElem? (i := 32) rfl)) e0 (g := (mkF m 129 #[.val (.long q1), .second, .val (.long q2), .second, .val (.int p3), .val (.int p4), .val (.int (1 : Int32)), .val (.int (1 : Int32)), .val (.ref cs), .val (.ref nw), .val (.ref ta), .val (.ref ex), .val (.long (q1 &&& (9223372036854775807 : Int64))), .second, .unset, .unset, .unset, .unset] [])) rfl (hb hby at_129) (by decide) (by decide)
  obtain ⟨b974, g974⟩ : ∃ z, z = h1.size := ⟨_, rfl⟩
  rw [← g974] at A974 D974 st974
  refine own_goW st974 ?_
  have g975 := Nat.le_trans Z1 (Nat.le_of_eq g974.symm)
  have C976 := C0.trans (CHr.ext E974 C0.1)
  have hk977 := Nat.le_trans hk0 E974.1
  have f978 := O0.ext E974
  have z979 := Nat.le_trans Z1 E974.1
  have f980 : Fld Z h974 b974 "com/example/vouchsafe/vouchsafe/AuditTally" "audits" "J" (.long (0 : Int64)) := D974 (Or.inr (hw _ (List.mem_of_getElem? (i := 43) rfl))) (ty := .long) (by decide)
  have f981 : Fld Z h974 b974 "com/example/vouchsafe/vouchsafe/AuditTally" "passed" "J" (.long (0 : Int64)) := D974 (Or.inr (hw _ (List.mem_of_getElem? (i := 45) rfl))) (ty := .long) (by decide)
  have f982 : Fld Z h974 b974 "com/example/vouchsafe/vouchsafe/AuditTally" "lastPassed" "Z" (.int (0 : Int32)) := D974 (Or.inr (hw _ (List.mem_of_getElem? (i := 47) rfl))) (ty := .boolean) (by decide)
  have f983 : Fld Z h974 b974 "com/example/vouchsafe/vouchsafe/AuditTally" "newest" "Ljava/lang/String;" .null := D974 (Or.inr (hw _ (List.mem_of_getElem? (i := 49) rfl))) (ty := (.object "java/lang/String")) (by decide)
  show own_GW _ _ p.tables e below s _ _ _ (T974.setTop (mkF m 132 #[.val (.long q1), .second, .val (.long q2), .second, .val (.int p3), .val (.int p4), .val (.int (1 : Int32)), .val (.int (1 : Int32)), .val (.ref cs), .val (.ref nw), .val (.ref ta), .val (.ref ex), .val (.long (q1 &&& (9223372036854775807 : Int64))), .second, .unset, .unset, .unset, .unset] [(.ref b974)]))
  refine own_goW (fun t k => XS.dup X974.here hx rfl (hb hby at_132) rfl rfl k) ?_
  show own_GW _ _ p.tables e below s _ _ _ (T974.setTop (mkF m 133 #[.val (.long q1), .second, .val (.long q2), .second, .val (.int p3), .val (.int p4), .val (.int (1 : Int32)), .val (.int (1 : Int32)), .val (.ref cs), .val (.ref nw), .val (.ref ta), .val (.ref ex), .val (.long (q1 &&& (9223372036854775807 : Int64))), .second, .unset, .unset, .unset, .unset] [(.ref b974), (.ref b974)]))
  refine own_goW (fun t k => XS.lload X974.here hx rfl (hb hby at_133) rfl k) ?_
  show own_GW _ _ p.tables e below s _ _ _ (T974.setTop (mkF m 135 #[.val (.long q1), .second, .val (.long q2), .second, .val (.int p3), .val (.int p4), .val (.int (1 : Int32)), .val (.int (1 : Int32)), .val (.ref cs), .val (.ref nw), .val (.ref ta), .val (.ref ex), .val (.long (q1 &&& (9223372036854775807 : Int64))), .second, .unset, .unset, .unset, .unset] [(.long (q1 &&& (9223372036854775807 : Int64))), (.ref b974), (.ref b974)]))
  refine own_goW (fun t k => XS.lloadN X974.here hx rfl (hb hby at_135) rfl k) ?_
  show own_GW _ _ p.tables e below s _ _ _ (T974.setTop (mkF m 136 #[.val (.long q1), .second, .val (.long q2), .second, .val (.int p3), .val (.int p4), .val (.int (1 : Int32)), .val (.int (1 : Int32)), .val (.ref cs), .val (.ref nw), .val (.ref ta), .val (.ref ex), .val (.long (q1 &&& (9223372036854775807 : Int64))), .second, .unset, .unset, .unset, .unset] [(.long q2), (.long (q1 &&& (9223372036854775807 : Int64))), (.ref b974), (.ref b974)]))
  refine own_goW (fun t k => XS.iload X974.here hx rfl (hb hby at_136) rfl k) ?_
  show own_GW _ _ p.tables e below s _ _ _ (T974.setTop (mkF m 138 #[.val (.long q1), .second, .val (.long q2), .second, .val (.int p3), .val (.int p4), .val (.int (1 : Int32)), .val (.int (1 : Int32)), .val (.ref cs), .val (.ref nw), .val (.ref ta), .val (.ref ex), .val (.long (q1 &&& (9223372036854775807 : Int64))), .second, .unset, .unset, .unset, .unset] [(.int (1 : Int32)), (.long q2), (.long (q1 &&& (9223372036854775807 : Int64))), (.ref b974), (.ref b974)]))
  refine own_goW (fun t k => XS.aload X974.here hx rfl (hb hby at_138) rfl rfl k) ?_
  show own_GW _ _ p.tables e below s _ _ _ (T974.setTop (mkF m 140 #[.val (.long q1), .second, .val (.long q2), .second, .val (.int p3), .val (.int p4), .val (.int (1 : Int32)), .val (.int (1 : Int32)), .val (.ref cs), .val (.ref nw), .val (.ref ta), .val (.ref ex), .val (.long (q1 &&& (9223372036854775807 : Int64))), .second, .unset, .unset, .unset, .unset] [(.ref nw), (.int (1 : Int32)), (.long q2), (.long (q1 &&& (9223372036854775807 : Int64))), (.ref b974), (.ref b974)]))
  obtain ⟨_, _, ⟨T984, L984, k984, n984⟩, -, X984, ⟨Lc984, hQ984, l984, y984, z984⟩, st984⟩ := X974.specialBack hx (y := (⟨"com/example/vouchsafe/vouchsafe/AuditTally", "<init>", "(JJZLjava/lang/String;)V"⟩ : MethodName)) rfl hown (mvT hZ (hw _ (List.mem_of_getElem? (i := 33) rfl))) (mvT hZ (hw _ (List.mem_of_getElem? (i := 34) rfl))) (mvT hZ (hw _ (List.mem_of_getElem? (i := 35) rfl))) (by decide) (backOf (W := 1) (rma1 l Z a0 hw [] b974 nw (q1 &&& (9223372036854775807 : Int64)) q2 h974 n0 z979 A974 f980 f981 f982 f983 g975) hZ (hw _ (List.mem_of_getElem? (i := 35) rfl)) (hw _ (List.mem_of_getElem? (i := 32) rfl)) (by decide) (by decide)) (g := (mkF m 140 #[.val (.long q1), .second, .val (.long q2), .second, .val (.int p3), .val (.int p4), .val (.int (1 : Int32)), .val (.int (1 : Int32)), .val (.ref cs), .val (.ref nw), .val (.ref ta), .val (.ref ex), .val (.long (q1 &&& (9223372036854775807 : Int64))), .second, .unset, .unset, .unset, .unset] [(.ref nw), (.int (1 : Int32)), (.long q2), (.long (q1 &&& (9223372036854775807 : Int64))), (.ref b974), (.ref b974)])) rfl (by rw [hml]; rfl) (Steps.refl _) (a := b974) (argsL := [(.long (q1 &&& (9223372036854775807 : Int64))), (.long q2), (.int (1 : Int32)), (.ref nw)]) (rest := [(.ref b974)]) (lenOf pd__JJZLjava_lang_String__V rfl) rfl (by show 2 * 0 + _ ≤ _; exact Nat.le_of_eq rfl) (hb hby at_140) (fun _ _ => ⟨rfl, e974, (by decide : 9 + 0 ≤ _), (by decide : 56 + 0 ≤ _)⟩)
  dsimp only [Pt.U, Pt.locs, Pt.cells, Pt.slots] at X984 l984 y984 z984 st984 hQ984
  subst l984 y984 z984
  obtain ⟨rfl, N984q, K984, Fa984, Fp984, Fl984⟩ := hQ984
  have N984 := Fr.app N0 N984q
  refine own_goW (fun t k => st984.trans k) ?_
  have C985 := C976.trans (CHr.keep K984 (fun x => (fun q => (List.mem_cons.mp q).elim (fun e => e ▸ (Safe.exa hZ.alike A974 (by decide) (by decide))) (fun q => nomatch q))) C976.1)
  have hk986 := Nat.le_trans hk977 K984.1
  have f987 := f978.keep K984 (fun x => (fun q => (List.mem_cons.mp q).elim (fun e => e ▸ g975) (fun q => nomatch q)))
  have f988 := A974.keep K984
  have z989 := Nat.le_trans z979 K984.1
  show own_GW _ _ p.tables e below s _ _ _ (T984.setTop (mkF m 143 #[.val (.long q1), .second, .val (.long q2), .second, .val (.int p3), .val (.int p4), .val (.int (1 : Int32)), .val (.int (1 : Int32)), .val (.ref cs), .val (.ref nw), .val (.ref ta), .val (.ref ex), .val (.long (q1 &&& (9223372036854775807 : Int64))), .second, .unset, .unset, .unset, .unset] [(.ref b974)]))
  refine own_goW (fun t k => XS.astore X984.here hx rfl (hb hby at_143) rfl rfl (l' := #[.val (.long q1), .second, .val (.long q2), .second, .val (.int p3), .val (.int p4), .val (.int (1 : Int32)), .val (.int (1 : Int32)), .val (.ref cs), .val (.ref nw), .val (.ref ta), .val (.ref ex), .val (.long (q1 &&& (9223372036854775807 : Int64))), .second, .val (.ref b974), .unset, .unset, .unset]) rfl k) ?_
  show own_GW _ _ p.tables e below s _ _ _ (T984.setTop (mkF m 145 #[.val (.long q1), .second, .val (.long q2), .second, .val (.int p3), .val (.int p4), .val (.int (1 : Int32)), .val (.int (1 : Int32)), .val (.ref cs), .val (.ref nw), .val (.ref ta), .val (.ref ex), .val (.long (q1 &&& (9223372036854775807 : Int64))), .second, .val (.ref b974), .unset, .unset, .unset] []))
  obtain ⟨T990, h990, X990, e990, E990, A990, D990, -, st990⟩ := newO X984 hx hZ hown (hw _ (List.mem_of_getElem? (i := 65) rfl)) (hw _ (List.mem_of_getElem? (i := 66) rfl)) (hw _ (List.mem_of_getElem? (i := 67) rfl)) rfl (g := (mkF m 145 #[.val (.long q1), .second, .val (.long q2), .second, .val (.int p3), .val (.int p4), .val (.int (1 : Int32)), .val (.int (1 : Int32)), .val (.ref cs), .val (.ref nw), .val (.ref ta), .val (.ref ex), .val (.long (q1 &&& (9223372036854775807 : Int64))), .second, .val (.ref b974), .unset, .unset, .unset] [])) rfl (hb hby at_145) (by decide) (by decide)
  obtain ⟨b990, g990⟩ : ∃ z, z = T984.heap.size := ⟨_, rfl⟩
  rw [← g990] at A990 D990 st990
  refine own_goW st990 ?_
  have g991 := Nat.le_trans z989 (Nat.le_of_eq g990.symm)
  have n992 := Nat.ne_of_lt (Nat.lt_of_lt_of_le f988.lt (Nat.le_of_eq g990.symm))
  have C993 := C985.trans (CHr.ext E990 C985.1)
  have hk994 := Nat.le_trans hk986 E990.1
  have f995 := f987.ext E990
  have f996 := Exa.ext E990 f988
  have f997 := Fld.ext E990 Fa984
  have f998 := Fld.ext E990 Fp984
  have z999 := Nat.le_trans z989 E990.1
  have f1000 : Fld Z h990 b990 "com/example/vouchsafe/vouchsafe/LogEntry" "eid" "Ljava/lang/String;" .null := D990 (Or.inr (hw _ (List.mem_of_getElem? (i := 76) rfl))) (ty := (.object "java/lang/String")) (by decide)
  have f1001 : Fld Z h990 b990 "com/example/vouchsafe/vouchsafe/LogEntry" "prev" "Ljava/lang/String;" .null := D990 (Or.inr (hw _ (List.mem_of_getElem? (i := 78) rfl))) (ty := (.object "java/lang/String")) (by decide)
  have f1002 : Fld Z h990 b990 "com/example/vouchsafe/vouchsafe/LogEntry" "group" "Ljava/lang/String;" .null := D990 (Or.inr (hw _ (List.mem_of_getElem? (i := 80) rfl))) (ty := (.object "java/lang/String")) (by decide)
  have f1003 : Fld Z h990 b990 "com/example/vouchsafe/vouchsafe/LogEntry" "result" "Ljava/lang/String;" .null := D990 (Or.inr (hw _ (List.mem_of_getElem? (i := 82) rfl))) (ty := (.object "java/lang/String")) (by decide)
  have f1004 : Fld Z h990 b990 "com/example/vouchsafe/vouchsafe/LogEntry" "time" "Ljava/lang/String;" .null := D990 (Or.inr (hw _ (List.mem_of_getElem? (i := 84) rfl))) (ty := (.object "java/lang/String")) (by decide)
  have f1005 : Fld Z h990 b990 "com/example/vouchsafe/vouchsafe/LogEntry" "signature" "[B" .null := D990 (Or.inr (hw _ (List.mem_of_getElem? (i := 86) rfl))) (ty := (.array .byte)) (by decide)
  show own_GW _ _ p.tables e below s _ _ _ (T990.setTop (mkF m 148 #[.val (.long q1), .second, .val (.long q2), .second, .val (.int p3), .val (.int p4), .val (.int (1 : Int32)), .val (.int (1 : Int32)), .val (.ref cs), .val (.ref nw), .val (.ref ta), .val (.ref ex), .val (.long (q1 &&& (9223372036854775807 : Int64))), .second, .val (.ref b974), .unset, .unset, .unset] [(.ref b990)]))
  refine own_goW (fun t k => XS.dup X990.here hx rfl (hb hby at_148) rfl rfl k) ?_
  show own_GW _ _ p.tables e below s _ _ _ (T990.setTop (mkF m 149 #[.val (.long q1), .second, .val (.long q2), .second, .val (.int p3), .val (.int p4), .val (.int (1 : Int32)), .val (.int (1 : Int32)), .val (.ref cs), .val (.ref nw), .val (.ref ta), .val (.ref ex), .val (.long (q1 &&& (9223372036854775807 : Int64))), .second, .val (.ref b974), .unset, .unset, .unset] [(.ref b990), (.ref b990)]))
  refine own_goW (fun t k => XS.aload X990.here hx rfl (hb hby at_149) rfl rfl k) ?_
  show own_GW _ _ p.tables e below s _ _ _ (T990.setTop (mkF m 151 #[.val (.long q1), .second, .val (.long q2), .second, .val (.int p3), .val (.int p4), .val (.int (1 : Int32)), .val (.int (1 : Int32)), .val (.ref cs), .val (.ref nw), .val (.ref ta), .val (.ref ex), .val (.long (q1 &&& (9223372036854775807 : Int64))), .second, .val (.ref b974), .unset, .unset, .unset] [(.ref nw), (.ref b990), (.ref b990)]))
  obtain ⟨a1006, T1006, h1006, k1006, b1006, kk1006, X1006, e1006, E1006, hS1006, hk1006, hZ1006, ho1006, Ea1006, Fc1006, Fv1006, V1006, la1006, lb1006, C1006', Li1006, sf1006, st1006⟩ := ldcCH X990 hx hZ hown (hw _ (List.mem_of_getElem? (i := 68) rfl)) (own_wS hw) e990 hS0 hk994 (own_hEL hw) (List.mem_of_getElem? (i := 6) rfl) C993.1 (vs := []) (z := (0 : Int32)) ⟨by decide, rfl⟩ (by decide) rfl (g := (mkF m 151 #[.val (.long q1), .second, .val (.long q2), .second, .val (.int p3), .val (.int p4), .val (.int (1 : Int32)), .val (.int (1 : Int32)), .val (.ref cs), .val (.ref nw), .val (.ref ta), .val (.ref ex), .val (.long (q1 &&& (9223372036854775807 : Int64))), .second, .val (.ref b974), .unset, .unset, .unset] [(.ref nw), (.ref b990), (.ref b990)])) rfl (hb hby at_151) (n := 0) (by decide) (by decide) (by decide) (by decide)
  refine own_goW st1006 ?_
  have C1007 := C993.trans C1006'
  have f1008 := f995.ext E1006
  have f1009 := Exa.ext E1006 f996
  have f1010 := Fld.ext E1006 f997
  have f1011 := Fld.ext E1006 f998
  have f1012 := Exa.ext E1006 A990
  have f1013 := Fld.ext E1006 f1000
  have f1014 := Fld.ext E1006 f1001
  have f1015 := Fld.ext E1006 f1002
  have f1016 := Fld.ext E1006 f1003
  have f1017 := Fld.ext E1006 f1004
  have f1018 := Fld.ext E1006 f1005
  have z1019 := Nat.le_trans z999 E1006.1
  have n1020 := ne_exa Ea1006 f1009 (by decide)
  have n1021 := (Exa.neArv f1009 V1006 (hw _ (List.mem_of_getElem? (i := 31) rfl))).symm
  have n1022 := ne_exa Ea1006 f1012 (by decide)
  have n1023 := (Exa.neArv f1012 V1006 (hw _ (List.mem_of_getElem? (i := 66) rfl))).symm
  show own_GW _ _ p.tables e below s _ _ _ (T1006.setTop (mkF m 153 #[.val (.long q1), .second, .val (.long q2), .second, .val (.int p3), .val (.int p4), .val (.int (1 : Int32)), .val (.int (1 : Int32)), .val (.ref cs), .val (.ref nw), .val (.ref ta), .val (.ref ex), .val (.long (q1 &&& (9223372036854775807 : Int64))), .second, .val (.ref b974), .unset, .unset, .unset] [(.ref a1006), (.ref nw), (.ref b990), (.ref b990)]))
  obtain ⟨a1024, T1024, h1024, k1024, b1024, kk1024, X1024, e1024, E1024, hS1024, hk1024, hZ1024, ho1024, Ea1024, Fc1024, Fv1024, V1024, la1024, lb1024, C1024', Li1024, sf1024, st1024⟩ := ldcCH X1006 hx hZ1006 ho1006 (hw _ (List.mem_of_getElem? (i := 69) rfl)) (own_wS hw) e1006 hS1006 hk1006 (own_hEL hw) (List.mem_of_getElem? (i := 7) rfl) C1007.1 (vs := [(.int (103 : Int32))]) (z := (1 : Int32)) ⟨by decide, rfl⟩ (by decide) rfl (g := (mkF m 153 #[.val (.long q1), .second, .val (.long q2), .second, .val (.int p3), .val (.int p4), .val (.int (1 : Int32)), .val (.int (1 : Int32)), .val (.ref cs), .val (.ref nw), .val (.ref ta), .val (.ref ex), .val (.long (q1 &&& (9223372036854775807 : Int64))), .second, .val (.ref b974), .unset, .unset, .unset] [(.ref a1006), (.ref nw), (.ref b990), (.ref b990)])) rfl (hb hby at_153) (n := 4) (by decide) (by decide) (by decide) (by decide)
  refine own_goW st1024 ?_
  have C1025 := C1007.trans C1024'
  have f1026 := f1008.ext E1024
  have f1027 := Exa.ext E1024 f1009
  have f1028 := Fld.ext E1024 f1010
  have f1029 := Fld.ext E1024 f1011
  have f1030 := Exa.ext E1024 f1012
  have f1031 := Fld.ext E1024 f1013
  have f1032 := Fld.ext E1024 f1014
  have f1033 := Fld.ext E1024 f1015
  have f1034 := Fld.ext E1024 f1016
  have f1035 := Fld.ext E1024 f1017
  have f1036 := Fld.ext E1024 f1018
  have f1037 := Exa.ext E1024 Ea1006
  have f1038 := Fld.ext E1024 Fc1006
  have f1039 := Fld.ext E1024 Fv1006
  have f1040 := V1006.ext E1024
  have z1041 := Nat.le_trans z1019 E1024.1
  have n1042 := ne_exa Ea1024 f1027 (by decide)
  have n1043 := (Exa.neArv f1027 V1024 (hw _ (List.mem_of_getElem? (i := 31) rfl))).symm
  have n1044 := ne_exa Ea1024 f1030 (by decide)
  have n1045 := (Exa.neArv f1030 V1024 (hw _ (List.mem_of_getElem? (i := 66) rfl))).symm
  show own_GW _ _ p.tables e below s _ _ _ (T1024.setTop (mkF m 155 #[.val (.long q1), .second, .val (.long q2), .second, .val (.int p3), .val (.int p4), .val (.int (1 : Int32)), .val (.int (1 : Int32)), .val (.ref cs), .val (.ref nw), .val (.ref ta), .val (.ref ex), .val (.long (q1 &&& (9223372036854775807 : Int64))), .second, .val (.ref b974), .unset, .unset, .unset] [(.ref a1024), (.ref a1006), (.ref nw), (.ref b990), (.ref b990)]))
  refine own_goW (fun t k => XS.iload X1024.here hx rfl (hb hby at_155) rfl k) ?_
  show own_GW _ _ p.tables e below s _ _ _ (T1024.setTop (mkF m 157 #[.val (.long q1), .second, .val (.long q2), .second, .val (.int p3), .val (.int p4), .val (.int (1 : Int32)), .val (.int (1 : Int32)), .val (.ref cs), .val (.ref nw), .val (.ref ta), .val (.ref ex), .val (.long (q1 &&& (9223372036854775807 : Int64))), .second, .val (.ref b974), .unset, .unset, .unset] [(.int (1 : Int32)), (.ref a1024), (.ref a1006), (.ref nw), (.ref b990), (.ref b990)]))
  refine own_goW (fun t k => XS.ifNo X1024.here hx rfl (hb hby at_157) rfl (by decide) k) ?_
  show own_GW _ _ p.tables e below s _ _ _ (T1024.setTop (mkF m 160 #[.val (.long q1), .second, .val (.long q2), .second, .val (.int p3), .val (.int p4), .val (.int (1 : Int32)), .val (.int (1 : Int32)), .val (.ref cs), .val (.ref nw), .val (.ref ta), .val (.ref ex), .val (.long (q1 &&& (9223372036854775807 : Int64))), .second, .val (.ref b974), .unset, .unset, .unset] [(.ref a1024), (.ref a1006), (.ref nw), (.ref b990), (.ref b990)]))
  obtain ⟨a1046, T1046, h1046, k1046, b1046, kk1046, X1046, e1046, E1046, hS1046, hk1046, hZ1046, ho1046, Ea1046, Fc1046, Fv1046, V1046, la1046, lb1046, C1046', Li1046, sf1046, st1046⟩ := ldcCH X1024 hx hZ1024 ho1024 (hw _ (List.mem_of_getElem? (i := 113) rfl)) (own_wS hw) e1024 hS1024 hk1024 (own_hEL hw) (List.mem_of_getElem? (i := 8) rfl) C1025.1 (vs := [(.int (112 : Int32)), (.int (97 : Int32)), (.int (115 : Int32)), (.int (115 : Int32))]) (z := (4 : Int32)) ⟨by decide, rfl⟩ (by decide) rfl (g := (mkF m 160 #[.val (.long q1), .second, .val (.long q2), .second, .val (.int p3), .val (.int p4), .val (.int (1 : Int32)), .val (.int (1 : Int32)), .val (.ref cs), .val (.ref nw), .val (.ref ta), .val (.ref ex), .val (.long (q1 &&& (9223372036854775807 : Int64))), .second, .val (.ref b974), .unset, .unset, .unset] [(.ref a1024), (.ref a1006), (.ref nw), (.ref b990), (.ref b990)])) rfl (hb hby at_160) (n := 16) (by decide) (by decide) (by decide) (by decide)
  refine own_goW st1046 ?_
  have C1047 := C1025.trans C1046'
  have f1048 := f1026.ext E1046
  have f1049 := Exa.ext E1046 f1027
  have f1050 := Fld.ext E1046 f1028
  have f1051 := Fld.ext E1046 f1029
  have f1052 := Exa.ext E1046 f1030
  have f1053 := Fld.ext E1046 f1031
  have f1054 := Fld.ext E1046 f1032
  have f1055 := Fld.ext E1046 f1033
  have f1056 := Fld.ext E1046 f1034
  have f1057 := Fld.ext E1046 f1035
  have f1058 := Fld.ext E1046 f1036
  have f1059 := Exa.ext E1046 f1037
  have f1060 := Fld.ext E1046 f1038
  have f1061 := Fld.ext E1046 f1039
  have f1062 := f1040.ext E1046
  have f1063 := Exa.ext E1046 Ea1024
  have f1064 := Fld.ext E1046 Fc1024
  have f1065 := Fld.ext E1046 Fv1024
  have f1066 := V1024.ext E1046
  have z1067 := Nat.le_trans z1041 E1046.1
  have n1068 := ne_exa Ea1046 f1049 (by decide)
  have n1069 := (Exa.neArv f1049 V1046 (hw _ (List.mem_of_getElem? (i := 31) rfl))).symm
  have n1070 := ne_exa Ea1046 f1052 (by decide)
  have n1071 := (Exa.neArv f1052 V1046 (hw _ (List.mem_of_getElem? (i := 66) rfl))).symm
  show own_GW _ _ p.tables e below s _ _ _ (T1046.setTop (mkF m 162 #[.val (.long q1), .second, .val (.long q2), .second, .val (.int p3), .val (.int p4), .val (.int (1 : Int32)), .val (.int (1 : Int32)), .val (.ref cs), .val (.ref nw), .val (.ref ta), .val (.ref ex), .val (.long (q1 &&& (9223372036854775807 : Int64))), .second, .val (.ref b974), .unset, .unset, .unset] [(.ref a1046), (.ref a1024), (.ref a1006), (.ref nw), (.ref b990), (.ref b990)]))
  refine own_goW (fun t k => XS.goto X1046.here hx rfl (pc0 := 162) (pc' := 167) rfl (hb hby at_162) (by decide) (by decide) k) ?_
  show own_GW _ _ p.tables e below s _ _ _ (T1046.setTop (mkF m 167 #[.val (.long q1), .second, .val (.long q2), .second, .val (.int p3), .val (.int p4), .val (.int (1 : Int32)), .val (.int (1 : Int32)), .val (.ref cs), .val (.ref nw), .val (.ref ta), .val (.ref ex), .val (.long (q1 &&& (9223372036854775807 : Int64))), .second, .val (.ref b974), .unset, .unset, .unset] [(.ref a1046), (.ref a1024), (.ref a1006), (.ref nw), (.ref b990), (.ref b990)]))
  obtain ⟨a1072, T1072, h1072, k1072, b1072, kk1072, X1072, e1072, E1072, hS1072, hk1072, hZ1072, ho1072, Ea1072, Fc1072, Fv1072, V1072, la1072, lb1072, C1072', Li1072, sf1072, st1072⟩ := ldcCH X1046 hx hZ1046 ho1046 (hw _ (List.mem_of_getElem? (i := 68) rfl)) (own_wS hw) e1046 hS1046 hk1046 (own_hEL hw) (List.mem_of_getElem? (i := 6) rfl) C1047.1 (vs := []) (z := (0 : Int32)) ⟨by decide, rfl⟩ (by decide) rfl (g := (mkF m 167 #[.val (.long q1), .second, .val (.long q2), .second, .val (.int p3), .val (.int p4), .val (.int (1 : Int32)), .val (.int (1 : Int32)), .val (.ref cs), .val (.ref nw), .val (.ref ta), .val (.ref ex), .val (.long (q1 &&& (9223372036854775807 : Int64))), .second, .val (.ref b974), .unset, .unset, .unset] [(.ref a1046), (.ref a1024), (.ref a1006), (.ref nw), (.ref b990), (.ref b990)])) rfl (hb hby at_167) (n := 0) (by decide) (by decide) (by decide) (by decide)
  refine own_goW st1072 ?_
  have C1073 := C1047.trans C1072'
  have f1074 := f1048.ext E1072
  have f1075 := Exa.ext E1072 f1049
  have f1076 := Fld.ext E1072 f1050
  have f1077 := Fld.ext E1072 f1051
  have f1078 := Exa.ext E1072 f1052
  have f1079 := Fld.ext E1072 f1053
  have f1080 := Fld.ext E1072 f1054
  have f1081 := Fld.ext E1072 f1055
  have f1082 := Fld.ext E1072 f1056
  have f1083 := Fld.ext E1072 f1057
  have f1084 := Fld.ext E1072 f1058
  have f1085 := Exa.ext E1072 f1059
  have f1086 := Fld.ext E1072 f1060
  have f1087 := Fld.ext E1072 f1061
  have f1088 := f1062.ext E1072
  have f1089 := Exa.ext E1072 f1063
  have f1090 := Fld.ext E1072 f1064
  have f1091 := Fld.ext E1072 f1065
  have f1092 := f1066.ext E1072
  have f1093 := Exa.ext E1072 Ea1046
  have f1094 := Fld.ext E1072 Fc1046
  have f1095 := Fld.ext E1072 Fv1046
  have f1096 := V1046.ext E1072
  have z1097 := Nat.le_trans z1067 E1072.1
  have n1098 := ne_exa Ea1072 f1075 (by decide)
  have n1099 := (Exa.neArv f1075 V1072 (hw _ (List.mem_of_getElem? (i := 31) rfl))).symm
  have n1100 := ne_exa Ea1072 f1078 (by decide)
  have n1101 := (Exa.neArv f1078 V1072 (hw _ (List.mem_of_getElem? (i := 66) rfl))).symm
  show own_GW _ _ p.tables e below s _ _ _ (T1072.setTop (mkF m 169 #[.val (.long q1), .second, .val (.long q2), .second, .val (.int p3), .val (.int p4), .val (.int (1 : Int32)), .val (.int (1 : Int32)), .val (.ref cs), .val (.ref nw), .val (.ref ta), .val (.ref ex), .val (.long (q1 &&& (9223372036854775807 : Int64))), .second, .val (.ref b974), .unset, .unset, .unset] [(.ref a1072), (.ref a1046), (.ref a1024), (.ref a1006), (.ref nw), (.ref b990), (.ref b990)]))
  refine own_goW (fun t k => XS.iconst X1072.here hx rfl (hb hby at_169) k) ?_
  show own_GW _ _ p.tables e below s _ _ _ (T1072.setTop (mkF m 170 #[.val (.long q1), .second, .val (.long q2), .second, .val (.int p3), .val (.int p4), .val (.int (1 : Int32)), .val (.int (1 : Int32)), .val (.ref cs), .val (.ref nw), .val (.ref ta), .val (.ref ex), .val (.long (q1 &&& (9223372036854775807 : Int64))), .second, .val (.ref b974), .unset, .unset, .unset] [(.int (0 : Int32)), (.ref a1072), (.ref a1046), (.ref a1024), (.ref a1006), (.ref nw), (.ref b990), (.ref b990)]))
  obtain ⟨T1102, h1102, k1102, X1102, e1102, E1102, A1102, st1102⟩ := newP X1072 hx hZ1072 (hw _ (List.mem_of_getElem? (i := 19) rfl)) e1072 (g := (mkF m 170 #[.val (.long q1), .second, .val (.long q2), .second, .val (.int p3), .val (.int p4), .val (.int (1 : Int32)), .val (.int (1 : Int32)), .val (.ref cs), .val (.ref nw), .val (.ref ta), .val (.ref ex), .val (.long (q1 &&& (9223372036854775807 : Int64))), .second, .val (.ref b974), .unset, .unset, .unset] [(.int (0 : Int32)), (.ref a1072), (.ref a1046), (.ref a1024), (.ref a1006), (.ref nw), (.ref b990), (.ref b990)])) rfl (hb hby at_170) rfl (by decide) (cap := 0) (by decide) (by decide) (by decide) (by decide)
  obtain ⟨b1102, g1102⟩ : ∃ z, z = h1072.size := ⟨_, rfl⟩
  rw [← g1102] at A1102 st1102
  refine own_goW st1102 ?_
  have g1103 := Nat.le_trans z1097 (Nat.le_of_eq g1102.symm)
  have n1104 := Nat.ne_of_lt (Nat.lt_of_lt_of_le f1075.lt (Nat.le_of_eq g1102.symm))
  have n1105 := Nat.ne_of_lt (Nat.lt_of_lt_of_le f1078.lt (Nat.le_of_eq g1102.symm))
  have n1106 := Nat.ne_of_lt (Nat.lt_of_lt_of_le f1085.lt (Nat.le_of_eq g1102.symm))
  have n1107 := Nat.ne_of_lt (Nat.lt_of_lt_of_le f1088.lt (Nat.le_of_eq g1102.symm))
  have n1108 := Nat.ne_of_lt (Nat.lt_of_lt_of_le f1089.lt (Nat.le_of_eq g1102.symm))
  have n1109 := Nat.ne_of_lt (Nat.lt_of_lt_of_le f1092.lt (Nat.le_of_eq g1102.symm))
  have n1110 := Nat.ne_of_lt (Nat.lt_of_lt_of_le f1093.lt (Nat.le_of_eq g1102.symm))
  have n1111 := Nat.ne_of_lt (Nat.lt_of_lt_of_le f1096.lt (Nat.le_of_eq g1102.symm))
  have n1112 := Nat.ne_of_lt (Nat.lt_of_lt_of_le Ea1072.lt (Nat.le_of_eq g1102.symm))
  have n1113 := Nat.ne_of_lt (Nat.lt_of_lt_of_le V1072.lt (Nat.le_of_eq g1102.symm))
  have C1114 := C1073.trans (CHr.ext E1102 C1073.1)
  have hk1115 := Nat.le_trans hk1072 E1102.1
  have f1116 := f1074.ext E1102
  have f1117 := Exa.ext E1102 f1075
  have f1118 := Fld.ext E1102 f1076
  have f1119 := Fld.ext E1102 f1077
  have f1120 := Exa.ext E1102 f1078
  have f1121 := Fld.ext E1102 f1079
  have f1122 := Fld.ext E1102 f1080
  have f1123 := Fld.ext E1102 f1081
  have f1124 := Fld.ext E1102 f1082
  have f1125 := Fld.ext E1102 f1083
  have f1126 := Fld.ext E1102 f1084
  have f1127 := Exa.ext E1102 f1085
  have f1128 := Fld.ext E1102 f1086
  have f1129 := Fld.ext E1102 f1087
  have f1130 := f1088.ext E1102
  have f1131 := Exa.ext E1102 f1089
  have f1132 := Fld.ext E1102 f1090
  have f1133 := Fld.ext E1102 f1091
  have f1134 := f1092.ext E1102
  have f1135 := Exa.ext E1102 f1093
  have f1136 := Fld.ext E1102 f1094
  have f1137 := Fld.ext E1102 f1095
  have f1138 := f1096.ext E1102
  have f1139 := Exa.ext E1102 Ea1072
  have f1140 := Fld.ext E1102 Fc1072
  have f1141 := Fld.ext E1102 Fv1072
  have f1142 := V1072.ext E1102
  have z1143 := Nat.le_trans z1097 E1102.1
  show own_GW _ _ p.tables e below s _ _ _ (T1102.setTop (mkF m 172 #[.val (.long q1), .second, .val (.long q2), .second, .val (.int p3), .val (.int p4), .val (.int (1 : Int32)), .val (.int (1 : Int32)), .val (.ref cs), .val (.ref nw), .val (.ref ta), .val (.ref ex), .val (.long (q1 &&& (9223372036854775807 : Int64))), .second, .val (.ref b974), .unset, .unset, .unset] [(.ref b1102), (.ref a1072), (.ref a1046), (.ref a1024), (.ref a1006), (.ref nw), (.ref b990), (.ref b990)]))
  obtain ⟨_, _, ⟨T1144, L1144, k1144, n1144⟩, -, X1144, ⟨Lc1144, hQ1144, l1144, y1144, z1144⟩, st1144⟩ := X1102.specialBack hx (y := (⟨"com/example/vouchsafe/vouchsafe/LogEntry", "<init>", "(Ljava/lang/String;Ljava/lang/String;Ljava/lang/String;Ljava/lang/String;Ljava/lang/String;[B)V"⟩ : MethodName)) rfl ho1072 (mvT hZ1072 (hw _ (List.mem_of_getElem? (i := 71) rfl))) (mvT hZ1072 (hw _ (List.mem_of_getElem? (i := 72) rfl))) (mvT hZ1072 (hw _ (List.mem_of_getElem? (i := 73) rfl))) (by decide) (backOf (W := 1) (rme l Z a0 hw [] b990 nw a1006 a1024 a1046 a1072 b1102 h1102 n0 z1143 f1120 f1121 f1122 f1123 f1124 f1125 f1126 g991) hZ1072 (hw _ (List.mem_of_getElem? (i := 73) rfl)) (hw _ (List.mem_of_getElem? (i := 67) rfl)) (by decide) (by decide)) (g := (mkF m 172 #[.val (.long q1), .second, .val (.long q2), .second, .val (.int p3), .val (.int p4), .val (.int (1 : Int32)), .val (.int (1 : Int32)), .val (.ref cs), .val (.ref nw), .val (.ref ta), .val (.ref ex), .val (.long (q1 &&& (9223372036854775807 : Int64))), .second, .val (.ref b974), .unset, .unset, .unset] [(.ref b1102), (.ref a1072), (.ref a1046), (.ref a1024), (.ref a1006), (.ref nw), (.ref b990), (.ref b990)])) rfl (by rw [hml]; rfl) (Steps.refl _) (a := b990) (argsL := [(.ref nw), (.ref a1006), (.ref a1024), (.ref a1046), (.ref a1072), (.ref b1102)]) (rest := [(.ref b990)]) (lenOf pd__Ljava_lang_String_Ljava_lang_String_Ljava_lang_String_Ljava_lang_String_Ljava_lang_String__B_V rfl) rfl (by show 2 * 0 + _ ≤ _; exact Nat.le_of_eq rfl) (hb hby at_172) (fun _ _ => ⟨rfl, e1102, (by decide : 19 + 0 ≤ _), (by decide : 98 + 0 ≤ _)⟩)
  dsimp only [Pt.U, Pt.locs, Pt.cells, Pt.slots] at X1144 l1144 y1144 z1144 st1144 hQ1144
  subst l1144 y1144 z1144
  obtain ⟨rfl, N1144q, K1144, Fe1144, Fr1144⟩ := hQ1144
  have N1144 := Fr.app N984 N1144q
  refine own_goW (fun t k => st1144.trans k) ?_
  have C1145 := C1114.trans (CHr.keep K1144 (fun x => (fun q => (List.mem_cons.mp q).elim (fun e => e ▸ (Safe.exa hZ1072.alike f1120 (by decide) (by decide))) (fun q => nomatch q))) C1114.1)
  have hk1146 := Nat.le_trans hk1115 K1144.1
  have f1147 := f1116.keep K1144 (fun x => (fun q => (List.mem_cons.mp q).elim (fun e => e ▸ g991) (fun q => nomatch q)))
  have f1148 := f1117.keep K1144
  have f1149 := f1118.keep K1144 (fun q => (List.mem_cons.mp q).elim n992 (fun q => nomatch q))
  have f1150 := f1119.keep K1144 (fun q => (List.mem_cons.mp q).elim n992 (fun q => nomatch q))
  have f1151 := f1120.keep K1144
  have f1152 := f1127.keep K1144
  have f1153 := f1128.keep K1144 (fun q => (List.mem_cons.mp q).elim n1022 (fun q => nomatch q))
  have f1154 := f1129.keep K1144 (fun q => (List.mem_cons.mp q).elim n1022 (fun q => nomatch q))
  have f1155 := f1130.keep K1144 (fun q => (List.mem_cons.mp q).elim n1023 (fun q => nomatch q))
  have f1156 := f1131.keep K1144
  have f1157 := f1132.keep K1144 (fun q => (List.mem_cons.mp q).elim n1044 (fun q => nomatch q))
  have f1158 := f1133.keep K1144 (fun q => (List.mem_cons.mp q).elim n1044 (fun q => nomatch q))
  have f1159 := f1134.keep K1144 (fun q => (List.mem_cons.mp q).elim n1045 (fun q => nomatch q))
  have f1160 := f1135.keep K1144
  have f1161 := f1136.keep K1144 (fun q => (List.mem_cons.mp q).elim n1070 (fun q => nomatch q))
  have f1162 := f1137.keep K1144 (fun q => (List.mem_cons.mp q).elim n1070 (fun q => nomatch q))
  have f1163 := f1138.keep K1144 (fun q => (List.mem_cons.mp q).elim n1071 (fun q => nomatch q))
  have f1164 := f1139.keep K1144
  have f1165 := f1140.keep K1144 (fun q => (List.mem_cons.mp q).elim n1100 (fun q => nomatch q))
  have f1166 := f1141.keep K1144 (fun q => (List.mem_cons.mp q).elim n1100 (fun q => nomatch q))
  have f1167 := f1142.keep K1144 (fun q => (List.mem_cons.mp q).elim n1101 (fun q => nomatch q))
  have z1168 := Nat.le_trans z1143 K1144.1
  show own_GW _ _ p.tables e below s _ _ _ (T1144.setTop (mkF m 175 #[.val (.long q1), .second, .val (.long q2), .second, .val (.int p3), .val (.int p4), .val (.int (1 : Int32)), .val (.int (1 : Int32)), .val (.ref cs), .val (.ref nw), .val (.ref ta), .val (.ref ex), .val (.long (q1 &&& (9223372036854775807 : Int64))), .second, .val (.ref b974), .unset, .unset, .unset] [(.ref b990)]))
  refine own_goW (fun t k => XS.astore X1144.here hx rfl (hb hby at_175) rfl rfl (l' := #[.val (.long q1), .second, .val (.long q2), .second, .val (.int p3), .val (.int p4), .val (.int (1 : Int32)), .val (.int (1 : Int32)), .val (.ref cs), .val (.ref nw), .val (.ref ta), .val (.ref ex), .val (.long (q1 &&& (9223372036854775807 : Int64))), .second, .val (.ref b974), .val (.ref b990), .unset, .unset]) rfl k) ?_
  show own_GW _ _ p.tables e below s _ _ _ (T1144.setTop (mkF m 177 #[.val (.long q1), .second, .val (.long q2), .second, .val (.int p3), .val (.int p4), .val (.int (1 : Int32)), .val (.int (1 : Int32)), .val (.ref cs), .val (.ref nw), .val (.ref ta), .val (.ref ex), .val (.long (q1 &&& (9223372036854775807 : Int64))), .second, .val (.ref b974), .val (.ref b990), .unset, .unset] []))
  refine own_goW (fun t k => XS.aload X1144.here hx rfl (hb hby at_177) rfl rfl k) ?_
  show own_GW _ _ p.tables e below s _ _ _ (T1144.setTop (mkF m 179 #[.val (.long q1), .second, .val (.long q2), .second, .val (.int p3), .val (.int p4), .val (.int (1 : Int32)), .val (.int (1 : Int32)), .val (.ref cs), .val (.ref nw), .val (.ref ta), .val (.ref ex), .val (.long (q1 &&& (9223372036854775807 : Int64))), .second, .val (.ref b974), .val (.ref b990), .unset, .unset] [(.ref b974)]))
  refine own_goW (fun t k => XS.aload X1144.here hx rfl (hb hby at_179) rfl rfl k) ?_
  show own_GW _ _ p.tables e below s _ _ _ (T1144.setTop (mkF m 181 #[.val (.long q1), .second, .val (.long q2), .second, .val (.int p3), .val (.int p4), .val (.int (1 : Int32)), .val (.int (1 : Int32)), .val (.ref cs), .val (.ref nw), .val (.ref ta), .val (.ref ex), .val (.long (q1 &&& (9223372036854775807 : Int64))), .second, .val (.ref b974), .val (.ref b990), .unset, .unset] [(.ref b990), (.ref b974)]))
  obtain ⟨cq1169, kq1169, q1169a, q1169b, q1169c⟩ := isOf hZ1072 rfl f1148
  obtain ⟨_, _, ⟨T1169, L1169, k1169, n1169⟩, -, X1169', sn1169, gr1169, ⟨Lc1169, hQ1169, l1169, y1169, z1169, C1169'⟩, st1169⟩ := X1144.virtualBackS hx (y := (⟨"com/example/vouchsafe/vouchsafe/AuditTally", "with", "(Lcom/example/vouchsafe/vouchsafe/LogEntry;)Lcom/example/vouchsafe/vouchsafe/AuditTally;"⟩ : MethodName)) (z := (⟨"com/example/vouchsafe/vouchsafe/AuditTally", "with", "(Lcom/example/vouchsafe/vouchsafe/LogEntry;)Lcom/example/vouchsafe/vouchsafe/AuditTally;"⟩ : MethodName)) ho1072 (mvT hZ1072 (hw _ (List.mem_of_getElem? (i := 87) rfl))) (mvT hZ1072 (hw _ (List.mem_of_getElem? (i := 88) rfl))) (notFace_of_selects (args := #[]) (mvT hZ1072 (hw _ (List.mem_of_getElem? (i := 90) rfl)))) (mvT hZ1072 (hw _ (List.mem_of_getElem? (i := 90) rfl))) (mvT hZ1072 (hw _ (List.mem_of_getElem? (i := 89) rfl))) (by decide) (backOfSH (W := 0) (rmwP l Z a0 hw [] b974 b990 nw a1046 b1046 kk1046 w0 (q1 &&& (9223372036854775807 : Int64)) q2 T1144.heap n0 z1168 f1151 f1149 f1150 Fe1144 Fr1144 f1160 f1161 f1162 f1163 f1147 S0 hcw) hZ1072 (hw _ (List.mem_of_getElem? (i := 91) rfl)) (hw _ (List.mem_of_getElem? (i := 32) rfl)) (by decide) (by decide) (own_hEL hw) C1145.1) q1169a q1169c (g := (mkF m 181 #[.val (.long q1), .second, .val (.long q2), .second, .val (.int p3), .val (.int p4), .val (.int (1 : Int32)), .val (.int (1 : Int32)), .val (.ref cs), .val (.ref nw), .val (.ref ta), .val (.ref ex), .val (.long (q1 &&& (9223372036854775807 : Int64))), .second, .val (.ref b974), .val (.ref b990), .unset, .unset] [(.ref b990), (.ref b974)])) rfl (by rw [hml]; rfl) (Steps.refl _) (argsL := [(.ref b990)]) (rest := []) (lenOf pd__Lcom_example_vouchsafe_vouchsafe_LogEntry__Lcom_example_vouchsafe_vouchsafe_AuditTally_ rfl) rfl (by show 2 * 0 + _ ≤ _; exact Nat.le_of_eq rfl) (hb hby at_181) (fun _ _ => ⟨rfl, rfl, (by decide : 19 + 3 ≤ _), (by decide : 98 + 24 ≤ _)⟩)
  dsimp only [Pt.U, Pt.locs, Pt.cells, Pt.slots] at X1169' sn1169 gr1169 l1169 y1169 z1169 st1169 hQ1169 C1169'
  subst l1169 y1169 z1169
  obtain ⟨X1169, hS1169, hZ1169, ho1169⟩ := rebS hS1072 hk1146 X1169' sn1169 gr1169 hZ1072 ho1072
  obtain ⟨⟨b1169, rfl, Eb1169, Fa1169, Fl1169⟩, N1169q, K1169⟩ := hQ1169
  have N1169 := Fr.app N1144 N1169q
  have C1170 := C1145.trans C1169'
  refine own_goW (fun t k => st1169.trans k) ?_
  have f1171 := f1147.keep K1169 (fun x q => nomatch q)
  have f1172 := f1148.keep K1169
  have f1173 := f1149.keep K1169 (fun q => nomatch q)
  have f1174 := f1150.keep K1169 (fun q => nomatch q)
  have f1175 := f1151.keep K1169
  have f1176 := f1152.keep K1169
  have f1177 := f1153.keep K1169 (fun q => nomatch q)
  have f1178 := f1154.keep K1169 (fun q => nomatch q)
  have f1179 := f1155.keep K1169 (fun q => nomatch q)
  have f1180 := f1156.keep K1169
  have f1181 := f1157.keep K1169 (fun q => nomatch q)
  have f1182 := f1158.keep K1169 (fun q => nomatch q)
  have f1183 := f1159.keep K1169 (fun q => nomatch q)
  have f1184 := f1160.keep K1169
  have f1185 := f1161.keep K1169 (fun q => nomatch q)
  have f1186 := f1162.keep K1169 (fun q => nomatch q)
  have f1187 := f1163.keep K1169 (fun q => nomatch q)
  have f1188 := f1164.keep K1169
  have f1189 := f1165.keep K1169 (fun q => nomatch q)
  have f1190 := f1166.keep K1169 (fun q => nomatch q)
  have f1191 := f1167.keep K1169 (fun q => nomatch q)
  have f1192 := Fe1144.keep K1169 (fun q => nomatch q)
  have f1193 := Fr1144.keep K1169 (fun q => nomatch q)
  have z1194 := Nat.le_trans z1168 K1169.1
  show own_GW _ _ p.tables e below s _ _ _ (T1169.setTop (mkF m 184 #[.val (.long q1), .second, .val (.long q2), .second, .val (.int p3), .val (.int p4), .val (.int (1 : Int32)), .val (.int (1 : Int32)), .val (.ref cs), .val (.ref nw), .val (.ref ta), .val (.ref ex), .val (.long (q1 &&& (9223372036854775807 : Int64))), .second, .val (.ref b974), .val (.ref b990), .unset, .unset] [(.ref b1169)]))
  obtain ⟨cq1195, kq1195, q1195a, q1195b, q1195c⟩ := isOf hZ1169 rfl Eb1169
  obtain ⟨_, _, ⟨T1195, L1195, k1195, n1195⟩, -, X1195', sn1195, gr1195, ⟨Lc1195, hQ1195, l1195, y1195, z1195, C1195'⟩, st1195⟩ := X1169.virtualBackS hx (y := (⟨"com/example/vouchsafe/vouchsafe/AuditTally", "last", "()Ljava/lang/String;"⟩ : MethodName)) (z := (⟨"com/example/vouchsafe/vouchsafe/AuditTally", "last", "()Ljava/lang/String;"⟩ : MethodName)) ho1169 (mvT hZ1169 (hw _ (List.mem_of_getElem? (i := 53) rfl))) (mvT hZ1169 (hw _ (List.mem_of_getElem? (i := 54) rfl))) (notFace_of_selects (args := #[]) (mvT hZ1169 (hw _ (List.mem_of_getElem? (i := 56) rfl)))) (mvT hZ1169 (hw _ (List.mem_of_getElem? (i := 56) rfl))) (mvT hZ1169 (hw _ (List.mem_of_getElem? (i := 55) rfl))) (by decide) (backOfSH (W := 0) (rmlP l Z a0 hw [] b1169 ((q1 &&& (9223372036854775807 : Int64)) + (1 : Int64)) T1169.heap n0 z1194 Fa1169 (own_more q1) Fl1169) hZ1169 (hw _ (List.mem_of_getElem? (i := 57) rfl)) (hw _ (List.mem_of_getElem? (i := 32) rfl)) (by decide) (by decide) (own_hEL hw) C1170.1) q1195a q1195c (g := (mkF m 184 #[.val (.long q1), .second, .val (.long q2), .second, .val (.int p3), .val (.int p4), .val (.int (1 : Int32)), .val (.int (1 : Int32)), .val (.ref cs), .val (.ref nw), .val (.ref ta), .val (.ref ex), .val (.long (q1 &&& (9223372036854775807 : Int64))), .second, .val (.ref b974), .val (.ref b990), .unset, .unset] [(.ref b1169)])) rfl (by rw [hml]; rfl) (Steps.refl _) (argsL := []) (rest := []) (lenOf pd___Ljava_lang_String_ rfl) rfl (by show 2 * 0 + _ ≤ _; exact Nat.le_of_eq rfl) (hb hby at_184) (fun _ _ => ⟨rfl, rfl, (by decide : 22 + 2 ≤ _), (by decide : 122 + 20 ≤ _)⟩)
  dsimp only [Pt.U, Pt.locs, Pt.cells, Pt.slots] at X1195' sn1195 gr1195 l1195 y1195 z1195 st1195 hQ1195 C1195'
  subst l1195 y1195 z1195
  obtain ⟨X1195, hS1195, hZ1195, ho1195⟩ := rebS hS1169 (Nat.le_refl _) X1195' sn1195 gr1195 hZ1169 ho1169
  obtain ⟨⟨a1195, rfl, Ex1195, Cx1195, t1195, kx1195, Vx1195, Ax1195⟩, N1195q, K1195⟩ := hQ1195
  have N1195 := Fr.app N1169 N1195q
  have C1196 := C1170.trans C1195'
  refine own_goW (fun t k => st1195.trans k) ?_
  have f1197 := f1171.keep K1195 (fun x q => nomatch q)
  have z1198 := Nat.le_trans z1194 K1195.1
  show own_GW _ _ p.tables e below s _ _ _ (T1195.setTop (mkF m 187 #[.val (.long q1), .second, .val (.long q2), .second, .val (.int p3), .val (.int p4), .val (.int (1 : Int32)), .val (.int (1 : Int32)), .val (.ref cs), .val (.ref nw), .val (.ref ta), .val (.ref ex), .val (.long (q1 &&& (9223372036854775807 : Int64))), .second, .val (.ref b974), .val (.ref b990), .unset, .unset] [(.ref a1195)]))
  refine own_goW (fun t k => XS.astore X1195.here hx rfl (hb hby at_187) rfl rfl (l' := #[.val (.long q1), .second, .val (.long q2), .second, .val (.int p3), .val (.int p4), .val (.int (1 : Int32)), .val (.int (1 : Int32)), .val (.ref cs), .val (.ref nw), .val (.ref ta), .val (.ref ex), .val (.long (q1 &&& (9223372036854775807 : Int64))), .second, .val (.ref b974), .val (.ref b990), .val (.ref a1195), .unset]) rfl k) ?_
  show own_GW _ _ p.tables e below s _ _ _ (T1195.setTop (mkF m 189 #[.val (.long q1), .second, .val (.long q2), .second, .val (.int p3), .val (.int p4), .val (.int (1 : Int32)), .val (.int (1 : Int32)), .val (.ref cs), .val (.ref nw), .val (.ref ta), .val (.ref ex), .val (.long (q1 &&& (9223372036854775807 : Int64))), .second, .val (.ref b974), .val (.ref b990), .val (.ref a1195), .unset] []))
  refine own_goW (fun t k => XS.iload X1195.here hx rfl (hb hby at_189) rfl k) ?_
  show own_GW _ _ p.tables e below s _ _ _ (T1195.setTop (mkF m 191 #[.val (.long q1), .second, .val (.long q2), .second, .val (.int p3), .val (.int p4), .val (.int (1 : Int32)), .val (.int (1 : Int32)), .val (.ref cs), .val (.ref nw), .val (.ref ta), .val (.ref ex), .val (.long (q1 &&& (9223372036854775807 : Int64))), .second, .val (.ref b974), .val (.ref b990), .val (.ref a1195), .unset] [(.int (1 : Int32))]))
  refine own_goW (fun t k => XS.ifNo X1195.here hx rfl (hb hby at_191) rfl (by decide) k) ?_
  show own_GW _ _ p.tables e below s _ _ _ (T1195.setTop (mkF m 194 #[.val (.long q1), .second, .val (.long q2), .second, .val (.int p3), .val (.int p4), .val (.int (1 : Int32)), .val (.int (1 : Int32)), .val (.ref cs), .val (.ref nw), .val (.ref ta), .val (.ref ex), .val (.long (q1 &&& (9223372036854775807 : Int64))), .second, .val (.ref b974), .val (.ref b990), .val (.ref a1195), .unset] []))
  obtain ⟨a1199, T1199, h1199, k1199, b1199, kk1199, X1199, e1199, E1199, hS1199, hk1199, hZ1199, ho1199, Ea1199, Fc1199, Fv1199, V1199, la1199, lb1199, C1199', Li1199, sf1199, st1199⟩ := ldcCH X1195 hx hZ1195 ho1195 (hw _ (List.mem_of_getElem? (i := 111) rfl)) (own_wS hw) rfl hS1195 (Nat.le_refl _) (own_hEL hw) (List.mem_of_getElem? (i := 4) rfl) C1196.1 (vs := [(.int (80 : Int32)), (.int (65 : Int32)), (.int (83 : Int32)), (.int (83 : Int32))]) (z := (4 : Int32)) ⟨by decide, rfl⟩ (by decide) rfl (g := (mkF m 194 #[.val (.long q1), .second, .val (.long q2), .second, .val (.int p3), .val (.int p4), .val (.int (1 : Int32)), .val (.int (1 : Int32)), .val (.ref cs), .val (.ref nw), .val (.ref ta), .val (.ref ex), .val (.long (q1 &&& (9223372036854775807 : Int64))), .second, .val (.ref b974), .val (.ref b990), .val (.ref a1195), .unset] [])) rfl (hb hby at_194) (n := 16) (by decide) (by decide) (by decide) (by decide)
  refine own_goW st1199 ?_
  have C1200 := C1196.trans C1199'
  have f1201 := f1197.ext E1199
  have f1202 := Exa.ext E1199 Ex1195
  have f1203 := Fld.ext E1199 Cx1195
  have f1204 := Fld.ext E1199 Vx1195
  have f1205 := Ax1195.ext E1199
  have z1206 := Nat.le_trans z1198 E1199.1
  show own_GW _ _ p.tables e below s _ _ _ (T1199.setTop (mkF m 196 #[.val (.long q1), .second, .val (.long q2), .second, .val (.int p3), .val (.int p4), .val (.int (1 : Int32)), .val (.int (1 : Int32)), .val (.ref cs), .val (.ref nw), .val (.ref ta), .val (.ref ex), .val (.long (q1 &&& (9223372036854775807 : Int64))), .second, .val (.ref b974), .val (.ref b990), .val (.ref a1195), .unset] [(.ref a1199)]))
  refine own_goW (fun t k => XS.goto X1199.here hx rfl (pc0 := 196) (pc' := 201) rfl (hb hby at_196) (by decide) (by decide) k) ?_
  show own_GW _ _ p.tables e below s _ _ _ (T1199.setTop (mkF m 201 #[.val (.long q1), .second, .val (.long q2), .second, .val (.int p3), .val (.int p4), .val (.int (1 : Int32)), .val (.int (1 : Int32)), .val (.ref cs), .val (.ref nw), .val (.ref ta), .val (.ref ex), .val (.long (q1 &&& (9223372036854775807 : Int64))), .second, .val (.ref b974), .val (.ref b990), .val (.ref a1195), .unset] [(.ref a1199)]))
  refine own_goW (fun t k => XS.astore X1199.here hx rfl (hb hby at_201) rfl rfl (l' := #[.val (.long q1), .second, .val (.long q2), .second, .val (.int p3), .val (.int p4), .val (.int (1 : Int32)), .val (.int (1 : Int32)), .val (.ref cs), .val (.ref nw), .val (.ref ta), .val (.ref ex), .val (.long (q1 &&& (9223372036854775807 : Int64))), .second, .val (.ref b974), .val (.ref b990), .val (.ref a1195), .val (.ref a1199)]) rfl k) ?_
  show own_GW _ _ p.tables e below s _ _ _ (T1199.setTop (mkF m 203 #[.val (.long q1), .second, .val (.long q2), .second, .val (.int p3), .val (.int p4), .val (.int (1 : Int32)), .val (.int (1 : Int32)), .val (.ref cs), .val (.ref nw), .val (.ref ta), .val (.ref ex), .val (.long (q1 &&& (9223372036854775807 : Int64))), .second, .val (.ref b974), .val (.ref b990), .val (.ref a1195), .val (.ref a1199)] []))
  refine own_goW (fun t k => XS.aload X1199.here hx rfl (hb hby at_203) rfl rfl k) ?_
  show own_GW _ _ p.tables e below s _ _ _ (T1199.setTop (mkF m 205 #[.val (.long q1), .second, .val (.long q2), .second, .val (.int p3), .val (.int p4), .val (.int (1 : Int32)), .val (.int (1 : Int32)), .val (.ref cs), .val (.ref nw), .val (.ref ta), .val (.ref ex), .val (.long (q1 &&& (9223372036854775807 : Int64))), .second, .val (.ref b974), .val (.ref b990), .val (.ref a1195), .val (.ref a1199)] [(.ref a1199)]))
  refine own_goW (fun t k => XS.aload X1199.here hx rfl (hb hby at_205) rfl rfl k) ?_
  show own_GW _ _ p.tables e below s _ _ _ (T1199.setTop (mkF m 207 #[.val (.long q1), .second, .val (.long q2), .second, .val (.int p3), .val (.int p4), .val (.int (1 : Int32)), .val (.int (1 : Int32)), .val (.ref cs), .val (.ref nw), .val (.ref ta), .val (.ref ex), .val (.long (q1 &&& (9223372036854775807 : Int64))), .second, .val (.ref b974), .val (.ref b990), .val (.ref a1195), .val (.ref a1199)] [(.ref a1195), (.ref a1199)]))
  obtain ⟨cq1207, kq1207, q1207a, q1207b, q1207c⟩ := isOf hZ1199 e1199 Ea1199
  obtain ⟨_, _, ⟨T1207, L1207, k1207, n1207⟩, -, X1207, ⟨Lc1207, hQ1207, l1207, y1207, z1207⟩, st1207⟩ := X1199.virtualBack hx (y := (⟨"java/lang/String", "equals", "(Ljava/lang/Object;)Z"⟩ : MethodName)) (z := (⟨"java/lang/String", "equals", "(Ljava/lang/Object;)Z"⟩ : MethodName)) ho1199 (mvT hZ1199 (hw _ (List.mem_of_getElem? (i := 59) rfl))) (mvT hZ1199 (hw _ (List.mem_of_getElem? (i := 60) rfl))) (notFace_of_selects (args := #[]) (mvT hZ1199 (hw _ (List.mem_of_getElem? (i := 62) rfl)))) (mvT hZ1199 (hw _ (List.mem_of_getElem? (i := 62) rfl))) (mvT hZ1199 (hw _ (List.mem_of_getElem? (i := 61) rfl))) (by decide) (StrChars.Road.eqW (W := 0) hZ1199 (own_wE hw) (kI := 4) (hw _ (List.mem_of_getElem? (i := 2) rfl)) Ea1199 Fv1199 Fc1199 V1199 (StrChars.Road.codOf (cs := ([80, 65, 83, 83] : List Int32)) (n := 4) rfl (by decide)) (by decide) (by decide) f1202 f1204 f1203 f1205 (StrChars.Road.codOf (cs := ([80, 65, 83, 83] : List Int32)) (n := 4) rfl (by decide)) (by decide) (by decide) (Sta.ext f1201.2 S0) hcw (by decide) (by decide)) q1207a q1207c (g := (mkF m 207 #[.val (.long q1), .second, .val (.long q2), .second, .val (.int p3), .val (.int p4), .val (.int (1 : Int32)), .val (.int (1 : Int32)), .val (.ref cs), .val (.ref nw), .val (.ref ta), .val (.ref ex), .val (.long (q1 &&& (9223372036854775807 : Int64))), .second, .val (.ref b974), .val (.ref b990), .val (.ref a1195), .val (.ref a1199)] [(.ref a1195), (.ref a1199)])) rfl (by rw [hml]; rfl) (Steps.refl _) (argsL := [(.ref a1195)]) (rest := []) (lenOf pd__Ljava_lang_Object__Z rfl) rfl (by show 2 * 0 + _ ≤ _; exact Nat.le_of_eq rfl) (hb hby at_207) (fun _ _ => ⟨rfl, e1199, (by decide : 26 + 0 ≤ _), (by decide : 162 + 0 ≤ _)⟩)
  dsimp only [Pt.U, Pt.locs, Pt.cells, Pt.slots] at X1207 l1207 y1207 z1207 st1207 hQ1207
  subst l1207 y1207 z1207
  obtain ⟨hv1207, rfl, hh1207⟩ := hQ1207
  obtain ⟨rfl, -⟩ := hv1207.resolve_right (fun q => q.2 rfl)
  have N1207q := Fr.nil n0
  have N1207 := Fr.app N1195 N1207q
  refine own_goW (fun t k => st1207.trans k) ?_
  show own_GW _ _ p.tables e below s _ _ _ (T1207.setTop (mkF m 210 #[.val (.long q1), .second, .val (.long q2), .second, .val (.int p3), .val (.int p4), .val (.int (1 : Int32)), .val (.int (1 : Int32)), .val (.ref cs), .val (.ref nw), .val (.ref ta), .val (.ref ex), .val (.long (q1 &&& (9223372036854775807 : Int64))), .second, .val (.ref b974), .val (.ref b990), .val (.ref a1195), .val (.ref a1199)] [(.int (1 : Int32))]))
  exact own_retNW X1207 hx hlk hS1199 (by rw [hh1207]; exact hk1199) hZ1199 (own_hEL hw) (by rw [hh1207]; exact C1200) (t := .boolean) (z' := (1 : Int32)) hret (by simp) (hb hby at_210) (rfl) (hQ _ _ N1207) (Nat.le_trans (by decide) hkk) (Nat.le_trans (by decide) hnn)
theorem pd___C_V : parseMethodDescriptor "([C)V" = some ⟨[(.array .char)], none⟩ := by decide +kernel
theorem pn_com_example_vouchsafe_vouchsafe_AuditTallyLastPinLaw : plainName "com/example/vouchsafe/vouchsafe/AuditTallyLastPinLaw" = true := by first | (simp [plainName, overriddenIn]; done) | decide +kernel
theorem ef_0 (m : MethodId) (x0 : Int64) (x1 : Int64) (x2 : Int32) (x3 : Int32) : entryFrame m #[(.long x0), (.long x1), (.int x2), (.int x3)] maxLocals = mkF m 0 #[.val (.long x0), .second, .val (.long x1), .second, .val (.int x2), .val (.int x3), .unset, .unset, .unset, .unset, .unset, .unset, .unset, .unset, .unset, .unset, .unset, .unset] [] := by first | (simp [entryFrame, mkF, argsToLocals, Value.category, maxLocals]; done) | rfl
def Q0 (Z : State) (q1 q2 : Int64) (p3 p4 w0 : Int32) (h0 : Heap) (n0 : Nat) (v : Option Value) (h : Heap) (L : List Loc) : Prop := v = some (.int 1) ∧ Fr n0 L
set_option maxRecDepth 65536 in
set_option maxHeartbeats 40000000 in
theorem rm0 (l : Launch) (Z : State) (a0 : Array Value) (hw : ∀ d ∈ tables_1, d.before a0 Z = true) (ws : List Jvm.Cond) (q1 q2 : Int64) (p3 p4 w0 : Int32) (h0 : Heap) (n0 : Nat) (Z0 : n0 ≤ h0.size) (O0 : Old Z n0 h0) (S0 : Sta Z Z.heap "java/lang/String" "COMPACT_STRINGS" "Z" (.int w0)) (hcw : ¬ w0 = 0) :
    MetFree l x (head1 (Jvm.Cond.code x code maxLocals ret :: ws) room_1) (fun a U => a = #[(.long q1), (.long q2), (.int p3), (.int p4)] ∧ Z.Warmed39 U.vm ∧ U.heap = h0 ∧ CHv Z own_EL U.vm h0) (fun _ _ _ _ _ => True) (fun _ U o U' => ∃ v L, o = .returned v ∧ Q0 Z q1 q2 p3 p4 w0 h0 n0 v U'.heap L ∧ CHr Z own_EL U.vm U.heap U'.vm U'.heap ∧ ReturnedEndW U o U' L room_1.cells room_1.slots) := by
  refine MetFree.of_bodySF (plainFor_of_name pn_com_example_vouchsafe_vouchsafe_AuditTallyLastPinLaw) hisR ?_
  intro p e s m args below meth c s₁ Bd hml0 hP hK
  obtain ⟨rfl, hZ, hh, hCH⟩ := hP
  have hx := Bd.exec
  have hby := Bd.bytes
  have hlk : meth.locks = false := BodyLoose.notSynchronized Bd
  have hml : c.maxLocals = 18 := hml0
  have hown : s.vm.findClass "com/example/vouchsafe/vouchsafe/AuditTallyLastPinLaw" = some m.cls := findClass_of_methodNamed Bd.named
  have hnm := (name_of_methodNamed Bd.named Bd.method).1
  have X0 : Stand p l e room_1 (s.setVm s.vm) m #[(.long q1), (.long q2), (.int p3), (.int p4)] below meth c s₁ [] 0 0 := Stand.of_body Bd
  have e0 : s₁.heap = h0 := by rw [← hh, Bd.state]; rfl
  have N0 := Fr.nil n0
  have hS0 : s.Since s.vm 0 := (State.WarmedH.refl s).since 0
  have hk0 : 0 ≤ h0.size := Nat.zero_le _
  have C0 : CHr Z own_EL s.vm s.heap s.vm h0 := by rw [hh]; exact CHr.refl hCH
  show own_GW Z own_EL p.tables e below s (Q0 Z q1 q2 p3 p4 w0 h0 n0) room_1.cells room_1.slots (s₁.setTop (entryFrame m #[(.long q1), (.long q2), (.int p3), (.int p4)] maxLocals))
  refine own_goW (fun t k => castTop (ef_0 m q1 q2 p3 p4) k) ?_
  show own_GW _ _ p.tables e below s _ _ _ (s₁.setTop (mkF m 0 #[.val (.long q1), .second, .val (.long q2), .second, .val (.int p3), .val (.int p4), .unset, .unset, .unset, .unset, .unset, .unset, .unset, .unset, .unset, .unset, .unset, .unset] []))
  refine own_goW (fun t k => XS.iload X0.here hx rfl (hb hby at_0) rfl k) ?_
  show own_GW _ _ p.tables e below s _ _ _ (s₁.setTop (mkF m 2 #[.val (.long q1), .second, .val (.long q2), .second, .val (.int p3), .val (.int p4), .unset, .unset, .unset, .unset, .unset, .unset, .unset, .unset, .unset, .unset, .unset, .unset] [(.int p3)]))
  refine own_goW (fun t k => XS.iconst X0.here hx rfl (hb hby at_2) k) ?_
  show own_GW _ _ p.tables e below s _ _ _ (s₁.setTop (mkF m 3 #[.val (.long q1), .second, .val (.long q2), .second, .val (.int p3), .val (.int p4), .unset, .unset, .unset, .unset, .unset, .unset, .unset, .unset, .unset, .unset, .unset, .unset] [(.int (1 : Int32)), (.int p3)]))
  refine own_goW (fun t k => XS.iand X0.here hx rfl (hb hby at_3) rfl k) ?_
  show own_GW _ _ p.tables e below s _ _ _ (s₁.setTop (mkF m 4 #[.val (.long q1), .second, .val (.long q2), .second, .val (.int p3), .val (.int p4), .unset, .unset, .unset, .unset, .unset, .unset, .unset, .unset, .unset, .unset, .unset, .unset] [(.int (p3 &&& (1 : Int32)))]))
  obtain ⟨r1, hr1, hr1'⟩ : ∃ r : Int32, r = (if (p3 &&& (1 : Int32)) = (0 : Int32) then (0 : Int32) else 1) ∧ (r = 0 ∨ r = 1) := ⟨_, rfl, by split <;> simp⟩
  refine own_goW (A := (s₁.setTop (mkF m 12 #[.val (.long q1), .second, .val (.long q2), .second, .val (.int p3), .val (.int p4), .unset, .unset, .unset, .unset, .unset, .unset, .unset, .unset, .unset, .unset, .unset, .unset] [(.int r1)]))) (fun t k => ?_) ?_
  · show Steps p.tables e below (s₁.setTop (mkF m 4 #[.val (.long q1), .second, .val (.long q2), .second, .val (.int p3), .val (.int p4), .unset, .unset, .unset, .unset, .unset, .unset, .unset, .unset, .unset, .unset, .unset, .unset] [(.int (p3 &&& (1 : Int32)))])) _
    by_cases hf : (p3 &&& (1 : Int32)) = (0 : Int32)
    · refine XS.ifYes X0.here hx rfl (pc0 := 4) (pc' := 11) rfl (hb hby at_4) rfl (Jvm.Free.XT.i0_eq_t hf) (by decide) (by decide) ?_
      show Steps p.tables e below (s₁.setTop (mkF m 11 #[.val (.long q1), .second, .val (.long q2), .second, .val (.int p3), .val (.int p4), .unset, .unset, .unset, .unset, .unset, .unset, .unset, .unset, .unset, .unset, .unset, .unset] [])) _
      refine XS.iconst X0.here hx rfl (hb hby at_11) ?_
      show Steps p.tables e below (s₁.setTop (mkF m 12 #[.val (.long q1), .second, .val (.long q2), .second, .val (.int p3), .val (.int p4), .unset, .unset, .unset, .unset, .unset, .unset, .unset, .unset, .unset, .unset, .unset, .unset] [(.int (0 : Int32))])) _
      rw [hr1, if_pos hf] at k
      exact k
    · refine XS.ifNo X0.here hx rfl (hb hby at_4) rfl (Jvm.Free.XT.i0_eq_f hf) ?_
      show Steps p.tables e below (s₁.setTop (mkF m 7 #[.val (.long q1), .second, .val (.long q2), .second, .val (.int p3), .val (.int p4), .unset, .unset, .unset, .unset, .unset, .unset, .unset, .unset, .unset, .unset, .unset, .unset] [])) _
      refine XS.iconst X0.here hx rfl (hb hby at_7) ?_
      show Steps p.tables e below (s₁.setTop (mkF m 8 #[.val (.long q1), .second, .val (.long q2), .second, .val (.int p3), .val (.int p4), .unset, .unset, .unset, .unset, .unset, .unset, .unset, .unset, .unset, .unset, .unset, .unset] [(.int (1 : Int32))])) _
      refine XS.goto X0.here hx rfl (pc0 := 8) (pc' := 12) rfl (hb hby at_8) (by decide) (by decide) ?_
      show Steps p.tables e below (s₁.setTop (mkF m 12 #[.val (.long q1), .second, .val (.long q2), .second, .val (.int p3), .val (.int p4), .unset, .unset, .unset, .unset, .unset, .unset, .unset, .unset, .unset, .unset, .unset, .unset] [(.int (1 : Int32))])) _
      rw [hr1, if_neg hf] at k
      exact k
  show own_GW _ _ p.tables e below s _ _ _ (s₁.setTop (mkF m 12 #[.val (.long q1), .second, .val (.long q2), .second, .val (.int p3), .val (.int p4), .unset, .unset, .unset, .unset, .unset, .unset, .unset, .unset, .unset, .unset, .unset, .unset] [(.int r1)]))
  refine own_goW (fun t k => XS.istore X0.here hx rfl (hb hby at_12) rfl (l' := #[.val (.long q1), .second, .val (.long q2), .second, .val (.int p3), .val (.int p4), .val (.int r1), .unset, .unset, .unset, .unset, .unset, .unset, .unset, .unset, .unset, .unset, .unset]) rfl k) ?_
  show own_GW _ _ p.tables e below s _ _ _ (s₁.setTop (mkF m 14 #[.val (.long q1), .second, .val (.long q2), .second, .val (.int p3), .val (.int p4), .val (.int r1), .unset, .unset, .unset, .unset, .unset, .unset, .unset, .unset, .unset, .unset, .unset] []))
  refine own_goW (fun t k => XS.iload X0.here hx rfl (hb hby at_14) rfl k) ?_
  show own_GW _ _ p.tables e below s _ _ _ (s₁.setTop (mkF m 16 #[.val (.long q1), .second, .val (.long q2), .second, .val (.int p3), .val (.int p4), .val (.int r1), .unset, .unset, .unset, .unset, .unset, .unset, .unset, .unset, .unset, .unset, .unset] [(.int p3)]))
  refine own_goW (fun t k => XS.iconst X0.here hx rfl (hb hby at_16) k) ?_
  show own_GW _ _ p.tables e below s _ _ _ (s₁.setTop (mkF m 17 #[.val (.long q1), .second, .val (.long q2), .second, .val (.int p3), .val (.int p4), .val (.int r1), .unset, .unset, .unset, .unset, .unset, .unset, .unset, .unset, .unset, .unset, .unset] [(.int (2 : Int32)), (.int p3)]))
  refine own_goW (fun t k => XS.iand X0.here hx rfl (hb hby at_17) rfl k) ?_
  show own_GW _ _ p.tables e below s _ _ _ (s₁.setTop (mkF m 18 #[.val (.long q1), .second, .val (.long q2), .second, .val (.int p3), .val (.int p4), .val (.int r1), .unset, .unset, .unset, .unset, .unset, .unset, .unset, .unset, .unset, .unset, .unset] [(.int (p3 &&& (2 : Int32)))]))
  obtain ⟨r2, hr2, hr2'⟩ : ∃ r : Int32, r = (if (p3 &&& (2 : Int32)) = (0 : Int32) then (0 : Int32) else 1) ∧ (r = 0 ∨ r = 1) := ⟨_, rfl, by split <;> simp⟩
  refine own_goW (A := (s₁.setTop (mkF m 26 #[.val (.long q1), .second, .val (.long q2), .second, .val (.int p3), .val (.int p4), .val (.int r1), .unset, .unset, .unset, .unset, .unset, .unset, .unset, .unset, .unset, .unset, .unset] [(.int r2)]))) (fun t k => ?_) ?_
  · show Steps p.tables e below (s₁.setTop (mkF m 18 #[.val (.long q1), .second, .val (.long q2), .second, .val (.int p3), .val (.int p4), .val (.int r1), .unset, .unset, .unset, .unset, .unset, .unset, .unset, .unset, .unset, .unset, .unset] [(.int (p3 &&& (2 : Int32)))])) _
    by_cases hf : (p3 &&& (2 : Int32)) = (0 : Int32)
    · refine XS.ifYes X0.here hx rfl (pc0 := 18) (pc' := 25) rfl (hb hby at_18) rfl (Jvm.Free.XT.i0_eq_t hf) (by decide) (by decide) ?_
      show Steps p.tables e below (s₁.setTop (mkF m 25 #[.val (.long q1), .second, .val (.long q2), .second, .val (.int p3), .val (.int p4), .val (.int r1), .unset, .unset, .unset, .unset, .unset, .unset, .unset, .unset, .unset, .unset, .unset] [])) _
      refine XS.iconst X0.here hx rfl (hb hby at_25) ?_
      show Steps p.tables e below (s₁.setTop (mkF m 26 #[.val (.long q1), .second, .val (.long q2), .second, .val (.int p3), .val (.int p4), .val (.int r1), .unset, .unset, .unset, .unset, .unset, .unset, .unset, .unset, .unset, .unset, .unset] [(.int (0 : Int32))])) _
      rw [hr2, if_pos hf] at k
      exact k
    · refine XS.ifNo X0.here hx rfl (hb hby at_18) rfl (Jvm.Free.XT.i0_eq_f hf) ?_
      show Steps p.tables e below (s₁.setTop (mkF m 21 #[.val (.long q1), .second, .val (.long q2), .second, .val (.int p3), .val (.int p4), .val (.int r1), .unset, .unset, .unset, .unset, .unset, .unset, .unset, .unset, .unset, .unset, .unset] [])) _
      refine XS.iconst X0.here hx rfl (hb hby at_21) ?_
      show Steps p.tables e below (s₁.setTop (mkF m 22 #[.val (.long q1), .second, .val (.long q2), .second, .val (.int p3), .val (.int p4), .val (.int r1), .unset, .unset, .unset, .unset, .unset, .unset, .unset, .unset, .unset, .unset, .unset] [(.int (1 : Int32))])) _
      refine XS.goto X0.here hx rfl (pc0 := 22) (pc' := 26) rfl (hb hby at_22) (by decide) (by decide) ?_
      show Steps p.tables e below (s₁.setTop (mkF m 26 #[.val (.long q1), .second, .val (.long q2), .second, .val (.int p3), .val (.int p4), .val (.int r1), .unset, .unset, .unset, .unset, .unset, .unset, .unset, .unset, .unset, .unset, .unset] [(.int (1 : Int32))])) _
      rw [hr2, if_neg hf] at k
      exact k
  show own_GW _ _ p.tables e below s _ _ _ (s₁.setTop (mkF m 26 #[.val (.long q1), .second, .val (.long q2), .second, .val (.int p3), .val (.int p4), .val (.int r1), .unset, .unset, .unset, .unset, .unset, .unset, .unset, .unset, .unset, .unset, .unset] [(.int r2)]))
  refine own_goW (fun t k => XS.istore X0.here hx rfl (hb hby at_26) rfl (l' := #[.val (.long q1), .second, .val (.long q2), .second, .val (.int p3), .val (.int p4), .val (.int r1), .val (.int r2), .unset, .unset, .unset, .unset, .unset, .unset, .unset, .unset, .unset, .unset]) rfl k) ?_
  show own_GW _ _ p.tables e below s _ _ _ (s₁.setTop (mkF m 28 #[.val (.long q1), .second, .val (.long q2), .second, .val (.int p3), .val (.int p4), .val (.int r1), .val (.int r2), .unset, .unset, .unset, .unset, .unset, .unset, .unset, .unset, .unset, .unset] []))
  refine own_goW (fun t k => XS.iconst X0.here hx rfl (hb hby at_28) k) ?_
  show own_GW _ _ p.tables e below s _ _ _ (s₁.setTop (mkF m 29 #[.val (.long q1), .second, .val (.long q2), .second, .val (.int p3), .val (.int p4), .val (.int r1), .val (.int r2), .unset, .unset, .unset, .unset, .unset, .unset, .unset, .unset, .unset, .unset] [(.int (2 : Int32))]))
  obtain ⟨T1208, h1208, k1208, X1208, e1208, E1208, A1208, Y1208, st1208⟩ := newPE X0 hx hZ (hw _ (List.mem_of_getElem? (i := 0) rfl)) e0 (g := (mkF m 29 #[.val (.long q1), .second, .val (.long q2), .second, .val (.int p3), .val (.int p4), .val (.int r1), .val (.int r2), .unset, .unset, .unset, .unset, .unset, .unset, .unset, .unset, .unset, .unset] [(.int (2 : Int32))])) rfl (hb hby at_29) rfl (by decide) (cap := 2) (by decide) (by decide) (by decide) (by decide) (ad := "[C") rfl
  obtain ⟨b1208, g1208⟩ : ∃ z, z = h0.size := ⟨_, rfl⟩
  rw [← g1208] at A1208 Y1208 st1208
  refine own_goW st1208 ?_
  have g1209 := Nat.le_trans Z0 (Nat.le_of_eq g1208.symm)
  have C1210 := C0.trans (CHr.ext E1208 C0.1)
  have hk1211 := Nat.le_trans hk0 E1208.1
  have f1212 := O0.ext E1208
  have z1213 := Nat.le_trans Z0 E1208.1
  have v1214 : Arv Z h1208 b1208 k1208 .char (2 : Int32) [(.int (0 : Int32)), (.int (0 : Int32))] (.int (0 : Int32)) := (Arv.new A1208 (by decide)).pad (pad_rep [] (.int (0 : Int32)) 2)
  show own_GW _ _ p.tables e below s _ _ _ (T1208.setTop (mkF m 31 #[.val (.long q1), .second, .val (.long q2), .second, .val (.int p3), .val (.int p4), .val (.int r1), .val (.int r2), .unset, .unset, .unset, .unset, .unset, .unset, .unset, .unset, .unset, .unset] [(.ref b1208)]))
  refine own_goW (fun t k => XS.dup X1208.here hx rfl (hb hby at_31) rfl rfl k) ?_
  show own_GW _ _ p.tables e below s _ _ _ (T1208.setTop (mkF m 32 #[.val (.long q1), .second, .val (.long q2), .second, .val (.int p3), .val (.int p4), .val (.int r1), .val (.int r2), .unset, .unset, .unset, .unset, .unset, .unset, .unset, .unset, .unset, .unset] [(.ref b1208), (.ref b1208)]))
  refine own_goW (fun t k => XS.iconst X1208.here hx rfl (hb hby at_32) k) ?_
  show own_GW _ _ p.tables e below s _ _ _ (T1208.setTop (mkF m 33 #[.val (.long q1), .second, .val (.long q2), .second, .val (.int p3), .val (.int p4), .val (.int r1), .val (.int r2), .unset, .unset, .unset, .unset, .unset, .unset, .unset, .unset, .unset, .unset] [(.int (0 : Int32)), (.ref b1208), (.ref b1208)]))
  refine own_goW (fun t k => XS.iload X1208.here hx rfl (hb hby at_33) rfl k) ?_
  show own_GW _ _ p.tables e below s _ _ _ (T1208.setTop (mkF m 35 #[.val (.long q1), .second, .val (.long q2), .second, .val (.int p3), .val (.int p4), .val (.int r1), .val (.int r2), .unset, .unset, .unset, .unset, .unset, .unset, .unset, .unset, .unset, .unset] [(.int p4), (.int (0 : Int32)), (.ref b1208), (.ref b1208)]))
  refine own_goW (fun t k => XS.sipush X1208.here hx rfl (hb hby at_35) k) ?_
  show own_GW _ _ p.tables e below s _ _ _ (T1208.setTop (mkF m 38 #[.val (.long q1), .second, .val (.long q2), .second, .val (.int p3), .val (.int p4), .val (.int r1), .val (.int r2), .unset, .unset, .unset, .unset, .unset, .unset, .unset, .unset, .unset, .unset] [(.int (255 : Int32)), (.int p4), (.int (0 : Int32)), (.ref b1208), (.ref b1208)]))
  refine own_goW (fun t k => XS.iand X1208.here hx rfl (hb hby at_38) rfl k) ?_
  show own_GW _ _ p.tables e below s _ _ _ (T1208.setTop (mkF m 39 #[.val (.long q1), .second, .val (.long q2), .second, .val (.int p3), .val (.int p4), .val (.int r1), .val (.int r2), .unset, .unset, .unset, .unset, .unset, .unset, .unset, .unset, .unset, .unset] [(.int (p4 &&& (255 : Int32))), (.int (0 : Int32)), (.ref b1208), (.ref b1208)]))
  refine own_goW (fun t k => XS.i2c X1208.here hx rfl (hb hby at_39) rfl k) ?_
  show own_GW _ _ p.tables e below s _ _ _ (T1208.setTop (mkF m 40 #[.val (.long q1), .second, .val (.long q2), .second, .val (.int p3), .val (.int p4), .val (.int r1), .val (.int r2), .unset, .unset, .unset, .unset, .unset, .unset, .unset, .unset, .unset, .unset] [(.int ((p4 &&& (255 : Int32)).toUInt32.toUInt16.toUInt32.toInt32)), (.int (0 : Int32)), (.ref b1208), (.ref b1208)]))
  obtain ⟨cl1215, Ar1215, q1215, S1215, NN1215, HH1215, GG1215⟩ := v1214
  have hin1215 : ¬ ((0 : Int32) < 0 ∨ cl1215.slots.size ≤ ((0 : Int32)).toNatClampNeg) := inb_of S1215 ⟨by decide, by decide⟩
  obtain ⟨T1215, h1215, X1215, e1215, W1215, st1215⟩ := stC X1208 hx hZ e1208 Ar1215 (j := (0 : Int32)) hin1215 (g := (mkF m 40 #[.val (.long q1), .second, .val (.long q2), .second, .val (.int p3), .val (.int p4), .val (.int r1), .val (.int r2), .unset, .unset, .unset, .unset, .unset, .unset, .unset, .unset, .unset, .unset] [(.int ((p4 &&& (255 : Int32)).toUInt32.toUInt16.toUInt32.toInt32)), (.int (0 : Int32)), (.ref b1208), (.ref b1208)])) rfl rfl (hb hby at_40)
  refine own_goW st1215 ?_
  have v1216 : Arv Z h1215 b1208 k1208 .char (2 : Int32) [(.int (nar .char ((p4 &&& (255 : Int32)).toUInt32.toUInt16.toUInt32.toInt32))), (.int (0 : Int32))] (.int (0 : Int32)) := Arv.set Ar1215 q1215 S1215 NN1215 HH1215 GG1215 (fits_nar_char _) W1215 0 rfl (Nat.le_of_ble_eq_true rfl)
  have C1217 := C1210.trans (CHr.wr W1215 (Safe.exa hZ.alike Y1208 (by decide) (by decide)) C1210.1)
  have hk1218 := Nat.le_trans hk1211 (Keep.of_wr W1215).1
  have f1219 := f1212.wr W1215 g1209
  have f1220 := Exa.wr W1215 Y1208
  have z1221 := Nat.le_trans z1213 (Keep.of_wr W1215).1
  have N1215 := Fr.snoc X1215 N0 g1209
  show own_GW _ _ p.tables e below s _ _ _ (T1215.setTop (mkF m 41 #[.val (.long q1), .second, .val (.long q2), .second, .val (.int p3), .val (.int p4), .val (.int r1), .val (.int r2), .unset, .unset, .unset, .unset, .unset, .unset, .unset, .unset, .unset, .unset] [(.ref b1208)]))
  refine own_goW (fun t k => XS.dup X1215.here hx rfl (hb hby at_41) rfl rfl k) ?_
  show own_GW _ _ p.tables e below s _ _ _ (T1215.setTop (mkF m 42 #[.val (.long q1), .second, .val (.long q2), .second, .val (.int p3), .val (.int p4), .val (.int r1), .val (.int r2), .unset, .unset, .unset, .unset, .unset, .unset, .unset, .unset, .unset, .unset] [(.ref b1208), (.ref b1208)]))
  refine own_goW (fun t k => XS.iconst X1215.here hx rfl (hb hby at_42) k) ?_
  show own_GW _ _ p.tables e below s _ _ _ (T1215.setTop (mkF m 43 #[.val (.long q1), .second, .val (.long q2), .second, .val (.int p3), .val (.int p4), .val (.int r1), .val (.int r2), .unset, .unset, .unset, .unset, .unset, .unset, .unset, .unset, .unset, .unset] [(.int (1 : Int32)), (.ref b1208), (.ref b1208)]))
  refine own_goW (fun t k => XS.iload X1215.here hx rfl (hb hby at_43) rfl k) ?_
  show own_GW _ _ p.tables e below s _ _ _ (T1215.setTop (mkF m 45 #[.val (.long q1), .second, .val (.long q2), .second, .val (.int p3), .val (.int p4), .val (.int r1), .val (.int r2), .unset, .unset, .unset, .unset, .unset, .unset, .unset, .unset, .unset, .unset] [(.int p4), (.int (1 : Int32)), (.ref b1208), (.ref b1208)]))
  refine own_goW (fun t k => XS.bipush X1215.here hx rfl (hb hby at_45) k) ?_
  show own_GW _ _ p.tables e below s _ _ _ (T1215.setTop (mkF m 47 #[.val (.long q1), .second, .val (.long q2), .second, .val (.int p3), .val (.int p4), .val (.int r1), .val (.int r2), .unset, .unset, .unset, .unset, .unset, .unset, .unset, .unset, .unset, .unset] [(.int (8 : Int32)), (.int p4), (.int (1 : Int32)), (.ref b1208), (.ref b1208)]))
  refine own_goW (fun t k => XS.iushr X1215.here hx rfl (hb hby at_47) rfl k) ?_
  show own_GW _ _ p.tables e below s _ _ _ (T1215.setTop (mkF m 48 #[.val (.long q1), .second, .val (.long q2), .second, .val (.int p3), .val (.int p4), .val (.int r1), .val (.int r2), .unset, .unset, .unset, .unset, .unset, .unset, .unset, .unset, .unset, .unset] [(.int ((p4.toUInt32 >>> ((8 : Int32) &&& 31).toUInt32).toInt32)), (.int (1 : Int32)), (.ref b1208), (.ref b1208)]))
  refine own_goW (fun t k => XS.sipush X1215.here hx rfl (hb hby at_48) k) ?_
  show own_GW _ _ p.tables e below s _ _ _ (T1215.setTop (mkF m 51 #[.val (.long q1), .second, .val (.long q2), .second, .val (.int p3), .val (.int p4), .val (.int r1), .val (.int r2), .unset, .unset, .unset, .unset, .unset, .unset, .unset, .unset, .unset, .unset] [(.int (255 : Int32)), (.int ((p4.toUInt32 >>> ((8 : Int32) &&& 31).toUInt32).toInt32)), (.int (1 : Int32)), (.ref b1208), (.ref b1208)]))
  refine own_goW (fun t k => XS.iand X1215.here hx rfl (hb hby at_51) rfl k) ?_
  show own_GW _ _ p.tables e below s _ _ _ (T1215.setTop (mkF m 52 #[.val (.long q1), .second, .val (.long q2), .second, .val (.int p3), .val (.int p4), .val (.int r1), .val (.int r2), .unset, .unset, .unset, .unset, .unset, .unset, .unset, .unset, .unset, .unset] [(.int (((p4.toUInt32 >>> ((8 : Int32) &&& 31).toUInt32).toInt32) &&& (255 : Int32))), (.int (1 : Int32)), (.ref b1208), (.ref b1208)]))
  refine own_goW (fun t k => XS.i2c X1215.here hx rfl (hb hby at_52) rfl k) ?_
  show own_GW _ _ p.tables e below s _ _ _ (T1215.setTop (mkF m 53 #[.val (.long q1), .second, .val (.long q2), .second, .val (.int p3), .val (.int p4), .val (.int r1), .val (.int r2), .unset, .unset, .unset, .unset, .unset, .unset, .unset, .unset, .unset, .unset] [(.int ((((p4.toUInt32 >>> ((8 : Int32) &&& 31).toUInt32).toInt32) &&& (255 : Int32)).toUInt32.toUInt16.toUInt32.toInt32)), (.int (1 : Int32)), (.ref b1208), (.ref b1208)]))
  obtain ⟨cl1222, Ar1222, q1222, S1222, NN1222, HH1222, GG1222⟩ := v1216
  have hin1222 : ¬ ((1 : Int32) < 0 ∨ cl1222.slots.size ≤ ((1 : Int32)).toNatClampNeg) := inb_of S1222 ⟨by decide, by decide⟩
  obtain ⟨T1222, h1222, X1222, e1222, W1222, st1222⟩ := stC X1215 hx hZ e1215 Ar1222 (j := (1 : Int32)) hin1222 (g := (mkF m 53 #[.val (.long q1), .second, .val (.long q2), .second, .val (.int p3), .val (.int p4), .val (.int r1), .val (.int r2), .unset, .unset, .unset, .unset, .unset, .unset, .unset, .unset, .unset, .unset] [(.int ((((p4.toUInt32 >>> ((8 : Int32) &&& 31).toUInt32).toInt32) &&& (255 : Int32)).toUInt32.toUInt16.toUInt32.toInt32)), (.int (1 : Int32)), (.ref b1208), (.ref b1208)])) rfl rfl (hb hby at_53)
  refine own_goW st1222 ?_
  have v1223 : Arv Z h1222 b1208 k1208 .char (2 : Int32) [(.int (nar .char ((p4 &&& (255 : Int32)).toUInt32.toUInt16.toUInt32.toInt32))), (.int (nar .char ((((p4.toUInt32 >>> ((8 : Int32) &&& 31).toUInt32).toInt32) &&& (255 : Int32)).toUInt32.toUInt16.toUInt32.toInt32)))] (.int (0 : Int32)) := Arv.set Ar1222 q1222 S1222 NN1222 HH1222 GG1222 (fits_nar_char _) W1222 1 rfl (Nat.le_of_ble_eq_true rfl)
  have C1224 := C1217.trans (CHr.wr W1222 (Safe.exa hZ.alike f1220 (by decide) (by decide)) C1217.1)
  have hk1225 := Nat.le_trans hk1218 (Keep.of_wr W1222).1
  have f1226 := f1219.wr W1222 g1209
  have f1227 := Exa.wr W1222 f1220
  have z1228 := Nat.le_trans z1221 (Keep.of_wr W1222).1
  have N1222 := Fr.snoc X1222 N1215 g1209
  show own_GW _ _ p.tables e below s _ _ _ (T1222.setTop (mkF m 54 #[.val (.long q1), .second, .val (.long q2), .second, .val (.int p3), .val (.int p4), .val (.int r1), .val (.int r2), .unset, .unset, .unset, .unset, .unset, .unset, .unset, .unset, .unset, .unset] [(.ref b1208)]))
  refine own_goW (fun t k => XS.astore X1222.here hx rfl (hb hby at_54) rfl rfl (l' := #[.val (.long q1), .second, .val (.long q2), .second, .val (.int p3), .val (.int p4), .val (.int r1), .val (.int r2), .val (.ref b1208), .unset, .unset, .unset, .unset, .unset, .unset, .unset, .unset, .unset]) rfl k) ?_
  show own_GW _ _ p.tables e below s _ _ _ (T1222.setTop (mkF m 56 #[.val (.long q1), .second, .val (.long q2), .second, .val (.int p3), .val (.int p4), .val (.int r1), .val (.int r2), .val (.ref b1208), .unset, .unset, .unset, .unset, .unset, .unset, .unset, .unset, .unset] []))
  obtain ⟨T1229, h1229, X1229, e1229, E1229, A1229, D1229, -, st1229⟩ := newO X1222 hx hZ hown (hw _ (List.mem_of_getElem? (i := 1) rfl)) (hw _ (List.mem_of_getElem? (i := 2) rfl)) (hw _ (List.mem_of_getElem? (i := 3) rfl)) e1222 (g := (mkF m 56 #[.val (.long q1), .second, .val (.long q2), .second, .val (.int p3), .val (.int p4), .val (.int r1), .val (.int r2), .val (.ref b1208), .unset, .unset, .unset, .unset, .unset, .unset, .unset, .unset, .unset] [])) rfl (hb hby at_56) (by decide) (by decide)
  obtain ⟨b1229, g1229⟩ : ∃ z, z = h1222.size := ⟨_, rfl⟩
  rw [← g1229] at A1229 D1229 st1229
  refine own_goW st1229 ?_
  have g1230 := Nat.le_trans z1228 (Nat.le_of_eq g1229.symm)
  have n1231 := Nat.ne_of_lt (Nat.lt_of_lt_of_le f1227.lt (Nat.le_of_eq g1229.symm))
  have C1232 := C1224.trans (CHr.ext E1229 C1224.1)
  have hk1233 := Nat.le_trans hk1225 E1229.1
  have f1234 := f1226.ext E1229
  have f1235 := Exa.ext E1229 f1227
  have f1236 := v1223.ext E1229
  have z1237 := Nat.le_trans z1228 E1229.1
  have f1238 : Fld Z h1229 b1229 "java/lang/String" "coder" "B" (.int (0 : Int32)) := D1229 (Or.inr (hw _ (List.mem_of_getElem? (i := 27) rfl))) (ty := .byte) (by decide)
  have f1239 : Fld Z h1229 b1229 "java/lang/String" "value" "[B" .null := D1229 (Or.inr (hw _ (List.mem_of_getElem? (i := 29) rfl))) (ty := (.array .byte)) (by decide)
  have sfn := Safe.ext E1229 C1224.1 (Safe.new (Nat.le_of_eq g1229.symm))
  show own_GW _ _ p.tables e below s _ _ _ (T1229.setTop (mkF m 59 #[.val (.long q1), .second, .val (.long q2), .second, .val (.int p3), .val (.int p4), .val (.int r1), .val (.int r2), .val (.ref b1208), .unset, .unset, .unset, .unset, .unset, .unset, .unset, .unset, .unset] [(.ref b1229)]))
  refine own_goW (fun t k => XS.dup X1229.here hx rfl (hb hby at_59) rfl rfl k) ?_
  show own_GW _ _ p.tables e below s _ _ _ (T1229.setTop (mkF m 60 #[.val (.long q1), .second, .val (.long q2), .second, .val (.int p3), .val (.int p4), .val (.int r1), .val (.int r2), .val (.ref b1208), .unset, .unset, .unset, .unset, .unset, .unset, .unset, .unset, .unset] [(.ref b1229), (.ref b1229)]))
  refine own_goW (fun t k => XS.aload X1229.here hx rfl (hb hby at_60) rfl rfl k) ?_
  show own_GW _ _ p.tables e below s _ _ _ (T1229.setTop (mkF m 62 #[.val (.long q1), .second, .val (.long q2), .second, .val (.int p3), .val (.int p4), .val (.int r1), .val (.int r2), .val (.ref b1208), .unset, .unset, .unset, .unset, .unset, .unset, .unset, .unset, .unset] [(.ref b1208), (.ref b1229), (.ref b1229)]))
  have own_hp : ∀ c ∈ ([(nar .char ((p4 &&& (255 : Int32)).toUInt32.toUInt16.toUInt32.toInt32)), (nar .char ((((p4.toUInt32 >>> ((8 : Int32) &&& 31).toUInt32).toInt32) &&& (255 : Int32)).toUInt32.toUInt16.toUInt32.toInt32))] : List Int32), ¬ c < 0 ∧ ¬ (255 : Int32) < c := fun c hc => by
    rcases List.mem_cons.mp hc with rfl | hc
    · exact own_byte _
    · rcases List.mem_cons.mp hc with rfl | hc
      · exact own_byte _
      · cases hc
  obtain ⟨_, _, ⟨T1240, L1240, k1240, n1240⟩, -, X1240, ⟨Lc1240, hQ1240, l1240, y1240, z1240⟩, st1240⟩ := X1229.specialBack hx (y := (⟨"java/lang/String", "<init>", "([C)V"⟩ : MethodName)) rfl hown (mvT hZ (hw _ (List.mem_of_getElem? (i := 4) rfl))) (mvT hZ (hw _ (List.mem_of_getElem? (i := 5) rfl))) (mvT hZ (hw _ (List.mem_of_getElem? (i := 6) rfl))) (by decide) (StrChars.Road.backV (W := 1) hZ (own_wV hw) (kI := 4) (hw _ (List.mem_of_getElem? (i := 2) rfl)) (cs := ([(nar .char ((p4 &&& (255 : Int32)).toUInt32.toUInt16.toUInt32.toInt32)), (nar .char ((((p4.toUInt32 >>> ((8 : Int32) &&& 31).toUInt32).toInt32) &&& (255 : Int32)).toUInt32.toUInt16.toUInt32.toInt32))] : List Int32)) (bs := ([(nar .char ((p4 &&& (255 : Int32)).toUInt32.toUInt16.toUInt32.toInt32)), (nar .char ((((p4.toUInt32 >>> ((8 : Int32) &&& 31).toUInt32).toInt32) &&& (255 : Int32)).toUInt32.toUInt16.toUInt32.toInt32))] : List Int32).map (fun c => c.toInt8.toInt32)) (n := 2) g1230 z1237 A1229 f1239 f1238 f1236 (Sta.ext f1234.2 S0) hcw rfl rfl (by decide) (by decide) own_hp rfl (by decide) (by decide)) (g := (mkF m 62 #[.val (.long q1), .second, .val (.long q2), .second, .val (.int p3), .val (.int p4), .val (.int r1), .val (.int r2), .val (.ref b1208), .unset, .unset, .unset, .unset, .unset, .unset, .unset, .unset, .unset] [(.ref b1208), (.ref b1229), (.ref b1229)])) rfl (by rw [hml]; rfl) (Steps.refl _) (a := b1229) (argsL := [(.ref b1208)]) (rest := [(.ref b1229)]) (lenOf pd___C_V rfl) rfl (by show 2 * 0 + _ ≤ _; exact Nat.le_of_eq rfl) (hb hby at_62) (fun _ _ => ⟨rfl, e1229, (by decide : 2 + 1 ≤ _), (by decide : 6 + 2 ≤ _)⟩)
  dsimp only [Pt.U, Pt.locs, Pt.cells, Pt.slots] at X1240 l1240 y1240 z1240 st1240 hQ1240
  subst l1240 y1240 z1240
  obtain ⟨rfl, N1240q, K1240, Ex1240, Cx1240, tx1240, kb1240, gx1240, sx1240, nx1240, Fx1240, Vx1240⟩ := hQ1240
  have N1240 := Fr.app N1222 N1240q
  refine own_goW (fun t k => st1240.trans k) ?_
  have C1241 := C1232.trans (CHr.keep K1240 (fun x => (fun q => (List.mem_cons.mp q).elim (fun e => e ▸ sfn) (fun q => nomatch q))) C1232.1)
  have hk1242 := Nat.le_trans hk1233 K1240.1
  have f1243 := f1234.keep K1240 (fun x => (fun q => (List.mem_cons.mp q).elim (fun e => e ▸ g1230) (fun q => nomatch q)))
  have f1244 := f1235.keep K1240
  have f1245 := f1236.keep K1240 (fun q => (List.mem_cons.mp q).elim n1231 (fun q => nomatch q))
  have f1246 := A1229.keep K1240
  have z1247 := Nat.le_trans z1237 K1240.1
  show own_GW _ _ p.tables e below s _ _ _ (T1240.setTop (mkF m 65 #[.val (.long q1), .second, .val (.long q2), .second, .val (.int p3), .val (.int p4), .val (.int r1), .val (.int r2), .val (.ref b1208), .unset, .unset, .unset, .unset, .unset, .unset, .unset, .unset, .unset] [(.ref b1229)]))
  refine own_goW (fun t k => XS.astore X1240.here hx rfl (hb hby at_65) rfl rfl (l' := #[.val (.long q1), .second, .val (.long q2), .second, .val (.int p3), .val (.int p4), .val (.int r1), .val (.int r2), .val (.ref b1208), .val (.ref b1229), .unset, .unset, .unset, .unset, .unset, .unset, .unset, .unset]) rfl k) ?_
  show own_GW _ _ p.tables e below s _ _ _ (T1240.setTop (mkF m 67 #[.val (.long q1), .second, .val (.long q2), .second, .val (.int p3), .val (.int p4), .val (.int r1), .val (.int r2), .val (.ref b1208), .val (.ref b1229), .unset, .unset, .unset, .unset, .unset, .unset, .unset, .unset] []))
  rcases hr1' with rfl | rfl
  · show own_GW _ _ p.tables e below s _ _ _ (T1240.setTop (mkF m 67 #[.val (.long q1), .second, .val (.long q2), .second, .val (.int p3), .val (.int p4), .val (.int (0 : Int32)), .val (.int r2), .val (.ref b1208), .val (.ref b1229), .unset, .unset, .unset, .unset, .unset, .unset, .unset, .unset] []))
    obtain ⟨T1248, h1248, X1248, e1248, E1248, A1248, D1248, -, st1248⟩ := newO X1240 hx hZ hown (hw _ (List.mem_of_getElem? (i := 30) rfl)) (hw _ (List.mem_of_getElem? (i := 31) rfl)) (hw _ (List.mem_of_getElem? (i := 32) rfl)) rfl (g := (mkF m 67 #[.val (.long q1), .second, .val (.long q2), .second, .val (.int p3), .val (.int p4), .val (.int (0 : Int32)), .val (.int r2), .val (.ref b1208), .val (.ref b1229), .unset, .unset, .unset, .unset, .unset, .unset, .unset, .unset] [])) rfl (hb hby at_67) (by decide) (by decide)
    obtain ⟨b1248, g1248⟩ : ∃ z, z = T1240.heap.size := ⟨_, rfl⟩
    rw [← g1248] at A1248 D1248 st1248
    refine own_goW st1248 ?_
    have g1249 := Nat.le_trans z1247 (Nat.le_of_eq g1248.symm)
    have C1250 := C1241.trans (CHr.ext E1248 C1241.1)
    have hk1251 := Nat.le_trans hk1242 E1248.1
    have f1252 := f1243.ext E1248
    have z1253 := Nat.le_trans z1247 E1248.1
    have f1254 : Fld Z h1248 b1248 "com/example/vouchsafe/vouchsafe/AuditTally" "audits" "J" (.long (0 : Int64)) := D1248 (Or.inr (hw _ (List.mem_of_getElem? (i := 43) rfl))) (ty := .long) (by decide)
    have f1255 : Fld Z h1248 b1248 "com/example/vouchsafe/vouchsafe/AuditTally" "passed" "J" (.long (0 : Int64)) := D1248 (Or.inr (hw _ (List.mem_of_getElem? (i := 45) rfl))) (ty := .long) (by decide)
    have f1256 : Fld Z h1248 b1248 "com/example/vouchsafe/vouchsafe/AuditTally" "lastPassed" "Z" (.int (0 : Int32)) := D1248 (Or.inr (hw _ (List.mem_of_getElem? (i := 47) rfl))) (ty := .boolean) (by decide)
    have f1257 : Fld Z h1248 b1248 "com/example/vouchsafe/vouchsafe/AuditTally" "newest" "Ljava/lang/String;" .null := D1248 (Or.inr (hw _ (List.mem_of_getElem? (i := 49) rfl))) (ty := (.object "java/lang/String")) (by decide)
    show own_GW _ _ p.tables e below s _ _ _ (T1248.setTop (mkF m 70 #[.val (.long q1), .second, .val (.long q2), .second, .val (.int p3), .val (.int p4), .val (.int (0 : Int32)), .val (.int r2), .val (.ref b1208), .val (.ref b1229), .unset, .unset, .unset, .unset, .unset, .unset, .unset, .unset] [(.ref b1248)]))
    refine own_goW (fun t k => XS.dup X1248.here hx rfl (hb hby at_70) rfl rfl k) ?_
    show own_GW _ _ p.tables e below s _ _ _ (T1248.setTop (mkF m 71 #[.val (.long q1), .second, .val (.long q2), .second, .val (.int p3), .val (.int p4), .val (.int (0 : Int32)), .val (.int r2), .val (.ref b1208), .val (.ref b1229), .unset, .unset, .unset, .unset, .unset, .unset, .unset, .unset] [(.ref b1248), (.ref b1248)]))
    refine own_goW (fun t k => XS.lloadN X1248.here hx rfl (hb hby at_71) rfl k) ?_
    show own_GW _ _ p.tables e below s _ _ _ (T1248.setTop (mkF m 72 #[.val (.long q1), .second, .val (.long q2), .second, .val (.int p3), .val (.int p4), .val (.int (0 : Int32)), .val (.int r2), .val (.ref b1208), .val (.ref b1229), .unset, .unset, .unset, .unset, .unset, .unset, .unset, .unset] [(.long q1), (.ref b1248), (.ref b1248)]))
    refine own_goW (fun t k => XS.lloadN X1248.here hx rfl (hb hby at_72) rfl k) ?_
    show own_GW _ _ p.tables e below s _ _ _ (T1248.setTop (mkF m 73 #[.val (.long q1), .second, .val (.long q2), .second, .val (.int p3), .val (.int p4), .val (.int (0 : Int32)), .val (.int r2), .val (.ref b1208), .val (.ref b1229), .unset, .unset, .unset, .unset, .unset, .unset, .unset, .unset] [(.long q2), (.long q1), (.ref b1248), (.ref b1248)]))
    refine own_goW (fun t k => XS.iload X1248.here hx rfl (hb hby at_73) rfl k) ?_
    show own_GW _ _ p.tables e below s _ _ _ (T1248.setTop (mkF m 75 #[.val (.long q1), .second, .val (.long q2), .second, .val (.int p3), .val (.int p4), .val (.int (0 : Int32)), .val (.int r2), .val (.ref b1208), .val (.ref b1229), .unset, .unset, .unset, .unset, .unset, .unset, .unset, .unset] [(.int (0 : Int32)), (.long q2), (.long q1), (.ref b1248), (.ref b1248)]))
    refine own_goW (fun t k => XS.aload X1248.here hx rfl (hb hby at_75) rfl rfl k) ?_
    show own_GW _ _ p.tables e below s _ _ _ (T1248.setTop (mkF m 77 #[.val (.long q1), .second, .val (.long q2), .second, .val (.int p3), .val (.int p4), .val (.int (0 : Int32)), .val (.int r2), .val (.ref b1208), .val (.ref b1229), .unset, .unset, .unset, .unset, .unset, .unset, .unset, .unset] [(.ref b1229), (.int (0 : Int32)), (.long q2), (.long q1), (.ref b1248), (.ref b1248)]))
    obtain ⟨_, _, ⟨T1258, L1258, k1258, n1258⟩, -, X1258, ⟨Lc1258, hQ1258, l1258, y1258, z1258⟩, st1258⟩ := X1248.specialBack hx (y := (⟨"com/example/vouchsafe/vouchsafe/AuditTally", "<init>", "(JJZLjava/lang/String;)V"⟩ : MethodName)) rfl hown (mvT hZ (hw _ (List.mem_of_getElem? (i := 33) rfl))) (mvT hZ (hw _ (List.mem_of_getElem? (i := 34) rfl))) (mvT hZ (hw _ (List.mem_of_getElem? (i := 35) rfl))) (by decide) (backOf (W := 1) (rma0 l Z a0 hw [] b1248 b1229 q1 q2 h1248 n0 z1253 A1248 f1254 f1255 f1256 f1257 g1249) hZ (hw _ (List.mem_of_getElem? (i := 35) rfl)) (hw _ (List.mem_of_getElem? (i := 32) rfl)) (by decide) (by decide)) (g := (mkF m 77 #[.val (.long q1), .second, .val (.long q2), .second, .val (.int p3), .val (.int p4), .val (.int (0 : Int32)), .val (.int r2), .val (.ref b1208), .val (.ref b1229), .unset, .unset, .unset, .unset, .unset, .unset, .unset, .unset] [(.ref b1229), (.int (0 : Int32)), (.long q2), (.long q1), (.ref b1248), (.ref b1248)])) rfl (by rw [hml]; rfl) (Steps.refl _) (a := b1248) (argsL := [(.long q1), (.long q2), (.int (0 : Int32)), (.ref b1229)]) (rest := [(.ref b1248)]) (lenOf pd__JJZLjava_lang_String__V rfl) rfl (by show 2 * 0 + _ ≤ _; exact Nat.le_of_eq rfl) (hb hby at_77) (fun _ _ => ⟨rfl, e1248, (by decide : 4 + 0 ≤ _), (by decide : 12 + 0 ≤ _)⟩)
    dsimp only [Pt.U, Pt.locs, Pt.cells, Pt.slots] at X1258 l1258 y1258 z1258 st1258 hQ1258
    subst l1258 y1258 z1258
    obtain ⟨rfl, N1258q, K1258, Fa1258, Fp1258, Fl1258⟩ := hQ1258
    have N1258 := Fr.app N1240 N1258q
    refine own_goW (fun t k => st1258.trans k) ?_
    have C1259 := C1250.trans (CHr.keep K1258 (fun x => (fun q => (List.mem_cons.mp q).elim (fun e => e ▸ (Safe.exa hZ.alike A1248 (by decide) (by decide))) (fun q => nomatch q))) C1250.1)
    have hk1260 := Nat.le_trans hk1251 K1258.1
    have f1261 := f1252.keep K1258 (fun x => (fun q => (List.mem_cons.mp q).elim (fun e => e ▸ g1249) (fun q => nomatch q)))
    have f1262 := A1248.keep K1258
    have z1263 := Nat.le_trans z1253 K1258.1
    show own_GW _ _ p.tables e below s _ _ _ (T1258.setTop (mkF m 80 #[.val (.long q1), .second, .val (.long q2), .second, .val (.int p3), .val (.int p4), .val (.int (0 : Int32)), .val (.int r2), .val (.ref b1208), .val (.ref b1229), .unset, .unset, .unset, .unset, .unset, .unset, .unset, .unset] [(.ref b1248)]))
    refine own_goW (fun t k => XS.astore X1258.here hx rfl (hb hby at_80) rfl rfl (l' := #[.val (.long q1), .second, .val (.long q2), .second, .val (.int p3), .val (.int p4), .val (.int (0 : Int32)), .val (.int r2), .val (.ref b1208), .val (.ref b1229), .val (.ref b1248), .unset, .unset, .unset, .unset, .unset, .unset, .unset]) rfl k) ?_
    show own_GW _ _ p.tables e below s _ _ _ (T1258.setTop (mkF m 82 #[.val (.long q1), .second, .val (.long q2), .second, .val (.int p3), .val (.int p4), .val (.int (0 : Int32)), .val (.int r2), .val (.ref b1208), .val (.ref b1229), .val (.ref b1248), .unset, .unset, .unset, .unset, .unset, .unset, .unset] []))
    refine own_goW (fun t k => XS.lloadN X1258.here hx rfl (hb hby at_82) rfl k) ?_
    show own_GW _ _ p.tables e below s _ _ _ (T1258.setTop (mkF m 83 #[.val (.long q1), .second, .val (.long q2), .second, .val (.int p3), .val (.int p4), .val (.int (0 : Int32)), .val (.int r2), .val (.ref b1208), .val (.ref b1229), .val (.ref b1248), .unset, .unset, .unset, .unset, .unset, .unset, .unset] [(.long q1)]))
    refine own_goW (fun t k => XS.lconst X1258.here hx rfl (hb hby at_83) k) ?_
    show own_GW _ _ p.tables e below s _ _ _ (T1258.setTop (mkF m 84 #[.val (.long q1), .second, .val (.long q2), .second, .val (.int p3), .val (.int p4), .val (.int (0 : Int32)), .val (.int r2), .val (.ref b1208), .val (.ref b1229), .val (.ref b1248), .unset, .unset, .unset, .unset, .unset, .unset, .unset] [(.long (0 : Int64)), (.long q1)]))
    refine own_goW (fun t k => Jvm.Free.XT.lcmp X1258.here hx rfl (hb hby at_84) rfl k) ?_
    show own_GW _ _ p.tables e below s _ _ _ (T1258.setTop (mkF m 85 #[.val (.long q1), .second, .val (.long q2), .second, .val (.int p3), .val (.int p4), .val (.int (0 : Int32)), .val (.int r2), .val (.ref b1208), .val (.ref b1229), .val (.ref b1248), .unset, .unset, .unset, .unset, .unset, .unset, .unset] [(.int (Jvm.Free.XT.cmpL q1 (0 : Int64)))]))
    by_cases h85 : q1 = (0 : Int64)
    · refine own_goW (fun t k => XS.ifNo X1258.here hx rfl (hb hby at_85) rfl (Jvm.Free.XT.ll_ne_f h85) k) ?_
      show own_GW _ _ p.tables e below s _ _ _ (T1258.setTop (mkF m 88 #[.val (.long q1), .second, .val (.long q2), .second, .val (.int p3), .val (.int p4), .val (.int (0 : Int32)), .val (.int r2), .val (.ref b1208), .val (.ref b1229), .val (.ref b1248), .unset, .unset, .unset, .unset, .unset, .unset, .unset] []))
      obtain ⟨a1264, T1264, h1264, k1264, b1264, kk1264, X1264, e1264, E1264, hS1264, hk1264, hZ1264, ho1264, Ea1264, Fc1264, Fv1264, V1264, la1264, lb1264, C1264', Li1264, sf1264, st1264⟩ := ldcCH X1258 hx hZ hown (hw _ (List.mem_of_getElem? (i := 114) rfl)) (own_wS hw) rfl hS0 hk1260 (own_hEL hw) (List.mem_of_getElem? (i := 3) rfl) C1259.1 (vs := [(.int (78 : Int32)), (.int (79 : Int32)), (.int (78 : Int32)), (.int (69 : Int32))]) (z := (4 : Int32)) ⟨by decide, rfl⟩ (by decide) rfl (g := (mkF m 88 #[.val (.long q1), .second, .val (.long q2), .second, .val (.int p3), .val (.int p4), .val (.int (0 : Int32)), .val (.int r2), .val (.ref b1208), .val (.ref b1229), .val (.ref b1248), .unset, .unset, .unset, .unset, .unset, .unset, .unset] [])) rfl (hb hby at_88) (n := 16) (by decide) (by decide) (by decide) (by decide)
      refine own_goW st1264 ?_
      have C1265 := C1259.trans C1264'
      have f1266 := f1261.ext E1264
      have f1267 := Exa.ext E1264 f1262
      have f1268 := Fld.ext E1264 Fa1258
      have f1269 := Fld.ext E1264 Fl1258
      have z1270 := Nat.le_trans z1263 E1264.1
      have n1271 := ne_exa Ea1264 f1267 (by decide)
      have n1272 := (Exa.neArv f1267 V1264 (hw _ (List.mem_of_getElem? (i := 31) rfl))).symm
      show own_GW _ _ p.tables e below s _ _ _ (T1264.setTop (mkF m 90 #[.val (.long q1), .second, .val (.long q2), .second, .val (.int p3), .val (.int p4), .val (.int (0 : Int32)), .val (.int r2), .val (.ref b1208), .val (.ref b1229), .val (.ref b1248), .unset, .unset, .unset, .unset, .unset, .unset, .unset] [(.ref a1264)]))
      refine own_goW (fun t k => XS.goto X1264.here hx rfl (pc0 := 90) (pc' := 105) rfl (hb hby at_90) (by decide) (by decide) k) ?_
      show own_GW _ _ p.tables e below s _ _ _ (T1264.setTop (mkF m 105 #[.val (.long q1), .second, .val (.long q2), .second, .val (.int p3), .val (.int p4), .val (.int (0 : Int32)), .val (.int r2), .val (.ref b1208), .val (.ref b1229), .val (.ref b1248), .unset, .unset, .unset, .unset, .unset, .unset, .unset] [(.ref a1264)]))
      refine own_goW (fun t k => XS.astore X1264.here hx rfl (hb hby at_105) rfl rfl (l' := #[.val (.long q1), .second, .val (.long q2), .second, .val (.int p3), .val (.int p4), .val (.int (0 : Int32)), .val (.int r2), .val (.ref b1208), .val (.ref b1229), .val (.ref b1248), .val (.ref a1264), .unset, .unset, .unset, .unset, .unset, .unset]) rfl k) ?_
      show own_GW _ _ p.tables e below s _ _ _ (T1264.setTop (mkF m 107 #[.val (.long q1), .second, .val (.long q2), .second, .val (.int p3), .val (.int p4), .val (.int (0 : Int32)), .val (.int r2), .val (.ref b1208), .val (.ref b1229), .val (.ref b1248), .val (.ref a1264), .unset, .unset, .unset, .unset, .unset, .unset] []))
      refine own_goW (fun t k => XS.aload X1264.here hx rfl (hb hby at_107) rfl rfl k) ?_
      show own_GW _ _ p.tables e below s _ _ _ (T1264.setTop (mkF m 109 #[.val (.long q1), .second, .val (.long q2), .second, .val (.int p3), .val (.int p4), .val (.int (0 : Int32)), .val (.int r2), .val (.ref b1208), .val (.ref b1229), .val (.ref b1248), .val (.ref a1264), .unset, .unset, .unset, .unset, .unset, .unset] [(.ref a1264)]))
      refine own_goW (fun t k => XS.aload X1264.here hx rfl (hb hby at_109) rfl rfl k) ?_
      show own_GW _ _ p.tables e below s _ _ _ (T1264.setTop (mkF m 111 #[.val (.long q1), .second, .val (.long q2), .second, .val (.int p3), .val (.int p4), .val (.int (0 : Int32)), .val (.int r2), .val (.ref b1208), .val (.ref b1229), .val (.ref b1248), .val (.ref a1264), .unset, .unset, .unset, .unset, .unset, .unset] [(.ref b1248), (.ref a1264)]))
      obtain ⟨cq1273, kq1273, q1273a, q1273b, q1273c⟩ := isOf hZ1264 e1264 f1267
      obtain ⟨_, _, ⟨T1273, L1273, k1273, n1273⟩, -, X1273', sn1273, gr1273, ⟨Lc1273, hQ1273, l1273, y1273, z1273, C1273'⟩, st1273⟩ := X1264.virtualBackS hx (y := (⟨"com/example/vouchsafe/vouchsafe/AuditTally", "last", "()Ljava/lang/String;"⟩ : MethodName)) (z := (⟨"com/example/vouchsafe/vouchsafe/AuditTally", "last", "()Ljava/lang/String;"⟩ : MethodName)) ho1264 (mvT hZ1264 (hw _ (List.mem_of_getElem? (i := 53) rfl))) (mvT hZ1264 (hw _ (List.mem_of_getElem? (i := 54) rfl))) (notFace_of_selects (args := #[]) (mvT hZ1264 (hw _ (List.mem_of_getElem? (i := 56) rfl)))) (mvT hZ1264 (hw _ (List.mem_of_getElem? (i := 56) rfl))) (mvT hZ1264 (hw _ (List.mem_of_getElem? (i := 55) rfl))) (by decide) (backOfSH (W := 1) (rmlN l Z a0 hw [] b1248 q1 h1264 n0 z1270 f1268 h85) hZ1264 (hw _ (List.mem_of_getElem? (i := 57) rfl)) (hw _ (List.mem_of_getElem? (i := 32) rfl)) (by decide) (by decide) (own_hEL hw) C1265.1) q1273a q1273c (g := (mkF m 111 #[.val (.long q1), .second, .val (.long q2), .second, .val (.int p3), .val (.int p4), .val (.int (0 : Int32)), .val (.int r2), .val (.ref b1208), .val (.ref b1229), .val (.ref b1248), .val (.ref a1264), .unset, .unset, .unset, .unset, .unset, .unset] [(.ref b1248), (.ref a1264)])) rfl (by rw [hml]; rfl) (Steps.refl _) (argsL := []) (rest := [(.ref a1264)]) (lenOf pd___Ljava_lang_String_ rfl) rfl (by show 2 * 0 + _ ≤ _; exact Nat.le_of_eq rfl) (hb hby at_111) (fun _ _ => ⟨rfl, e1264, (by decide : 6 + 2 ≤ _), (by decide : 32 + 20 ≤ _)⟩)
      dsimp only [Pt.U, Pt.locs, Pt.cells, Pt.slots] at X1273' sn1273 gr1273 l1273 y1273 z1273 st1273 hQ1273 C1273'
      subst l1273 y1273 z1273
      obtain ⟨X1273, hS1273, hZ1273, ho1273⟩ := rebS hS1264 (by rw [e1264]; exact hk1264) X1273' sn1273 gr1273 hZ1264 ho1264
      obtain ⟨⟨a1273, rfl, Ex1273, Cx1273, t1273, kx1273, Vx1273, Ax1273⟩, N1273q, K1273⟩ := hQ1273
      have N1273 := Fr.app N1258 N1273q
      have C1274 := C1265.trans C1273'
      refine own_goW (fun t k => st1273.trans k) ?_
      have f1275 := f1266.keep K1273 (fun x q => nomatch q)
      have f1276 := f1267.keep K1273
      have f1277 := f1268.keep K1273 (fun q => nomatch q)
      have f1278 := f1269.keep K1273 (fun q => nomatch q)
      have f1279 := Ea1264.keep K1273
      have f1280 := Fc1264.keep K1273 (fun q => nomatch q)
      have f1281 := Fv1264.keep K1273 (fun q => nomatch q)
      have f1282 := V1264.keep K1273 (fun q => nomatch q)
      have z1283 := Nat.le_trans z1270 K1273.1
      show own_GW _ _ p.tables e below s _ _ _ (T1273.setTop (mkF m 114 #[.val (.long q1), .second, .val (.long q2), .second, .val (.int p3), .val (.int p4), .val (.int (0 : Int32)), .val (.int r2), .val (.ref b1208), .val (.ref b1229), .val (.ref b1248), .val (.ref a1264), .unset, .unset, .unset, .unset, .unset, .unset] [(.ref a1273), (.ref a1264)]))
      obtain ⟨cq1284, kq1284, q1284a, q1284b, q1284c⟩ := isOf hZ1273 rfl f1279
      obtain ⟨_, _, ⟨T1284, L1284, k1284, n1284⟩, -, X1284, ⟨Lc1284, hQ1284, l1284, y1284, z1284⟩, st1284⟩ := X1273.virtualBack hx (y := (⟨"java/lang/String", "equals", "(Ljava/lang/Object;)Z"⟩ : MethodName)) (z := (⟨"java/lang/String", "equals", "(Ljava/lang/Object;)Z"⟩ : MethodName)) ho1273 (mvT hZ1273 (hw _ (List.mem_of_getElem? (i := 59) rfl))) (mvT hZ1273 (hw _ (List.mem_of_getElem? (i := 60) rfl))) (notFace_of_selects (args := #[]) (mvT hZ1273 (hw _ (List.mem_of_getElem? (i := 62) rfl)))) (mvT hZ1273 (hw _ (List.mem_of_getElem? (i := 62) rfl))) (mvT hZ1273 (hw _ (List.mem_of_getElem? (i := 61) rfl))) (by decide) (StrChars.Road.eqW (W := 0) hZ1273 (own_wE hw) (kI := 4) (hw _ (List.mem_of_getElem? (i := 2) rfl)) f1279 f1281 f1280 f1282 (StrChars.Road.codOf (cs := ([78, 79, 78, 69] : List Int32)) (n := 4) rfl (by decide)) (by decide) (by decide) Ex1273 Vx1273 Cx1273 Ax1273 (StrChars.Road.codOf (cs := ([78, 79, 78, 69] : List Int32)) (n := 4) rfl (by decide)) (by decide) (by decide) (Sta.ext f1275.2 S0) hcw (by decide) (by decide)) q1284a q1284c (g := (mkF m 114 #[.val (.long q1), .second, .val (.long q2), .second, .val (.int p3), .val (.int p4), .val (.int (0 : Int32)), .val (.int r2), .val (.ref b1208), .val (.ref b1229), .val (.ref b1248), .val (.ref a1264), .unset, .unset, .unset, .unset, .unset, .unset] [(.ref a1273), (.ref a1264)])) rfl (by rw [hml]; rfl) (Steps.refl _) (argsL := [(.ref a1273)]) (rest := []) (lenOf pd__Ljava_lang_Object__Z rfl) rfl (by show 2 * 0 + _ ≤ _; exact Nat.le_of_eq rfl) (hb hby at_114) (fun _ _ => ⟨rfl, rfl, (by decide : 8 + 0 ≤ _), (by decide : 52 + 0 ≤ _)⟩)
      dsimp only [Pt.U, Pt.locs, Pt.cells, Pt.slots] at X1284 l1284 y1284 z1284 st1284 hQ1284
      subst l1284 y1284 z1284
      obtain ⟨hv1284, rfl, hh1284⟩ := hQ1284
      obtain ⟨rfl, -⟩ := hv1284.resolve_right (fun q => q.2 rfl)
      have N1284q := Fr.nil n0
      have N1284 := Fr.app N1273 N1284q
      refine own_goW (fun t k => st1284.trans k) ?_
      show own_GW _ _ p.tables e below s _ _ _ (T1284.setTop (mkF m 117 #[.val (.long q1), .second, .val (.long q2), .second, .val (.int p3), .val (.int p4), .val (.int (0 : Int32)), .val (.int r2), .val (.ref b1208), .val (.ref b1229), .val (.ref b1248), .val (.ref a1264), .unset, .unset, .unset, .unset, .unset, .unset] [(.int (1 : Int32))]))
      refine own_goW (fun t k => XS.ifYes X1284.here hx rfl (pc0 := 117) (pc' := 122) rfl (hb hby at_117) rfl (by decide) (by decide) (by decide) k) ?_
      show own_GW _ _ p.tables e below s _ _ _ (T1284.setTop (mkF m 122 #[.val (.long q1), .second, .val (.long q2), .second, .val (.int p3), .val (.int p4), .val (.int (0 : Int32)), .val (.int r2), .val (.ref b1208), .val (.ref b1229), .val (.ref b1248), .val (.ref a1264), .unset, .unset, .unset, .unset, .unset, .unset] []))
      rcases hr2' with rfl | rfl
      · exact own_tail_00 q1 q2 p3 p4 w0 b1208 b1229 b1248 a1264 X1284 hx hlk hZ1273 hw hby hml ho1273 Bd.returns hh1284 z1283 N1284 f1275 S0 hcw hS1273 (Nat.le_refl _) C1274 (fun _ _ N => ⟨rfl, N⟩) (by decide) (by decide)
      · exact own_tail_01 q1 q2 p3 p4 w0 b1208 b1229 b1248 a1264 X1284 hx hlk hZ1273 hw hby hml ho1273 Bd.returns hh1284 z1283 N1284 f1275 S0 hcw hS1273 (Nat.le_refl _) C1274 (fun _ _ N => ⟨rfl, N⟩) (by decide) (by decide)
    · refine own_goW (fun t k => XS.ifYes X1258.here hx rfl (pc0 := 85) (pc' := 93) rfl (hb hby at_85) rfl (Jvm.Free.XT.ll_ne_t h85) (by decide) (by decide) k) ?_
      show own_GW _ _ p.tables e below s _ _ _ (T1258.setTop (mkF m 93 #[.val (.long q1), .second, .val (.long q2), .second, .val (.int p3), .val (.int p4), .val (.int (0 : Int32)), .val (.int r2), .val (.ref b1208), .val (.ref b1229), .val (.ref b1248), .unset, .unset, .unset, .unset, .unset, .unset, .unset] []))
      refine own_goW (fun t k => XS.iload X1258.here hx rfl (hb hby at_93) rfl k) ?_
      show own_GW _ _ p.tables e below s _ _ _ (T1258.setTop (mkF m 95 #[.val (.long q1), .second, .val (.long q2), .second, .val (.int p3), .val (.int p4), .val (.int (0 : Int32)), .val (.int r2), .val (.ref b1208), .val (.ref b1229), .val (.ref b1248), .unset, .unset, .unset, .unset, .unset, .unset, .unset] [(.int (0 : Int32))]))
      refine own_goW (fun t k => XS.ifYes X1258.here hx rfl (pc0 := 95) (pc' := 103) rfl (hb hby at_95) rfl (by decide) (by decide) (by decide) k) ?_
      show own_GW _ _ p.tables e below s _ _ _ (T1258.setTop (mkF m 103 #[.val (.long q1), .second, .val (.long q2), .second, .val (.int p3), .val (.int p4), .val (.int (0 : Int32)), .val (.int r2), .val (.ref b1208), .val (.ref b1229), .val (.ref b1248), .unset, .unset, .unset, .unset, .unset, .unset, .unset] []))
      obtain ⟨a1285, T1285, h1285, k1285, b1285, kk1285, X1285, e1285, E1285, hS1285, hk1285, hZ1285, ho1285, Ea1285, Fc1285, Fv1285, V1285, la1285, lb1285, C1285', Li1285, sf1285, st1285⟩ := ldcCH X1258 hx hZ hown (hw _ (List.mem_of_getElem? (i := 50) rfl)) (own_wS hw) rfl hS0 hk1260 (own_hEL hw) (List.mem_of_getElem? (i := 5) rfl) C1259.1 (vs := [(.int (70 : Int32)), (.int (65 : Int32)), (.int (73 : Int32)), (.int (76 : Int32))]) (z := (4 : Int32)) ⟨by decide, rfl⟩ (by decide) rfl (g := (mkF m 103 #[.val (.long q1), .second, .val (.long q2), .second, .val (.int p3), .val (.int p4), .val (.int (0 : Int32)), .val (.int r2), .val (.ref b1208), .val (.ref b1229), .val (.ref b1248), .unset, .unset, .unset, .unset, .unset, .unset, .unset] [])) rfl (hb hby at_103) (n := 16) (by decide) (by decide) (by decide) (by decide)
      refine own_goW st1285 ?_
      have C1286 := C1259.trans C1285'
      have f1287 := f1261.ext E1285
      have f1288 := Exa.ext E1285 f1262
      have f1289 := Fld.ext E1285 Fa1258
      have f1290 := Fld.ext E1285 Fl1258
      have z1291 := Nat.le_trans z1263 E1285.1
      have n1292 := ne_exa Ea1285 f1288 (by decide)
      have n1293 := (Exa.neArv f1288 V1285 (hw _ (List.mem_of_getElem? (i := 31) rfl))).symm
      show own_GW _ _ p.tables e below s _ _ _ (T1285.setTop (mkF m 105 #[.val (.long q1), .second, .val (.long q2), .second, .val (.int p3), .val (.int p4), .val (.int (0 : Int32)), .val (.int r2), .val (.ref b1208), .val (.ref b1229), .val (.ref b1248), .unset, .unset, .unset, .unset, .unset, .unset, .unset] [(.ref a1285)]))
      refine own_goW (fun t k => XS.astore X1285.here hx rfl (hb hby at_105) rfl rfl (l' := #[.val (.long q1), .second, .val (.long q2), .second, .val (.int p3), .val (.int p4), .val (.int (0 : Int32)), .val (.int r2), .val (.ref b1208), .val (.ref b1229), .val (.ref b1248), .val (.ref a1285), .unset, .unset, .unset, .unset, .unset, .unset]) rfl k) ?_
      show own_GW _ _ p.tables e below s _ _ _ (T1285.setTop (mkF m 107 #[.val (.long q1), .second, .val (.long q2), .second, .val (.int p3), .val (.int p4), .val (.int (0 : Int32)), .val (.int r2), .val (.ref b1208), .val (.ref b1229), .val (.ref b1248), .val (.ref a1285), .unset, .unset, .unset, .unset, .unset, .unset] []))
      refine own_goW (fun t k => XS.aload X1285.here hx rfl (hb hby at_107) rfl rfl k) ?_
      show own_GW _ _ p.tables e below s _ _ _ (T1285.setTop (mkF m 109 #[.val (.long q1), .second, .val (.long q2), .second, .val (.int p3), .val (.int p4), .val (.int (0 : Int32)), .val (.int r2), .val (.ref b1208), .val (.ref b1229), .val (.ref b1248), .val (.ref a1285), .unset, .unset, .unset, .unset, .unset, .unset] [(.ref a1285)]))
      refine own_goW (fun t k => XS.aload X1285.here hx rfl (hb hby at_109) rfl rfl k) ?_
      show own_GW _ _ p.tables e below s _ _ _ (T1285.setTop (mkF m 111 #[.val (.long q1), .second, .val (.long q2), .second, .val (.int p3), .val (.int p4), .val (.int (0 : Int32)), .val (.int r2), .val (.ref b1208), .val (.ref b1229), .val (.ref b1248), .val (.ref a1285), .unset, .unset, .unset, .unset, .unset, .unset] [(.ref b1248), (.ref a1285)]))
      obtain ⟨cq1294, kq1294, q1294a, q1294b, q1294c⟩ := isOf hZ1285 e1285 f1288
      obtain ⟨_, _, ⟨T1294, L1294, k1294, n1294⟩, -, X1294', sn1294, gr1294, ⟨Lc1294, hQ1294, l1294, y1294, z1294, C1294'⟩, st1294⟩ := X1285.virtualBackS hx (y := (⟨"com/example/vouchsafe/vouchsafe/AuditTally", "last", "()Ljava/lang/String;"⟩ : MethodName)) (z := (⟨"com/example/vouchsafe/vouchsafe/AuditTally", "last", "()Ljava/lang/String;"⟩ : MethodName)) ho1285 (mvT hZ1285 (hw _ (List.mem_of_getElem? (i := 53) rfl))) (mvT hZ1285 (hw _ (List.mem_of_getElem? (i := 54) rfl))) (notFace_of_selects (args := #[]) (mvT hZ1285 (hw _ (List.mem_of_getElem? (i := 56) rfl)))) (mvT hZ1285 (hw _ (List.mem_of_getElem? (i := 56) rfl))) (mvT hZ1285 (hw _ (List.mem_of_getElem? (i := 55) rfl))) (by decide) (backOfSH (W := 1) (rmlF l Z a0 hw [] b1248 q1 h1285 n0 z1291 f1289 h85 f1290) hZ1285 (hw _ (List.mem_of_getElem? (i := 57) rfl)) (hw _ (List.mem_of_getElem? (i := 32) rfl)) (by decide) (by decide) (own_hEL hw) C1286.1) q1294a q1294c (g := (mkF m 111 #[.val (.long q1), .second, .val (.long q2), .second, .val (.int p3), .val (.int p4), .val (.int (0 : Int32)), .val (.int r2), .val (.ref b1208), .val (.ref b1229), .val (.ref b1248), .val (.ref a1285), .unset, .unset, .unset, .unset, .unset, .unset] [(.ref b1248), (.ref a1285)])) rfl (by rw [hml]; rfl) (Steps.refl _) (argsL := []) (rest := [(.ref a1285)]) (lenOf pd___Ljava_lang_String_ rfl) rfl (by show 2 * 0 + _ ≤ _; exact Nat.le_of_eq rfl) (hb hby at_111) (fun _ _ => ⟨rfl, e1285, (by decide : 6 + 2 ≤ _), (by decide : 32 + 20 ≤ _)⟩)
      dsimp only [Pt.U, Pt.locs, Pt.cells, Pt.slots] at X1294' sn1294 gr1294 l1294 y1294 z1294 st1294 hQ1294 C1294'
      subst l1294 y1294 z1294
      obtain ⟨X1294, hS1294, hZ1294, ho1294⟩ := rebS hS1285 (by rw [e1285]; exact hk1285) X1294' sn1294 gr1294 hZ1285 ho1285
      obtain ⟨⟨a1294, rfl, Ex1294, Cx1294, t1294, kx1294, Vx1294, Ax1294⟩, N1294q, K1294⟩ := hQ1294
      have N1294 := Fr.app N1258 N1294q
      have C1295 := C1286.trans C1294'
      refine own_goW (fun t k => st1294.trans k) ?_
      have f1296 := f1287.keep K1294 (fun x q => nomatch q)
      have f1297 := f1288.keep K1294
      have f1298 := f1289.keep K1294 (fun q => nomatch q)
      have f1299 := f1290.keep K1294 (fun q => nomatch q)
      have f1300 := Ea1285.keep K1294
      have f1301 := Fc1285.keep K1294 (fun q => nomatch q)
      have f1302 := Fv1285.keep K1294 (fun q => nomatch q)
      have f1303 := V1285.keep K1294 (fun q => nomatch q)
      have z1304 := Nat.le_trans z1291 K1294.1
      show own_GW _ _ p.tables e below s _ _ _ (T1294.setTop (mkF m 114 #[.val (.long q1), .second, .val (.long q2), .second, .val (.int p3), .val (.int p4), .val (.int (0 : Int32)), .val (.int r2), .val (.ref b1208), .val (.ref b1229), .val (.ref b1248), .val (.ref a1285), .unset, .unset, .unset, .unset, .unset, .unset] [(.ref a1294), (.ref a1285)]))
      obtain ⟨cq1305, kq1305, q1305a, q1305b, q1305c⟩ := isOf hZ1294 rfl f1300
      obtain ⟨_, _, ⟨T1305, L1305, k1305, n1305⟩, -, X1305, ⟨Lc1305, hQ1305, l1305, y1305, z1305⟩, st1305⟩ := X1294.virtualBack hx (y := (⟨"java/lang/String", "equals", "(Ljava/lang/Object;)Z"⟩ : MethodName)) (z := (⟨"java/lang/String", "equals", "(Ljava/lang/Object;)Z"⟩ : MethodName)) ho1294 (mvT hZ1294 (hw _ (List.mem_of_getElem? (i := 59) rfl))) (mvT hZ1294 (hw _ (List.mem_of_getElem? (i := 60) rfl))) (notFace_of_selects (args := #[]) (mvT hZ1294 (hw _ (List.mem_of_getElem? (i := 62) rfl)))) (mvT hZ1294 (hw _ (List.mem_of_getElem? (i := 62) rfl))) (mvT hZ1294 (hw _ (List.mem_of_getElem? (i := 61) rfl))) (by decide) (StrChars.Road.eqW (W := 0) hZ1294 (own_wE hw) (kI := 4) (hw _ (List.mem_of_getElem? (i := 2) rfl)) f1300 f1302 f1301 f1303 (StrChars.Road.codOf (cs := ([70, 65, 73, 76] : List Int32)) (n := 4) rfl (by decide)) (by decide) (by decide) Ex1294 Vx1294 Cx1294 Ax1294 (StrChars.Road.codOf (cs := ([70, 65, 73, 76] : List Int32)) (n := 4) rfl (by decide)) (by decide) (by decide) (Sta.ext f1296.2 S0) hcw (by decide) (by decide)) q1305a q1305c (g := (mkF m 114 #[.val (.long q1), .second, .val (.long q2), .second, .val (.int p3), .val (.int p4), .val (.int (0 : Int32)), .val (.int r2), .val (.ref b1208), .val (.ref b1229), .val (.ref b1248), .val (.ref a1285), .unset, .unset, .unset, .unset, .unset, .unset] [(.ref a1294), (.ref a1285)])) rfl (by rw [hml]; rfl) (Steps.refl _) (argsL := [(.ref a1294)]) (rest := []) (lenOf pd__Ljava_lang_Object__Z rfl) rfl (by show 2 * 0 + _ ≤ _; exact Nat.le_of_eq rfl) (hb hby at_114) (fun _ _ => ⟨rfl, rfl, (by decide : 8 + 0 ≤ _), (by decide : 52 + 0 ≤ _)⟩)
      dsimp only [Pt.U, Pt.locs, Pt.cells, Pt.slots] at X1305 l1305 y1305 z1305 st1305 hQ1305
      subst l1305 y1305 z1305
      obtain ⟨hv1305, rfl, hh1305⟩ := hQ1305
      obtain ⟨rfl, -⟩ := hv1305.resolve_right (fun q => q.2 rfl)
      have N1305q := Fr.nil n0
      have N1305 := Fr.app N1294 N1305q
      refine own_goW (fun t k => st1305.trans k) ?_
      show own_GW _ _ p.tables e below s _ _ _ (T1305.setTop (mkF m 117 #[.val (.long q1), .second, .val (.long q2), .second, .val (.int p3), .val (.int p4), .val (.int (0 : Int32)), .val (.int r2), .val (.ref b1208), .val (.ref b1229), .val (.ref b1248), .val (.ref a1285), .unset, .unset, .unset, .unset, .unset, .unset] [(.int (1 : Int32))]))
      refine own_goW (fun t k => XS.ifYes X1305.here hx rfl (pc0 := 117) (pc' := 122) rfl (hb hby at_117) rfl (by decide) (by decide) (by decide) k) ?_
      show own_GW _ _ p.tables e below s _ _ _ (T1305.setTop (mkF m 122 #[.val (.long q1), .second, .val (.long q2), .second, .val (.int p3), .val (.int p4), .val (.int (0 : Int32)), .val (.int r2), .val (.ref b1208), .val (.ref b1229), .val (.ref b1248), .val (.ref a1285), .unset, .unset, .unset, .unset, .unset, .unset] []))
      rcases hr2' with rfl | rfl
      · exact own_tail_00 q1 q2 p3 p4 w0 b1208 b1229 b1248 a1285 X1305 hx hlk hZ1294 hw hby hml ho1294 Bd.returns hh1305 z1304 N1305 f1296 S0 hcw hS1294 (Nat.le_refl _) C1295 (fun _ _ N => ⟨rfl, N⟩) (by decide) (by decide)
      · exact own_tail_01 q1 q2 p3 p4 w0 b1208 b1229 b1248 a1285 X1305 hx hlk hZ1294 hw hby hml ho1294 Bd.returns hh1305 z1304 N1305 f1296 S0 hcw hS1294 (Nat.le_refl _) C1295 (fun _ _ N => ⟨rfl, N⟩) (by decide) (by decide)
  · show own_GW _ _ p.tables e below s _ _ _ (T1240.setTop (mkF m 67 #[.val (.long q1), .second, .val (.long q2), .second, .val (.int p3), .val (.int p4), .val (.int (1 : Int32)), .val (.int r2), .val (.ref b1208), .val (.ref b1229), .unset, .unset, .unset, .unset, .unset, .unset, .unset, .unset] []))
    obtain ⟨T1306, h1306, X1306, e1306, E1306, A1306, D1306, -, st1306⟩ := newO X1240 hx hZ hown (hw _ (List.mem_of_getElem? (i := 30) rfl)) (hw _ (List.mem_of_getElem? (i := 31) rfl)) (hw _ (List.mem_of_getElem? (i := 32) rfl)) rfl (g := (mkF m 67 #[.val (.long q1), .second, .val (.long q2), .second, .val (.int p3), .val (.int p4), .val (.int (1 : Int32)), .val (.int r2), .val (.ref b1208), .val (.ref b1229), .unset, .unset, .unset, .unset, .unset, .unset, .unset, .unset] [])) rfl (hb hby at_67) (by decide) (by decide)
    obtain ⟨b1306, g1306⟩ : ∃ z, z = T1240.heap.size := ⟨_, rfl⟩
    rw [← g1306] at A1306 D1306 st1306
    refine own_goW st1306 ?_
    have g1307 := Nat.le_trans z1247 (Nat.le_of_eq g1306.symm)
    have C1308 := C1241.trans (CHr.ext E1306 C1241.1)
    have hk1309 := Nat.le_trans hk1242 E1306.1
    have f1310 := f1243.ext E1306
    have z1311 := Nat.le_trans z1247 E1306.1
    have f1312 : Fld Z h1306 b1306 "com/example/vouchsafe/vouchsafe/AuditTally" "audits" "J" (.long (0 : Int64)) := D1306 (Or.inr (hw _ (List.mem_of_getElem? (i := 43) rfl))) (ty := .long) (by decide)
    have f1313 : Fld Z h1306 b1306 "com/example/vouchsafe/vouchsafe/AuditTally" "passed" "J" (.long (0 : Int64)) := D1306 (Or.inr (hw _ (List.mem_of_getElem? (i := 45) rfl))) (ty := .long) (by decide)
    have f1314 : Fld Z h1306 b1306 "com/example/vouchsafe/vouchsafe/AuditTally" "lastPassed" "Z" (.int (0 : Int32)) := D1306 (Or.inr (hw _ (List.mem_of_getElem? (i := 47) rfl))) (ty := .boolean) (by decide)
    have f1315 : Fld Z h1306 b1306 "com/example/vouchsafe/vouchsafe/AuditTally" "newest" "Ljava/lang/String;" .null := D1306 (Or.inr (hw _ (List.mem_of_getElem? (i := 49) rfl))) (ty := (.object "java/lang/String")) (by decide)
    show own_GW _ _ p.tables e below s _ _ _ (T1306.setTop (mkF m 70 #[.val (.long q1), .second, .val (.long q2), .second, .val (.int p3), .val (.int p4), .val (.int (1 : Int32)), .val (.int r2), .val (.ref b1208), .val (.ref b1229), .unset, .unset, .unset, .unset, .unset, .unset, .unset, .unset] [(.ref b1306)]))
    refine own_goW (fun t k => XS.dup X1306.here hx rfl (hb hby at_70) rfl rfl k) ?_
    show own_GW _ _ p.tables e below s _ _ _ (T1306.setTop (mkF m 71 #[.val (.long q1), .second, .val (.long q2), .second, .val (.int p3), .val (.int p4), .val (.int (1 : Int32)), .val (.int r2), .val (.ref b1208), .val (.ref b1229), .unset, .unset, .unset, .unset, .unset, .unset, .unset, .unset] [(.ref b1306), (.ref b1306)]))
    refine own_goW (fun t k => XS.lloadN X1306.here hx rfl (hb hby at_71) rfl k) ?_
    show own_GW _ _ p.tables e below s _ _ _ (T1306.setTop (mkF m 72 #[.val (.long q1), .second, .val (.long q2), .second, .val (.int p3), .val (.int p4), .val (.int (1 : Int32)), .val (.int r2), .val (.ref b1208), .val (.ref b1229), .unset, .unset, .unset, .unset, .unset, .unset, .unset, .unset] [(.long q1), (.ref b1306), (.ref b1306)]))
    refine own_goW (fun t k => XS.lloadN X1306.here hx rfl (hb hby at_72) rfl k) ?_
    show own_GW _ _ p.tables e below s _ _ _ (T1306.setTop (mkF m 73 #[.val (.long q1), .second, .val (.long q2), .second, .val (.int p3), .val (.int p4), .val (.int (1 : Int32)), .val (.int r2), .val (.ref b1208), .val (.ref b1229), .unset, .unset, .unset, .unset, .unset, .unset, .unset, .unset] [(.long q2), (.long q1), (.ref b1306), (.ref b1306)]))
    refine own_goW (fun t k => XS.iload X1306.here hx rfl (hb hby at_73) rfl k) ?_
    show own_GW _ _ p.tables e below s _ _ _ (T1306.setTop (mkF m 75 #[.val (.long q1), .second, .val (.long q2), .second, .val (.int p3), .val (.int p4), .val (.int (1 : Int32)), .val (.int r2), .val (.ref b1208), .val (.ref b1229), .unset, .unset, .unset, .unset, .unset, .unset, .unset, .unset] [(.int (1 : Int32)), (.long q2), (.long q1), (.ref b1306), (.ref b1306)]))
    refine own_goW (fun t k => XS.aload X1306.here hx rfl (hb hby at_75) rfl rfl k) ?_
    show own_GW _ _ p.tables e below s _ _ _ (T1306.setTop (mkF m 77 #[.val (.long q1), .second, .val (.long q2), .second, .val (.int p3), .val (.int p4), .val (.int (1 : Int32)), .val (.int r2), .val (.ref b1208), .val (.ref b1229), .unset, .unset, .unset, .unset, .unset, .unset, .unset, .unset] [(.ref b1229), (.int (1 : Int32)), (.long q2), (.long q1), (.ref b1306), (.ref b1306)]))
    obtain ⟨_, _, ⟨T1316, L1316, k1316, n1316⟩, -, X1316, ⟨Lc1316, hQ1316, l1316, y1316, z1316⟩, st1316⟩ := X1306.specialBack hx (y := (⟨"com/example/vouchsafe/vouchsafe/AuditTally", "<init>", "(JJZLjava/lang/String;)V"⟩ : MethodName)) rfl hown (mvT hZ (hw _ (List.mem_of_getElem? (i := 33) rfl))) (mvT hZ (hw _ (List.mem_of_getElem? (i := 34) rfl))) (mvT hZ (hw _ (List.mem_of_getElem? (i := 35) rfl))) (by decide) (backOf (W := 1) (rma1 l Z a0 hw [] b1306 b1229 q1 q2 h1306 n0 z1311 A1306 f1312 f1313 f1314 f1315 g1307) hZ (hw _ (List.mem_of_getElem? (i := 35) rfl)) (hw _ (List.mem_of_getElem? (i := 32) rfl)) (by decide) (by decide)) (g := (mkF m 77 #[.val (.long q1), .second, .val (.long q2), .second, .val (.int p3), .val (.int p4), .val (.int (1 : Int32)), .val (.int r2), .val (.ref b1208), .val (.ref b1229), .unset, .unset, .unset, .unset, .unset, .unset, .unset, .unset] [(.ref b1229), (.int (1 : Int32)), (.long q2), (.long q1), (.ref b1306), (.ref b1306)])) rfl (by rw [hml]; rfl) (Steps.refl _) (a := b1306) (argsL := [(.long q1), (.long q2), (.int (1 : Int32)), (.ref b1229)]) (rest := [(.ref b1306)]) (lenOf pd__JJZLjava_lang_String__V rfl) rfl (by show 2 * 0 + _ ≤ _; exact Nat.le_of_eq rfl) (hb hby at_77) (fun _ _ => ⟨rfl, e1306, (by decide : 4 + 0 ≤ _), (by decide : 12 + 0 ≤ _)⟩)
    dsimp only [Pt.U, Pt.locs, Pt.cells, Pt.slots] at X1316 l1316 y1316 z1316 st1316 hQ1316
    subst l1316 y1316 z1316
    obtain ⟨rfl, N1316q, K1316, Fa1316, Fp1316, Fl1316⟩ := hQ1316
    have N1316 := Fr.app N1240 N1316q
    refine own_goW (fun t k => st1316.trans k) ?_
    have C1317 := C1308.trans (CHr.keep K1316 (fun x => (fun q => (List.mem_cons.mp q).elim (fun e => e ▸ (Safe.exa hZ.alike A1306 (by decide) (by decide))) (fun q => nomatch q))) C1308.1)
    have hk1318 := Nat.le_trans hk1309 K1316.1
    have f1319 := f1310.keep K1316 (fun x => (fun q => (List.mem_cons.mp q).elim (fun e => e ▸ g1307) (fun q => nomatch q)))
    have f1320 := A1306.keep K1316
    have z1321 := Nat.le_trans z1311 K1316.1
    show own_GW _ _ p.tables e below s _ _ _ (T1316.setTop (mkF m 80 #[.val (.long q1), .second, .val (.long q2), .second, .val (.int p3), .val (.int p4), .val (.int (1 : Int32)), .val (.int r2), .val (.ref b1208), .val (.ref b1229), .unset, .unset, .unset, .unset, .unset, .unset, .unset, .unset] [(.ref b1306)]))
    refine own_goW (fun t k => XS.astore X1316.here hx rfl (hb hby at_80) rfl rfl (l' := #[.val (.long q1), .second, .val (.long q2), .second, .val (.int p3), .val (.int p4), .val (.int (1 : Int32)), .val (.int r2), .val (.ref b1208), .val (.ref b1229), .val (.ref b1306), .unset, .unset, .unset, .unset, .unset, .unset, .unset]) rfl k) ?_
    show own_GW _ _ p.tables e below s _ _ _ (T1316.setTop (mkF m 82 #[.val (.long q1), .second, .val (.long q2), .second, .val (.int p3), .val (.int p4), .val (.int (1 : Int32)), .val (.int r2), .val (.ref b1208), .val (.ref b1229), .val (.ref b1306), .unset, .unset, .unset, .unset, .unset, .unset, .unset] []))
    refine own_goW (fun t k => XS.lloadN X1316.here hx rfl (hb hby at_82) rfl k) ?_
    show own_GW _ _ p.tables e below s _ _ _ (T1316.setTop (mkF m 83 #[.val (.long q1), .second, .val (.long q2), .second, .val (.int p3), .val (.int p4), .val (.int (1 : Int32)), .val (.int r2), .val (.ref b1208), .val (.ref b1229), .val (.ref b1306), .unset, .unset, .unset, .unset, .unset, .unset, .unset] [(.long q1)]))
    refine own_goW (fun t k => XS.lconst X1316.here hx rfl (hb hby at_83) k) ?_
    show own_GW _ _ p.tables e below s _ _ _ (T1316.setTop (mkF m 84 #[.val (.long q1), .second, .val (.long q2), .second, .val (.int p3), .val (.int p4), .val (.int (1 : Int32)), .val (.int r2), .val (.ref b1208), .val (.ref b1229), .val (.ref b1306), .unset, .unset, .unset, .unset, .unset, .unset, .unset] [(.long (0 : Int64)), (.long q1)]))
    refine own_goW (fun t k => Jvm.Free.XT.lcmp X1316.here hx rfl (hb hby at_84) rfl k) ?_
    show own_GW _ _ p.tables e below s _ _ _ (T1316.setTop (mkF m 85 #[.val (.long q1), .second, .val (.long q2), .second, .val (.int p3), .val (.int p4), .val (.int (1 : Int32)), .val (.int r2), .val (.ref b1208), .val (.ref b1229), .val (.ref b1306), .unset, .unset, .unset, .unset, .unset, .unset, .unset] [(.int (Jvm.Free.XT.cmpL q1 (0 : Int64)))]))
    by_cases h85 : q1 = (0 : Int64)
    · refine own_goW (fun t k => XS.ifNo X1316.here hx rfl (hb hby at_85) rfl (Jvm.Free.XT.ll_ne_f h85) k) ?_
      show own_GW _ _ p.tables e below s _ _ _ (T1316.setTop (mkF m 88 #[.val (.long q1), .second, .val (.long q2), .second, .val (.int p3), .val (.int p4), .val (.int (1 : Int32)), .val (.int r2), .val (.ref b1208), .val (.ref b1229), .val (.ref b1306), .unset, .unset, .unset, .unset, .unset, .unset, .unset] []))
      obtain ⟨a1322, T1322, h1322, k1322, b1322, kk1322, X1322, e1322, E1322, hS1322, hk1322, hZ1322, ho1322, Ea1322, Fc1322, Fv1322, V1322, la1322, lb1322, C1322', Li1322, sf1322, st1322⟩ := ldcCH X1316 hx hZ hown (hw _ (List.mem_of_getElem? (i := 114) rfl)) (own_wS hw) rfl hS0 hk1318 (own_hEL hw) (List.mem_of_getElem? (i := 3) rfl) C1317.1 (vs := [(.int (78 : Int32)), (.int (79 : Int32)), (.int (78 : Int32)), (.int (69 : Int32))]) (z := (4 : Int32)) ⟨by decide, rfl⟩ (by decide) rfl (g := (mkF m 88 #[.val (.long q1), .second, .val (.long q2), .second, .val (.int p3), .val (.int p4), .val (.int (1 : Int32)), .val (.int r2), .val (.ref b1208), .val (.ref b1229), .val (.ref b1306), .unset, .unset, .unset, .unset, .unset, .unset, .unset] [])) rfl (hb hby at_88) (n := 16) (by decide) (by decide) (by decide) (by decide)
      refine own_goW st1322 ?_
      have C1323 := C1317.trans C1322'
      have f1324 := f1319.ext E1322
      have f1325 := Exa.ext E1322 f1320
      have f1326 := Fld.ext E1322 Fa1316
      have f1327 := Fld.ext E1322 Fl1316
      have z1328 := Nat.le_trans z1321 E1322.1
      have n1329 := ne_exa Ea1322 f1325 (by decide)
      have n1330 := (Exa.neArv f1325 V1322 (hw _ (List.mem_of_getElem? (i := 31) rfl))).symm
      show own_GW _ _ p.tables e below s _ _ _ (T1322.setTop (mkF m 90 #[.val (.long q1), .second, .val (.long q2), .second, .val (.int p3), .val (.int p4), .val (.int (1 : Int32)), .val (.int r2), .val (.ref b1208), .val (.ref b1229), .val (.ref b1306), .unset, .unset, .unset, .unset, .unset, .unset, .unset] [(.ref a1322)]))
      refine own_goW (fun t k => XS.goto X1322.here hx rfl (pc0 := 90) (pc' := 105) rfl (hb hby at_90) (by decide) (by decide) k) ?_
      show own_GW _ _ p.tables e below s _ _ _ (T1322.setTop (mkF m 105 #[.val (.long q1), .second, .val (.long q2), .second, .val (.int p3), .val (.int p4), .val (.int (1 : Int32)), .val (.int r2), .val (.ref b1208), .val (.ref b1229), .val (.ref b1306), .unset, .unset, .unset, .unset, .unset, .unset, .unset] [(.ref a1322)]))
      refine own_goW (fun t k => XS.astore X1322.here hx rfl (hb hby at_105) rfl rfl (l' := #[.val (.long q1), .second, .val (.long q2), .second, .val (.int p3), .val (.int p4), .val (.int (1 : Int32)), .val (.int r2), .val (.ref b1208), .val (.ref b1229), .val (.ref b1306), .val (.ref a1322), .unset, .unset, .unset, .unset, .unset, .unset]) rfl k) ?_
      show own_GW _ _ p.tables e below s _ _ _ (T1322.setTop (mkF m 107 #[.val (.long q1), .second, .val (.long q2), .second, .val (.int p3), .val (.int p4), .val (.int (1 : Int32)), .val (.int r2), .val (.ref b1208), .val (.ref b1229), .val (.ref b1306), .val (.ref a1322), .unset, .unset, .unset, .unset, .unset, .unset] []))
      refine own_goW (fun t k => XS.aload X1322.here hx rfl (hb hby at_107) rfl rfl k) ?_
      show own_GW _ _ p.tables e below s _ _ _ (T1322.setTop (mkF m 109 #[.val (.long q1), .second, .val (.long q2), .second, .val (.int p3), .val (.int p4), .val (.int (1 : Int32)), .val (.int r2), .val (.ref b1208), .val (.ref b1229), .val (.ref b1306), .val (.ref a1322), .unset, .unset, .unset, .unset, .unset, .unset] [(.ref a1322)]))
      refine own_goW (fun t k => XS.aload X1322.here hx rfl (hb hby at_109) rfl rfl k) ?_
      show own_GW _ _ p.tables e below s _ _ _ (T1322.setTop (mkF m 111 #[.val (.long q1), .second, .val (.long q2), .second, .val (.int p3), .val (.int p4), .val (.int (1 : Int32)), .val (.int r2), .val (.ref b1208), .val (.ref b1229), .val (.ref b1306), .val (.ref a1322), .unset, .unset, .unset, .unset, .unset, .unset] [(.ref b1306), (.ref a1322)]))
      obtain ⟨cq1331, kq1331, q1331a, q1331b, q1331c⟩ := isOf hZ1322 e1322 f1325
      obtain ⟨_, _, ⟨T1331, L1331, k1331, n1331⟩, -, X1331', sn1331, gr1331, ⟨Lc1331, hQ1331, l1331, y1331, z1331, C1331'⟩, st1331⟩ := X1322.virtualBackS hx (y := (⟨"com/example/vouchsafe/vouchsafe/AuditTally", "last", "()Ljava/lang/String;"⟩ : MethodName)) (z := (⟨"com/example/vouchsafe/vouchsafe/AuditTally", "last", "()Ljava/lang/String;"⟩ : MethodName)) ho1322 (mvT hZ1322 (hw _ (List.mem_of_getElem? (i := 53) rfl))) (mvT hZ1322 (hw _ (List.mem_of_getElem? (i := 54) rfl))) (notFace_of_selects (args := #[]) (mvT hZ1322 (hw _ (List.mem_of_getElem? (i := 56) rfl)))) (mvT hZ1322 (hw _ (List.mem_of_getElem? (i := 56) rfl))) (mvT hZ1322 (hw _ (List.mem_of_getElem? (i := 55) rfl))) (by decide) (backOfSH (W := 1) (rmlN l Z a0 hw [] b1306 q1 h1322 n0 z1328 f1326 h85) hZ1322 (hw _ (List.mem_of_getElem? (i := 57) rfl)) (hw _ (List.mem_of_getElem? (i := 32) rfl)) (by decide) (by decide) (own_hEL hw) C1323.1) q1331a q1331c (g := (mkF m 111 #[.val (.long q1), .second, .val (.long q2), .second, .val (.int p3), .val (.int p4), .val (.int (1 : Int32)), .val (.int r2), .val (.ref b1208), .val (.ref b1229), .val (.ref b1306), .val (.ref a1322), .unset, .unset, .unset, .unset, .unset, .unset] [(.ref b1306), (.ref a1322)])) rfl (by rw [hml]; rfl) (Steps.refl _) (argsL := []) (rest := [(.ref a1322)]) (lenOf pd___Ljava_lang_String_ rfl) rfl (by show 2 * 0 + _ ≤ _; exact Nat.le_of_eq rfl) (hb hby at_111) (fun _ _ => ⟨rfl, e1322, (by decide : 6 + 2 ≤ _), (by decide : 32 + 20 ≤ _)⟩)
      dsimp only [Pt.U, Pt.locs, Pt.cells, Pt.slots] at X1331' sn1331 gr1331 l1331 y1331 z1331 st1331 hQ1331 C1331'
      subst l1331 y1331 z1331
      obtain ⟨X1331, hS1331, hZ1331, ho1331⟩ := rebS hS1322 (by rw [e1322]; exact hk1322) X1331' sn1331 gr1331 hZ1322 ho1322
      obtain ⟨⟨a1331, rfl, Ex1331, Cx1331, t1331, kx1331, Vx1331, Ax1331⟩, N1331q, K1331⟩ := hQ1331
      have N1331 := Fr.app N1316 N1331q
      have C1332 := C1323.trans C1331'
      refine own_goW (fun t k => st1331.trans k) ?_
      have f1333 := f1324.keep K1331 (fun x q => nomatch q)
      have f1334 := f1325.keep K1331
      have f1335 := f1326.keep K1331 (fun q => nomatch q)
      have f1336 := f1327.keep K1331 (fun q => nomatch q)
      have f1337 := Ea1322.keep K1331
      have f1338 := Fc1322.keep K1331 (fun q => nomatch q)
      have f1339 := Fv1322.keep K1331 (fun q => nomatch q)
      have f1340 := V1322.keep K1331 (fun q => nomatch q)
      have z1341 := Nat.le_trans z1328 K1331.1
      show own_GW _ _ p.tables e below s _ _ _ (T1331.setTop (mkF m 114 #[.val (.long q1), .second, .val (.long q2), .second, .val (.int p3), .val (.int p4), .val (.int (1 : Int32)), .val (.int r2), .val (.ref b1208), .val (.ref b1229), .val (.ref b1306), .val (.ref a1322), .unset, .unset, .unset, .unset, .unset, .unset] [(.ref a1331), (.ref a1322)]))
      obtain ⟨cq1342, kq1342, q1342a, q1342b, q1342c⟩ := isOf hZ1331 rfl f1337
      obtain ⟨_, _, ⟨T1342, L1342, k1342, n1342⟩, -, X1342, ⟨Lc1342, hQ1342, l1342, y1342, z1342⟩, st1342⟩ := X1331.virtualBack hx (y := (⟨"java/lang/String", "equals", "(Ljava/lang/Object;)Z"⟩ : MethodName)) (z := (⟨"java/lang/String", "equals", "(Ljava/lang/Object;)Z"⟩ : MethodName)) ho1331 (mvT hZ1331 (hw _ (List.mem_of_getElem? (i := 59) rfl))) (mvT hZ1331 (hw _ (List.mem_of_getElem? (i := 60) rfl))) (notFace_of_selects (args := #[]) (mvT hZ1331 (hw _ (List.mem_of_getElem? (i := 62) rfl)))) (mvT hZ1331 (hw _ (List.mem_of_getElem? (i := 62) rfl))) (mvT hZ1331 (hw _ (List.mem_of_getElem? (i := 61) rfl))) (by decide) (StrChars.Road.eqW (W := 0) hZ1331 (own_wE hw) (kI := 4) (hw _ (List.mem_of_getElem? (i := 2) rfl)) f1337 f1339 f1338 f1340 (StrChars.Road.codOf (cs := ([78, 79, 78, 69] : List Int32)) (n := 4) rfl (by decide)) (by decide) (by decide) Ex1331 Vx1331 Cx1331 Ax1331 (StrChars.Road.codOf (cs := ([78, 79, 78, 69] : List Int32)) (n := 4) rfl (by decide)) (by decide) (by decide) (Sta.ext f1333.2 S0) hcw (by decide) (by decide)) q1342a q1342c (g := (mkF m 114 #[.val (.long q1), .second, .val (.long q2), .second, .val (.int p3), .val (.int p4), .val (.int (1 : Int32)), .val (.int r2), .val (.ref b1208), .val (.ref b1229), .val (.ref b1306), .val (.ref a1322), .unset, .unset, .unset, .unset, .unset, .unset] [(.ref a1331), (.ref a1322)])) rfl (by rw [hml]; rfl) (Steps.refl _) (argsL := [(.ref a1331)]) (rest := []) (lenOf pd__Ljava_lang_Object__Z rfl) rfl (by show 2 * 0 + _ ≤ _; exact Nat.le_of_eq rfl) (hb hby at_114) (fun _ _ => ⟨rfl, rfl, (by decide : 8 + 0 ≤ _), (by decide : 52 + 0 ≤ _)⟩)
      dsimp only [Pt.U, Pt.locs, Pt.cells, Pt.slots] at X1342 l1342 y1342 z1342 st1342 hQ1342
      subst l1342 y1342 z1342
      obtain ⟨hv1342, rfl, hh1342⟩ := hQ1342
      obtain ⟨rfl, -⟩ := hv1342.resolve_right (fun q => q.2 rfl)
      have N1342q := Fr.nil n0
      have N1342 := Fr.app N1331 N1342q
      refine own_goW (fun t k => st1342.trans k) ?_
      show own_GW _ _ p.tables e below s _ _ _ (T1342.setTop (mkF m 117 #[.val (.long q1), .second, .val (.long q2), .second, .val (.int p3), .val (.int p4), .val (.int (1 : Int32)), .val (.int r2), .val (.ref b1208), .val (.ref b1229), .val (.ref b1306), .val (.ref a1322), .unset, .unset, .unset, .unset, .unset, .unset] [(.int (1 : Int32))]))
      refine own_goW (fun t k => XS.ifYes X1342.here hx rfl (pc0 := 117) (pc' := 122) rfl (hb hby at_117) rfl (by decide) (by decide) (by decide) k) ?_
      show own_GW _ _ p.tables e below s _ _ _ (T1342.setTop (mkF m 122 #[.val (.long q1), .second, .val (.long q2), .second, .val (.int p3), .val (.int p4), .val (.int (1 : Int32)), .val (.int r2), .val (.ref b1208), .val (.ref b1229), .val (.ref b1306), .val (.ref a1322), .unset, .unset, .unset, .unset, .unset, .unset] []))
      rcases hr2' with rfl | rfl
      · exact own_tail_10 q1 q2 p3 p4 w0 b1208 b1229 b1306 a1322 X1342 hx hlk hZ1331 hw hby hml ho1331 Bd.returns hh1342 z1341 N1342 f1333 S0 hcw hS1331 (Nat.le_refl _) C1332 (fun _ _ N => ⟨rfl, N⟩) (by decide) (by decide)
      · exact own_tail_11 q1 q2 p3 p4 w0 b1208 b1229 b1306 a1322 X1342 hx hlk hZ1331 hw hby hml ho1331 Bd.returns hh1342 z1341 N1342 f1333 S0 hcw hS1331 (Nat.le_refl _) C1332 (fun _ _ N => ⟨rfl, N⟩) (by decide) (by decide)
    · refine own_goW (fun t k => XS.ifYes X1316.here hx rfl (pc0 := 85) (pc' := 93) rfl (hb hby at_85) rfl (Jvm.Free.XT.ll_ne_t h85) (by decide) (by decide) k) ?_
      show own_GW _ _ p.tables e below s _ _ _ (T1316.setTop (mkF m 93 #[.val (.long q1), .second, .val (.long q2), .second, .val (.int p3), .val (.int p4), .val (.int (1 : Int32)), .val (.int r2), .val (.ref b1208), .val (.ref b1229), .val (.ref b1306), .unset, .unset, .unset, .unset, .unset, .unset, .unset] []))
      refine own_goW (fun t k => XS.iload X1316.here hx rfl (hb hby at_93) rfl k) ?_
      show own_GW _ _ p.tables e below s _ _ _ (T1316.setTop (mkF m 95 #[.val (.long q1), .second, .val (.long q2), .second, .val (.int p3), .val (.int p4), .val (.int (1 : Int32)), .val (.int r2), .val (.ref b1208), .val (.ref b1229), .val (.ref b1306), .unset, .unset, .unset, .unset, .unset, .unset, .unset] [(.int (1 : Int32))]))
      refine own_goW (fun t k => XS.ifNo X1316.here hx rfl (hb hby at_95) rfl (by decide) k) ?_
      show own_GW _ _ p.tables e below s _ _ _ (T1316.setTop (mkF m 98 #[.val (.long q1), .second, .val (.long q2), .second, .val (.int p3), .val (.int p4), .val (.int (1 : Int32)), .val (.int r2), .val (.ref b1208), .val (.ref b1229), .val (.ref b1306), .unset, .unset, .unset, .unset, .unset, .unset, .unset] []))
      obtain ⟨a1343, T1343, h1343, k1343, b1343, kk1343, X1343, e1343, E1343, hS1343, hk1343, hZ1343, ho1343, Ea1343, Fc1343, Fv1343, V1343, la1343, lb1343, C1343', Li1343, sf1343, st1343⟩ := ldcCH X1316 hx hZ hown (hw _ (List.mem_of_getElem? (i := 111) rfl)) (own_wS hw) rfl hS0 hk1318 (own_hEL hw) (List.mem_of_getElem? (i := 4) rfl) C1317.1 (vs := [(.int (80 : Int32)), (.int (65 : Int32)), (.int (83 : Int32)), (.int (83 : Int32))]) (z := (4 : Int32)) ⟨by decide, rfl⟩ (by decide) rfl (g := (mkF m 98 #[.val (.long q1), .second, .val (.long q2), .second, .val (.int p3), .val (.int p4), .val (.int (1 : Int32)), .val (.int r2), .val (.ref b1208), .val (.ref b1229), .val (.ref b1306), .unset, .unset, .unset, .unset, .unset, .unset, .unset] [])) rfl (hb hby at_98) (n := 16) (by decide) (by decide) (by decide) (by decide)
      refine own_goW st1343 ?_
      have C1344 := C1317.trans C1343'
      have f1345 := f1319.ext E1343
      have f1346 := Exa.ext E1343 f1320
      have f1347 := Fld.ext E1343 Fa1316
      have f1348 := Fld.ext E1343 Fl1316
      have z1349 := Nat.le_trans z1321 E1343.1
      have n1350 := ne_exa Ea1343 f1346 (by decide)
      have n1351 := (Exa.neArv f1346 V1343 (hw _ (List.mem_of_getElem? (i := 31) rfl))).symm
      show own_GW _ _ p.tables e below s _ _ _ (T1343.setTop (mkF m 100 #[.val (.long q1), .second, .val (.long q2), .second, .val (.int p3), .val (.int p4), .val (.int (1 : Int32)), .val (.int r2), .val (.ref b1208), .val (.ref b1229), .val (.ref b1306), .unset, .unset, .unset, .unset, .unset, .unset, .unset] [(.ref a1343)]))
      refine own_goW (fun t k => XS.goto X1343.here hx rfl (pc0 := 100) (pc' := 105) rfl (hb hby at_100) (by decide) (by decide) k) ?_
      show own_GW _ _ p.tables e below s _ _ _ (T1343.setTop (mkF m 105 #[.val (.long q1), .second, .val (.long q2), .second, .val (.int p3), .val (.int p4), .val (.int (1 : Int32)), .val (.int r2), .val (.ref b1208), .val (.ref b1229), .val (.ref b1306), .unset, .unset, .unset, .unset, .unset, .unset, .unset] [(.ref a1343)]))
      refine own_goW (fun t k => XS.astore X1343.here hx rfl (hb hby at_105) rfl rfl (l' := #[.val (.long q1), .second, .val (.long q2), .second, .val (.int p3), .val (.int p4), .val (.int (1 : Int32)), .val (.int r2), .val (.ref b1208), .val (.ref b1229), .val (.ref b1306), .val (.ref a1343), .unset, .unset, .unset, .unset, .unset, .unset]) rfl k) ?_
      show own_GW _ _ p.tables e below s _ _ _ (T1343.setTop (mkF m 107 #[.val (.long q1), .second, .val (.long q2), .second, .val (.int p3), .val (.int p4), .val (.int (1 : Int32)), .val (.int r2), .val (.ref b1208), .val (.ref b1229), .val (.ref b1306), .val (.ref a1343), .unset, .unset, .unset, .unset, .unset, .unset] []))
      refine own_goW (fun t k => XS.aload X1343.here hx rfl (hb hby at_107) rfl rfl k) ?_
      show own_GW _ _ p.tables e below s _ _ _ (T1343.setTop (mkF m 109 #[.val (.long q1), .second, .val (.long q2), .second, .val (.int p3), .val (.int p4), .val (.int (1 : Int32)), .val (.int r2), .val (.ref b1208), .val (.ref b1229), .val (.ref b1306), .val (.ref a1343), .unset, .unset, .unset, .unset, .unset, .unset] [(.ref a1343)]))
      refine own_goW (fun t k => XS.aload X1343.here hx rfl (hb hby at_109) rfl rfl k) ?_
      show own_GW _ _ p.tables e below s _ _ _ (T1343.setTop (mkF m 111 #[.val (.long q1), .second, .val (.long q2), .second, .val (.int p3), .val (.int p4), .val (.int (1 : Int32)), .val (.int r2), .val (.ref b1208), .val (.ref b1229), .val (.ref b1306), .val (.ref a1343), .unset, .unset, .unset, .unset, .unset, .unset] [(.ref b1306), (.ref a1343)]))
      obtain ⟨cq1352, kq1352, q1352a, q1352b, q1352c⟩ := isOf hZ1343 e1343 f1346
      obtain ⟨_, _, ⟨T1352, L1352, k1352, n1352⟩, -, X1352', sn1352, gr1352, ⟨Lc1352, hQ1352, l1352, y1352, z1352, C1352'⟩, st1352⟩ := X1343.virtualBackS hx (y := (⟨"com/example/vouchsafe/vouchsafe/AuditTally", "last", "()Ljava/lang/String;"⟩ : MethodName)) (z := (⟨"com/example/vouchsafe/vouchsafe/AuditTally", "last", "()Ljava/lang/String;"⟩ : MethodName)) ho1343 (mvT hZ1343 (hw _ (List.mem_of_getElem? (i := 53) rfl))) (mvT hZ1343 (hw _ (List.mem_of_getElem? (i := 54) rfl))) (notFace_of_selects (args := #[]) (mvT hZ1343 (hw _ (List.mem_of_getElem? (i := 56) rfl)))) (mvT hZ1343 (hw _ (List.mem_of_getElem? (i := 56) rfl))) (mvT hZ1343 (hw _ (List.mem_of_getElem? (i := 55) rfl))) (by decide) (backOfSH (W := 1) (rmlP l Z a0 hw [] b1306 q1 h1343 n0 z1349 f1347 h85 f1348) hZ1343 (hw _ (List.mem_of_getElem? (i := 57) rfl)) (hw _ (List.mem_of_getElem? (i := 32) rfl)) (by decide) (by decide) (own_hEL hw) C1344.1) q1352a q1352c (g := (mkF m 111 #[.val (.long q1), .second, .val (.long q2), .second, .val (.int p3), .val (.int p4), .val (.int (1 : Int32)), .val (.int r2), .val (.ref b1208), .val (.ref b1229), .val (.ref b1306), .val (.ref a1343), .unset, .unset, .unset, .unset, .unset, .unset] [(.ref b1306), (.ref a1343)])) rfl (by rw [hml]; rfl) (Steps.refl _) (argsL := []) (rest := [(.ref a1343)]) (lenOf pd___Ljava_lang_String_ rfl) rfl (by show 2 * 0 + _ ≤ _; exact Nat.le_of_eq rfl) (hb hby at_111) (fun _ _ => ⟨rfl, e1343, (by decide : 6 + 2 ≤ _), (by decide : 32 + 20 ≤ _)⟩)
      dsimp only [Pt.U, Pt.locs, Pt.cells, Pt.slots] at X1352' sn1352 gr1352 l1352 y1352 z1352 st1352 hQ1352 C1352'
      subst l1352 y1352 z1352
      obtain ⟨X1352, hS1352, hZ1352, ho1352⟩ := rebS hS1343 (by rw [e1343]; exact hk1343) X1352' sn1352 gr1352 hZ1343 ho1343
      obtain ⟨⟨a1352, rfl, Ex1352, Cx1352, t1352, kx1352, Vx1352, Ax1352⟩, N1352q, K1352⟩ := hQ1352
      have N1352 := Fr.app N1316 N1352q
      have C1353 := C1344.trans C1352'
      refine own_goW (fun t k => st1352.trans k) ?_
      have f1354 := f1345.keep K1352 (fun x q => nomatch q)
      have f1355 := f1346.keep K1352
      have f1356 := f1347.keep K1352 (fun q => nomatch q)
      have f1357 := f1348.keep K1352 (fun q => nomatch q)
      have f1358 := Ea1343.keep K1352
      have f1359 := Fc1343.keep K1352 (fun q => nomatch q)
      have f1360 := Fv1343.keep K1352 (fun q => nomatch q)
      have f1361 := V1343.keep K1352 (fun q => nomatch q)
      have z1362 := Nat.le_trans z1349 K1352.1
      show own_GW _ _ p.tables e below s _ _ _ (T1352.setTop (mkF m 114 #[.val (.long q1), .second, .val (.long q2), .second, .val (.int p3), .val (.int p4), .val (.int (1 : Int32)), .val (.int r2), .val (.ref b1208), .val (.ref b1229), .val (.ref b1306), .val (.ref a1343), .unset, .unset, .unset, .unset, .unset, .unset] [(.ref a1352), (.ref a1343)]))
      obtain ⟨cq1363, kq1363, q1363a, q1363b, q1363c⟩ := isOf hZ1352 rfl f1358
      obtain ⟨_, _, ⟨T1363, L1363, k1363, n1363⟩, -, X1363, ⟨Lc1363, hQ1363, l1363, y1363, z1363⟩, st1363⟩ := X1352.virtualBack hx (y := (⟨"java/lang/String", "equals", "(Ljava/lang/Object;)Z"⟩ : MethodName)) (z := (⟨"java/lang/String", "equals", "(Ljava/lang/Object;)Z"⟩ : MethodName)) ho1352 (mvT hZ1352 (hw _ (List.mem_of_getElem? (i := 59) rfl))) (mvT hZ1352 (hw _ (List.mem_of_getElem? (i := 60) rfl))) (notFace_of_selects (args := #[]) (mvT hZ1352 (hw _ (List.mem_of_getElem? (i := 62) rfl)))) (mvT hZ1352 (hw _ (List.mem_of_getElem? (i := 62) rfl))) (mvT hZ1352 (hw _ (List.mem_of_getElem? (i := 61) rfl))) (by decide) (StrChars.Road.eqW (W := 0) hZ1352 (own_wE hw) (kI := 4) (hw _ (List.mem_of_getElem? (i := 2) rfl)) f1358 f1360 f1359 f1361 (StrChars.Road.codOf (cs := ([80, 65, 83, 83] : List Int32)) (n := 4) rfl (by decide)) (by decide) (by decide) Ex1352 Vx1352 Cx1352 Ax1352 (StrChars.Road.codOf (cs := ([80, 65, 83, 83] : List Int32)) (n := 4) rfl (by decide)) (by decide) (by decide) (Sta.ext f1354.2 S0) hcw (by decide) (by decide)) q1363a q1363c (g := (mkF m 114 #[.val (.long q1), .second, .val (.long q2), .second, .val (.int p3), .val (.int p4), .val (.int (1 : Int32)), .val (.int r2), .val (.ref b1208), .val (.ref b1229), .val (.ref b1306), .val (.ref a1343), .unset, .unset, .unset, .unset, .unset, .unset] [(.ref a1352), (.ref a1343)])) rfl (by rw [hml]; rfl) (Steps.refl _) (argsL := [(.ref a1352)]) (rest := []) (lenOf pd__Ljava_lang_Object__Z rfl) rfl (by show 2 * 0 + _ ≤ _; exact Nat.le_of_eq rfl) (hb hby at_114) (fun _ _ => ⟨rfl, rfl, (by decide : 8 + 0 ≤ _), (by decide : 52 + 0 ≤ _)⟩)
      dsimp only [Pt.U, Pt.locs, Pt.cells, Pt.slots] at X1363 l1363 y1363 z1363 st1363 hQ1363
      subst l1363 y1363 z1363
      obtain ⟨hv1363, rfl, hh1363⟩ := hQ1363
      obtain ⟨rfl, -⟩ := hv1363.resolve_right (fun q => q.2 rfl)
      have N1363q := Fr.nil n0
      have N1363 := Fr.app N1352 N1363q
      refine own_goW (fun t k => st1363.trans k) ?_
      show own_GW _ _ p.tables e below s _ _ _ (T1363.setTop (mkF m 117 #[.val (.long q1), .second, .val (.long q2), .second, .val (.int p3), .val (.int p4), .val (.int (1 : Int32)), .val (.int r2), .val (.ref b1208), .val (.ref b1229), .val (.ref b1306), .val (.ref a1343), .unset, .unset, .unset, .unset, .unset, .unset] [(.int (1 : Int32))]))
      refine own_goW (fun t k => XS.ifYes X1363.here hx rfl (pc0 := 117) (pc' := 122) rfl (hb hby at_117) rfl (by decide) (by decide) (by decide) k) ?_
      show own_GW _ _ p.tables e below s _ _ _ (T1363.setTop (mkF m 122 #[.val (.long q1), .second, .val (.long q2), .second, .val (.int p3), .val (.int p4), .val (.int (1 : Int32)), .val (.int r2), .val (.ref b1208), .val (.ref b1229), .val (.ref b1306), .val (.ref a1343), .unset, .unset, .unset, .unset, .unset, .unset] []))
      rcases hr2' with rfl | rfl
      · exact own_tail_10 q1 q2 p3 p4 w0 b1208 b1229 b1306 a1343 X1363 hx hlk hZ1352 hw hby hml ho1352 Bd.returns hh1363 z1362 N1363 f1354 S0 hcw hS1352 (Nat.le_refl _) C1353 (fun _ _ N => ⟨rfl, N⟩) (by decide) (by decide)
      · exact own_tail_11 q1 q2 p3 p4 w0 b1208 b1229 b1306 a1343 X1363 hx hlk hZ1352 hw hby hml ho1352 Bd.returns hh1363 z1362 N1363 f1354 S0 hcw hS1352 (Nat.le_refl _) C1353 (fun _ _ N => ⟨rfl, N⟩) (by decide) (by decide)
set_option maxRecDepth 65536 in
set_option maxHeartbeats 40000000 in
theorem comes_1 {Post : Tables → Env → Array Value → State → Outcome → State → Prop} (hpost : ∀ tb e args s v u, (limb_1_1.after args s (.returned v) u = true ∧ limb_1_2.after args s (.returned v) u = true ∧ True) → ReturnedEndW s (.returned v) u (Jvm.fieldLocs frame_1_writes args s ++ Jvm.arrayLocs frame_1_arrays args s ++ Jvm.staticLocs frame_1_statics s) 48 11456 → Post tb e args s (.returned v) u) :
    ArmFor flags0 classFile x code maxLocals ret World_1 tables_1 room_1 Calls_1 rest_1 Pre_1 Post := by
  intro l hfl _ _ p e ha hc hk s m args below hf hA hF happ hP
  obtain ⟨hcalls, hrest, hpre⟩ := hP
  obtain ⟨-, -, -, hnamed, -, -, -, hat⟩ := (Spec.applies_iff hf).mp happ
  obtain ⟨hg, hn⟩ := and_e (Cond.before_iff.mp (show (Jvm.Cond.and given_1 narrow_1).before args s = true from hpre))
  obtain ⟨gc, g0'⟩ := and_e hg
  obtain ⟨ga0, g1'⟩ := and_e g0'
  obtain ⟨ga1, g2'⟩ := and_e g1'
  obtain ⟨ga2, g3'⟩ := and_e g2'
  have ga3 := g3'
  obtain ⟨w0, w1, w2, w3, rfl⟩ : ∃ w0 w1 w2 w3 : Value, args = #[w0, w1, w2, w3] := by
    have hs : args.size = 4 := by simpa [Cond.value, given_1] using gc
    obtain ⟨L⟩ := args
    match L, hs with
    | [w0, w1, w2, w3], _ => exact ⟨w0, w1, w2, w3, rfl⟩
  have hw := fun d (hd : d ∈ tables_1) => atoms_spec (ws := Jvm.Cond.code x code maxLocals ret :: tables_1) hat d (List.mem_cons_of_mem _ hd)
  have hfit : Fit s := fun {y c} hc i hi => by
    obtain ⟨ha, rfl⟩ := Array.getElem?_eq_some_iff.mp hc
    have q := List.all_eq_true.mp ((Array.all_eq_true_iff_forall_mem.mp hF) _ (Array.getElem_mem ha)) i (List.mem_range.mpr hi)
    simpa [Array.getElem?_eq_getElem hi] using q
  obtain ⟨hsets, hown0⟩ := atoms_of _ (rest_1_c_eq ▸ (show rest_1_c.before _ s = true from hrest))
  have hr0 := Cond.before_iff.mp hown0
  obtain ⟨i0, ei0⟩ := isL_v ga0
  obtain rfl : w0 = (.long i0) := Option.some.inj ei0
  obtain ⟨i1, ei1⟩ := isL_v ga1
  obtain rfl : w1 = (.long i1) := Option.some.inj ei1
  obtain ⟨i2, ei2⟩ := is_v ga2
  obtain rfl : w2 = (.int i2) := Option.some.inj ei2
  obtain ⟨i3, ei3⟩ := is_v ga3
  obtain rfl : w3 = (.int i3) := Option.some.inj ei3
  obtain ⟨cw, ecw⟩ := is_v (Cond.before_iff.mp (hsets _ (List.mem_of_getElem? (i := 1) rfl)))
  have hcw : ¬ cw = 0 := fun q => by
    have h := not_v (Cond.before_iff.mp (hsets _ (List.mem_of_getElem? (i := 2) rfl)))
    rw [eq_i ecw (Term.int_eval 0) (by rw [q])] at h
    cases h
  have S0 := Sta.start ecw (Or.inl (hsets _ (List.mem_of_getElem? (i := 0) rfl)))
  have hCH : CHv s own_EL s.vm s.heap := CHv.start (own_hEL hw) (fun p hp => hcalls.1 p hp) (hsets _ (List.mem_of_getElem? (i := 2) rfl)) (hw _ (List.mem_of_getElem? (i := 19) rfl)) (hw _ (List.mem_of_getElem? (i := 2) rfl))
  obtain ⟨n, o, h1, h2, h3, _, L, rfl, ⟨rfl, N⟩, -, hq⟩ := rm0 l s _ hw tables_1 i0 i1 i2 i3 cw s.heap s.heap.size (Nat.le_refl _) (Old.start s) S0 hcw p e ha hc hk s m _ below hf ((Spec.applies_iff_loose hf).mp happ).1 ⟨rfl, State.Warmed39.refl s, rfl, hCH⟩ trivial
  refine ⟨n, _, h1, h2, h3, hpost _ _ _ _ _ _ ⟨Cond.after_iff.mpr rfl, Cond.after_iff.mpr (eq_i res_at (Term.int_eval (1)) rfl), trivial⟩ ⟨hq.1, hq.2.1, hq.2.2.1, (hq.2.2.2.sift fun y hy => Or.inr (N y hy)).mono (by decide) (by decide)⟩⟩
theorem main_1_1 : Claimed_1_1 := comes_1 fun _ _ _ _ _ _ h hF => ⟨h.1, hF⟩
theorem main_1_2 : Claimed_1_2 := comes_1 fun _ _ _ _ _ _ h hF => ⟨h.2.1, hF⟩
end Jvm.Pilot.@@N@@
namespace Jvm.Pilot.@@N@@
open Jvm Jvm.ClassFile Sem Op Lib Jvm.Free Jvm.Stand Jvm.Pilot.@@N@@.Jvm.D
/-! MADE BY PROGRAM (witnessworld.py) out of the Statement's table words and the real class files: 22 classes; the members and pool entries that the words name. The judged class is class 1, her method 1. -/
namespace start1
open Jvm.ClassFile
def u (s : String) : CpInfo := .utf8 (stringToUtf16 s)
/-- a pool by its gaps: so many unusable entries, then the entry; so many at the end -/
def gap : Nat → List CpInfo → List CpInfo
  | 0, r => r
  | n + 1, r => .unusable :: gap n r
def poolList (es : List (Nat × CpInfo)) (last : Nat) : List CpInfo := es.foldr (fun e r => gap e.1 (e.2 :: r)) (gap last [])
def pool (es : List (Nat × CpInfo)) (last : Nat) : Array CpInfo := ⟨poolList es last⟩
def fileOf (pool : Array CpInfo) (this : Nat) (attrs : Array Attribute := #[]) (ms : Array MethodInfo := #[]) (fl : Nat := 33) (sup : Nat := 0) (ifs : Array Nat := #[]) (fds : Array FieldInfo := #[]) : ClassFile where
  minorVersion := 0
  majorVersion := 65
  constantPool := pool
  accessFlags := fl
  thisClass := this
  superClass := sup
  interfaces := ifs
  fields := fds
  methods := ms
  attributes := attrs
def plain (name : String) (sup : Option ClassId) : Class where
  name := name
  kind := .ordinary
  loader := none
  accessFlags := 33
  super := sup
  interfaces := #[]
  cf := none
  fields := #[]
  methods := #[]
  instanceTypes := #[]
  staticTypes := #[]
  resolved := #[]
  callSites := []
  init := .initialized
  statics := none
  mirror := none

def pool0 : Array CpInfo := pool [(5, u "<init>"), (0, u "()V"), (1, .class_ 10), (1, u "java/lang/Object")] 113

def k0c0 : Code := { maxStack := 0, maxLocals := 1, code := object_method_1_code, exceptionTable := #[], attributes := #[] }
def k0m0 : Method := { name := "<init>", desc := "()V", sig := { parameters := [], returnType := none }, accessFlags := 1, code := some k0c0 }
/-- java/lang/Object -/
def k0 : Class := { plain "java/lang/Object" none with
  accessFlags := 33
  interfaces := #[]
  cf := some (fileOf pool0 8 #[] #[{ accessFlags := 1, nameIndex := 5, descriptorIndex := 6, attributes := #[] }] 33 0 #[] #[])
  fields := #[]
  methods := #[k0m0]
  instanceTypes := #[]
  staticTypes := #[]
  resolved := Array.replicate 124 none
  statics := none }

def pool1 : Array CpInfo := pool [(2, .class_ 4), (1, u "java/lang/Object"), (0, u "<init>"), (0, u "()V"), (0, .class_ 8), (0, u "java/lang/String"), (0, .methodref 7 10), (0, .nameAndType 5 11), (0, u "([C)V"), (0, .class_ 13), (0, u "com/example/vouchsafe/vouchsafe/AuditTally"), (0, .methodref 12 15), (0, .nameAndType 5 16), (0, u "(JJZLjava/lang/String;)V"), (0, .string 18), (0, u "NONE"), (0, .string 20), (0, u "PASS"), (0, .string 22), (0, u "FAIL"), (0, .methodref 12 24), (0, .nameAndType 25 26), (0, u "last"), (0, u "()Ljava/lang/String;"), (0, .methodref 7 28), (0, .nameAndType 29 30), (0, u "equals"), (0, u "(Ljava/lang/Object;)Z"), (2, .long 9223372036854775807), (1, .class_ 36), (0, u "com/example/vouchsafe/vouchsafe/LogEntry"), (0, .string 38), (0, u ""), (0, .string 40), (0, u "g"), (0, .string 42), (0, u "pass"), (0, .string 44), (0, u "fail"), (0, .methodref 35 46), (0, .nameAndType 5 47), (0, u "(Ljava/lang/String;Ljava/lang/String;Ljava/lang/String;Ljava/lang/String;Ljava/lang/String;[B)V"), (0, .methodref 12 49), (0, .nameAndType 50 51), (0, u "with"), (0, u "(Lcom/example/vouchsafe/vouchsafe/LogEntry;)Lcom/example/vouchsafe/vouchsafe/AuditTally;"), (0, .class_ 53), (0, u "com/example/vouchsafe/vouchsafe/AuditTallyLastPinLaw"), (2, u "law"), (0, u "(JJII)Z")] 5

def k1m0 : Method := { name := "<init>", desc := "()V", sig := { parameters := [], returnType := none }, accessFlags := 1, code := none }
def k1c1 : Code := { maxStack := 8, maxLocals := 18, code := code, exceptionTable := #[], attributes := #[] }
def k1m1 : Method := { name := "law", desc := "(JJII)Z", sig := { parameters := [.long, .long, .int, .int], returnType := some .boolean }, accessFlags := 9, code := some k1c1 }
/-- com/example/vouchsafe/vouchsafe/AuditTallyLastPinLaw -/
def k1 : Class := { plain "com/example/vouchsafe/vouchsafe/AuditTallyLastPinLaw" (some 0) with
  accessFlags := 49
  interfaces := #[]
  cf := some (fileOf pool1 52 #[] #[{ accessFlags := 1, nameIndex := 5, descriptorIndex := 6, attributes := #[] }, { accessFlags := 9, nameIndex := 56, descriptorIndex := 57, attributes := #[] }] 49 2 #[] #[])
  fields := #[]
  methods := #[k1m0, k1m1]
  instanceTypes := #[]
  staticTypes := #[]
  resolved := Array.replicate 63 none
  statics := none }

def pool2 : Array CpInfo := pool [(1, .class_ 2), (0, u "java/io/Serializable"), (0, .class_ 4), (0, u "java/lang/Object")] 2

/-- java/io/Serializable -/
def k2 : Class := { plain "java/io/Serializable" (some 0) with
  accessFlags := 1537
  interfaces := #[]
  cf := some (fileOf pool2 1 #[] #[] 1537 3 #[] #[])
  fields := #[]
  methods := #[]
  instanceTypes := #[]
  staticTypes := #[]
  resolved := Array.replicate 7 none
  statics := none }

def pool3 : Array CpInfo := pool [(1, .class_ 2), (0, u "java/lang/Comparable"), (0, .class_ 4), (0, u "java/lang/Object")] 7

/-- java/lang/Comparable -/
def k3 : Class := { plain "java/lang/Comparable" (some 0) with
  accessFlags := 1537
  interfaces := #[]
  cf := some (fileOf pool3 1 #[] #[] 1537 3 #[] #[])
  fields := #[]
  methods := #[]
  instanceTypes := #[]
  staticTypes := #[]
  resolved := Array.replicate 12 none
  statics := none }

def pool4 : Array CpInfo := pool [(2, .class_ 4), (1, u "java/lang/CharSequence"), (42, .class_ 48), (0, u "java/lang/CharSequence$1CodePointIterator"), (10, .class_ 60), (0, u "java/lang/CharSequence$1CharIterator"), (5, .class_ 67), (0, u "java/lang/Object")] 63

/-- java/lang/CharSequence -/
def k4 : Class := { plain "java/lang/CharSequence" (some 0) with
  accessFlags := 1537
  interfaces := #[]
  cf := some (fileOf pool4 2 #[.nestMembers #[47, 59]] #[] 1537 66 #[] #[])
  fields := #[]
  methods := #[]
  instanceTypes := #[]
  staticTypes := #[]
  resolved := Array.replicate 131 none
  statics := none }

def pool5 : Array CpInfo := pool [(1, .class_ 2), (0, u "java/lang/constant/Constable"), (0, .class_ 4), (0, u "java/lang/Object")] 6

/-- java/lang/constant/Constable -/
def k5 : Class := { plain "java/lang/constant/Constable" (some 0) with
  accessFlags := 1537
  interfaces := #[]
  cf := some (fileOf pool5 1 #[] #[] 1537 3 #[] #[])
  fields := #[]
  methods := #[]
  instanceTypes := #[]
  staticTypes := #[]
  resolved := Array.replicate 11 none
  statics := none }

def pool6 : Array CpInfo := pool [(1, .class_ 2), (0, u "java/lang/constant/ConstantDesc"), (0, .class_ 4), (0, u "java/lang/Object")] 32

/-- java/lang/constant/ConstantDesc -/
def k6 : Class := { plain "java/lang/constant/ConstantDesc" (some 0) with
  accessFlags := 1537
  interfaces := #[]
  cf := some (fileOf pool6 1 #[] #[] 1537 3 #[] #[])
  fields := #[]
  methods := #[]
  instanceTypes := #[]
  staticTypes := #[]
  resolved := Array.replicate 37 none
  statics := none }

def pool7 : Array CpInfo := pool [(1, .methodref 2 3), (0, .class_ 4), (0, .nameAndType 5 6), (0, u "java/lang/Object"), (0, u "<init>"), (0, u "()V"), (2, .fieldref 10 11), (0, .class_ 12), (0, .nameAndType 13 14), (0, u "java/lang/String"), (0, u "value"), (0, u "[B"), (0, .fieldref 10 16), (0, .nameAndType 17 18), (0, u "coder"), (0, u "B"), (2, u "hash"), (0, u "I"), (2, u "hashIsZero"), (0, u "Z"), (0, .methodref 10 28), (0, .nameAndType 5 29), (0, u "([CIILjava/lang/Void;)V"), (8, .fieldref 10 39), (0, .nameAndType 40 26), (0, u "COMPACT_STRINGS"), (1, .class_ 44), (1, u "java/lang/StringUTF16"), (0, u "compress"), (1, .methodref 42 48), (0, .nameAndType 49 50), (0, u "coderFromArrayLen"), (0, u "([BI)B"), (56, .class_ 109), (1, u "java/lang/StringLatin1"), (67, .methodref 42 178), (0, .nameAndType 45 179), (0, u "([CII)[B"), (361, .methodref 107 542), (0, .nameAndType 543 544), (0, u "equals"), (0, u "([B[B)Z"), (28, u "(Ljava/lang/Object;)Z"), (1, .class_ 576), (0, u "java/lang/CharSequence"), (22, u "CASE_INSENSITIVE_ORDER"), (0, u "Ljava/util/Comparator;"), (409, u "([C)V"), (90, u "serialPersistentFields"), (0, u "[Ljava/io/ObjectStreamField;"), (0, .class_ 1104), (0, u "java/lang/String$CaseInsensitiveComparator"), (1, .class_ 1107), (0, u "java/io/Serializable"), (0, .class_ 1109), (0, u "java/lang/Comparable"), (0, .class_ 1111), (0, u "java/lang/constant/Constable"), (0, .class_ 1113), (0, u "java/lang/constant/ConstantDesc"), (2, u "serialVersionUID"), (0, u "J"), (3, u "REPL"), (0, u "C"), (2, u "LATIN1"), (1, u "UTF16")] 323

def k7m0 : Method := { name := "<init>", desc := "()V", sig := { parameters := [], returnType := none }, accessFlags := 1, code := none }
def k7c1 : Code := { maxStack := 5, maxLocals := 2, code := jdk_42_method_3_code, exceptionTable := #[], attributes := #[] }
def k7m1 : Method := { name := "<init>", desc := "([C)V", sig := { parameters := [(.array .char)], returnType := none }, accessFlags := 1, code := some k7c1 }
def k7c2 : Code := { maxStack := 2, maxLocals := 3, code := jdk_42_method_66_code, exceptionTable := #[], attributes := #[] }
def k7m2 : Method := { name := "equals", desc := "(Ljava/lang/Object;)Z", sig := { parameters := [(.object "java/lang/Object")], returnType := some .boolean }, accessFlags := 1, code := some k7c2 }
def k7c3 : Code := { maxStack := 4, maxLocals := 6, code := jdk_42_method_149_code, exceptionTable := #[], attributes := #[] }
def k7m3 : Method := { name := "<init>", desc := "([CIILjava/lang/Void;)V", sig := { parameters := [(.array .char), .int, .int, (.object "java/lang/Void")], returnType := none }, accessFlags := 2, code := some k7c3 }
/-- java/lang/String -/
def k7 : Class := { plain "java/lang/String" (some 0) with
  accessFlags := 49
  interfaces := #[2, 3, 4, 5, 6]
  cf := some (fileOf pool7 10 #[.nestMembers #[1103]] #[{ accessFlags := 1, nameIndex := 5, descriptorIndex := 6, attributes := #[] }, { accessFlags := 1, nameIndex := 5, descriptorIndex := 1010, attributes := #[] }, { accessFlags := 1, nameIndex := 543, descriptorIndex := 573, attributes := #[] }, { accessFlags := 2, nameIndex := 5, descriptorIndex := 29, attributes := #[] }] 49 2 #[1106, 1108, 575, 1110, 1112] #[{ accessFlags := 18, nameIndex := 13, descriptorIndex := 14, attributes := #[] }, { accessFlags := 18, nameIndex := 17, descriptorIndex := 18, attributes := #[] }, { accessFlags := 2, nameIndex := 21, descriptorIndex := 22, attributes := #[] }, { accessFlags := 2, nameIndex := 25, descriptorIndex := 26, attributes := #[] }, { accessFlags := 26, nameIndex := 1116, descriptorIndex := 1117, attributes := #[] }, { accessFlags := 24, nameIndex := 40, descriptorIndex := 26, attributes := #[] }, { accessFlags := 26, nameIndex := 1101, descriptorIndex := 1102, attributes := #[] }, { accessFlags := 26, nameIndex := 1121, descriptorIndex := 1122, attributes := #[] }, { accessFlags := 25, nameIndex := 599, descriptorIndex := 600, attributes := #[] }, { accessFlags := 24, nameIndex := 1125, descriptorIndex := 18, attributes := #[] }, { accessFlags := 24, nameIndex := 1127, descriptorIndex := 18, attributes := #[] }])
  fields := #[{ name := "value", type := (.array .byte), accessFlags := 18, slot := 0, constantValue := 0 }, { name := "coder", type := .byte, accessFlags := 18, slot := 1, constantValue := 0 }, { name := "hash", type := .int, accessFlags := 2, slot := 2, constantValue := 0 }, { name := "hashIsZero", type := .boolean, accessFlags := 2, slot := 3, constantValue := 0 }, { name := "serialVersionUID", type := .long, accessFlags := 26, slot := 0, constantValue := 0 }, { name := "COMPACT_STRINGS", type := .boolean, accessFlags := 24, slot := 1, constantValue := 0 }, { name := "serialPersistentFields", type := (.array (.object "java/io/ObjectStreamField")), accessFlags := 26, slot := 2, constantValue := 0 }, { name := "REPL", type := .char, accessFlags := 26, slot := 3, constantValue := 0 }, { name := "CASE_INSENSITIVE_ORDER", type := (.object "java/util/Comparator"), accessFlags := 25, slot := 4, constantValue := 0 }, { name := "LATIN1", type := .byte, accessFlags := 24, slot := 5, constantValue := 0 }, { name := "UTF16", type := .byte, accessFlags := 24, slot := 6, constantValue := 0 }]
  methods := #[k7m0, k7m1, k7m2, k7m3]
  instanceTypes := #[(.array .byte), .byte, .int, .boolean]
  staticTypes := #[.long, .boolean, (.array (.object "java/io/ObjectStreamField")), .char, (.object "java/util/Comparator"), .byte, .byte]
  resolved := Array.replicate 1451 none
  statics := some 0 }

def pool8 : Array CpInfo := pool [(6, .class_ 8), (1, u "java/lang/Object"), (0, u "<init>"), (0, u "()V"), (1, .class_ 14), (1, u "java/lang/StringUTF16"), (31, u "$assertionsDisabled"), (0, u "Z"), (13, u "HI_BYTE_SHIFT"), (0, u "I"), (2, u "LO_BYTE_SHIFT"), (49, .methodref 12 116), (0, .nameAndType 117 118), (0, u "compress"), (0, u "([CI[BII)I"), (3, u "([CII)[B"), (138, u "coderFromArrayLen"), (0, u "([BI)B"), (106, .class_ 371), (1, u "java/lang/StringUTF16$LinesSpliterator"), (58, u "MAX_LENGTH"), (196, .class_ 628), (0, u "java/lang/StringUTF16$CodePointsSpliterator"), (0, .class_ 630), (0, u "java/lang/StringUTF16$CharsSpliterator")] 4

def k8m0 : Method := { name := "<init>", desc := "()V", sig := { parameters := [], returnType := none }, accessFlags := 0, code := none }
def k8c1 : Code := { maxStack := 2, maxLocals := 2, code := jdk_52_method_15_code, exceptionTable := #[], attributes := #[] }
def k8m1 : Method := { name := "coderFromArrayLen", desc := "([BI)B", sig := { parameters := [(.array .byte), .int], returnType := some .byte }, accessFlags := 8, code := some k8c1 }
def k8c2 : Code := { maxStack := 5, maxLocals := 6, code := jdk_52_method_16_code, exceptionTable := #[], attributes := #[] }
def k8m2 : Method := { name := "compress", desc := "([CII)[B", sig := { parameters := [(.array .char), .int, .int], returnType := some (.array .byte) }, accessFlags := 9, code := some k8c2 }
def k8c3 : Code := { maxStack := 3, maxLocals := 7, code := jdk_52_method_21_code, exceptionTable := #[], attributes := #[] }
def k8m3 : Method := { name := "compress", desc := "([CI[BII)I", sig := { parameters := [(.array .char), .int, (.array .byte), .int, .int], returnType := some .int }, accessFlags := 9, code := some k8c3 }
/-- java/lang/StringUTF16 -/
def k8 : Class := { plain "java/lang/StringUTF16" (some 0) with
  accessFlags := 48
  interfaces := #[]
  cf := some (fileOf pool8 12 #[.nestMembers #[627, 629, 369]] #[{ accessFlags := 0, nameIndex := 9, descriptorIndex := 10, attributes := #[] }, { accessFlags := 8, nameIndex := 261, descriptorIndex := 262, attributes := #[] }, { accessFlags := 9, nameIndex := 117, descriptorIndex := 122, attributes := #[] }, { accessFlags := 9, nameIndex := 117, descriptorIndex := 118, attributes := #[] }] 48 6 #[] #[{ accessFlags := 26, nameIndex := 61, descriptorIndex := 62, attributes := #[] }, { accessFlags := 26, nameIndex := 65, descriptorIndex := 62, attributes := #[] }, { accessFlags := 24, nameIndex := 430, descriptorIndex := 62, attributes := #[] }, { accessFlags := 4120, nameIndex := 46, descriptorIndex := 47, attributes := #[] }])
  fields := #[{ name := "HI_BYTE_SHIFT", type := .int, accessFlags := 26, slot := 0, constantValue := 0 }, { name := "LO_BYTE_SHIFT", type := .int, accessFlags := 26, slot := 1, constantValue := 0 }, { name := "MAX_LENGTH", type := .int, accessFlags := 24, slot := 2, constantValue := 0 }, { name := "$assertionsDisabled", type := .boolean, accessFlags := 4120, slot := 3, constantValue := 0 }]
  methods := #[k8m0, k8m1, k8m2, k8m3]
  instanceTypes := #[]
  staticTypes := #[.int, .int, .int, .boolean]
  resolved := Array.replicate 635 none
  statics := none }

def pool9 : Array CpInfo := pool [(1, .methodref 2 3), (0, .class_ 4), (0, .nameAndType 5 6), (0, u "java/lang/Object"), (0, u "<init>"), (0, u "()V"), (0, .class_ 8), (0, u "java/lang/Record")] 13

def k9c0 : Code := { maxStack := 1, maxLocals := 1, code := jdk_30_method_1_code, exceptionTable := #[], attributes := #[] }
def k9m0 : Method := { name := "<init>", desc := "()V", sig := { parameters := [], returnType := none }, accessFlags := 4, code := some k9c0 }
/-- java/lang/Record -/
def k9 : Class := { plain "java/lang/Record" (some 0) with
  accessFlags := 1057
  interfaces := #[]
  cf := some (fileOf pool9 7 #[] #[{ accessFlags := 4, nameIndex := 5, descriptorIndex := 6, attributes := #[] }] 1057 2 #[] #[])
  fields := #[]
  methods := #[k9m0]
  instanceTypes := #[]
  staticTypes := #[]
  resolved := Array.replicate 22 none
  statics := none }

def pool10 : Array CpInfo := pool [(1, .methodref 2 3), (0, .class_ 4), (0, .nameAndType 5 6), (0, u "java/lang/Record"), (0, u "<init>"), (0, u "()V"), (0, .fieldref 8 9), (0, .class_ 10), (0, .nameAndType 11 12), (0, u "com/example/vouchsafe/vouchsafe/AuditTally"), (0, u "audits"), (0, u "J"), (0, .fieldref 8 14), (0, .nameAndType 15 12), (0, u "passed"), (0, .fieldref 8 17), (0, .nameAndType 18 19), (0, u "lastPassed"), (0, u "Z"), (0, .fieldref 8 21), (0, .nameAndType 22 23), (0, u "newest"), (0, u "Ljava/lang/String;"), (0, .methodref 25 26), (0, .class_ 27), (0, .nameAndType 15 28), (0, u "com/example/vouchsafe/vouchsafe/LogEntry"), (0, u "()Z"), (0, .methodref 25 30), (0, .nameAndType 31 32), (0, u "eid"), (0, u "()Ljava/lang/String;"), (0, .methodref 8 34), (0, .nameAndType 5 35), (0, u "(JJZLjava/lang/String;)V"), (0, .string 37), (0, u "NONE"), (0, .string 39), (0, u "PASS"), (0, .string 41), (0, u "FAIL"), (6, u "last"), (20, u "Lcom/example/vouchsafe/vouchsafe/AuditTally;"), (3, u "with"), (0, u "(Lcom/example/vouchsafe/vouchsafe/LogEntry;)Lcom/example/vouchsafe/vouchsafe/AuditTally;")] 39

def k10c0 : Code := { maxStack := 3, maxLocals := 7, code := prog_12_method_1_code, exceptionTable := #[], attributes := #[] }
def k10m0 : Method := { name := "<init>", desc := "(JJZLjava/lang/String;)V", sig := { parameters := [.long, .long, .boolean, (.object "java/lang/String")], returnType := none }, accessFlags := 0, code := some k10c0 }
def k10c1 : Code := { maxStack := 8, maxLocals := 3, code := prog_12_method_3_code, exceptionTable := #[], attributes := #[] }
def k10m1 : Method := { name := "with", desc := "(Lcom/example/vouchsafe/vouchsafe/LogEntry;)Lcom/example/vouchsafe/vouchsafe/AuditTally;", sig := { parameters := [(.object "com/example/vouchsafe/vouchsafe/LogEntry")], returnType := some (.object "com/example/vouchsafe/vouchsafe/AuditTally") }, accessFlags := 0, code := some k10c1 }
def k10c2 : Code := { maxStack := 4, maxLocals := 1, code := prog_12_method_4_code, exceptionTable := #[], attributes := #[] }
def k10m2 : Method := { name := "last", desc := "()Ljava/lang/String;", sig := { parameters := [], returnType := some (.object "java/lang/String") }, accessFlags := 0, code := some k10c2 }
/-- com/example/vouchsafe/vouchsafe/AuditTally -/
def k10 : Class := { plain "com/example/vouchsafe/vouchsafe/AuditTally" (some 9) with
  accessFlags := 48
  interfaces := #[]
  cf := some (fileOf pool10 8 #[] #[{ accessFlags := 0, nameIndex := 5, descriptorIndex := 35, attributes := #[] }, { accessFlags := 0, nameIndex := 73, descriptorIndex := 74, attributes := #[] }, { accessFlags := 0, nameIndex := 48, descriptorIndex := 32, attributes := #[] }] 48 2 #[] #[{ accessFlags := 18, nameIndex := 11, descriptorIndex := 12, attributes := #[] }, { accessFlags := 18, nameIndex := 15, descriptorIndex := 12, attributes := #[] }, { accessFlags := 18, nameIndex := 18, descriptorIndex := 19, attributes := #[] }, { accessFlags := 18, nameIndex := 22, descriptorIndex := 23, attributes := #[] }, { accessFlags := 24, nameIndex := 37, descriptorIndex := 69, attributes := #[] }])
  fields := #[{ name := "audits", type := .long, accessFlags := 18, slot := 0, constantValue := 0 }, { name := "passed", type := .long, accessFlags := 18, slot := 1, constantValue := 0 }, { name := "lastPassed", type := .boolean, accessFlags := 18, slot := 2, constantValue := 0 }, { name := "newest", type := (.object "java/lang/String"), accessFlags := 18, slot := 3, constantValue := 0 }, { name := "NONE", type := (.object "com/example/vouchsafe/vouchsafe/AuditTally"), accessFlags := 24, slot := 0, constantValue := 0 }]
  methods := #[k10m0, k10m1, k10m2]
  instanceTypes := #[.long, .long, .boolean, (.object "java/lang/String")]
  staticTypes := #[(.object "com/example/vouchsafe/vouchsafe/AuditTally")]
  resolved := Array.replicate 114 none
  statics := none }

def pool11 : Array CpInfo := pool [(1, .methodref 2 3), (0, .class_ 4), (0, .nameAndType 5 6), (0, u "java/lang/Record"), (0, u "<init>"), (0, u "()V"), (0, .fieldref 8 9), (0, .class_ 10), (0, .nameAndType 11 12), (0, u "com/example/vouchsafe/vouchsafe/LogEntry"), (0, u "eid"), (0, u "Ljava/lang/String;"), (0, .fieldref 8 14), (0, .nameAndType 15 12), (0, u "prev"), (0, .fieldref 8 17), (0, .nameAndType 18 12), (0, u "group"), (0, .fieldref 8 20), (0, .nameAndType 21 12), (0, u "result"), (0, .fieldref 8 23), (0, .nameAndType 24 12), (0, u "time"), (0, .fieldref 8 26), (0, .nameAndType 27 28), (0, u "signature"), (0, u "[B"), (0, .string 30), (0, u "pass"), (22, u "(Ljava/lang/String;Ljava/lang/String;Ljava/lang/String;Ljava/lang/String;Ljava/lang/String;[B)V"), (2, u "UTC"), (0, u "Ljava/time/format/DateTimeFormatter;"), (49, .methodref 108 109), (0, .class_ 110), (0, .nameAndType 111 112), (0, u "java/lang/String"), (0, u "equals"), (0, u "(Ljava/lang/Object;)Z"), (37, u "HEADER"), (6, u "passed"), (0, u "()Z"), (3, u "()Ljava/lang/String;")] 41

def k11c0 : Code := { maxStack := 2, maxLocals := 7, code := prog_63_method_1_code, exceptionTable := #[], attributes := #[] }
def k11m0 : Method := { name := "<init>", desc := "(Ljava/lang/String;Ljava/lang/String;Ljava/lang/String;Ljava/lang/String;Ljava/lang/String;[B)V", sig := { parameters := [(.object "java/lang/String"), (.object "java/lang/String"), (.object "java/lang/String"), (.object "java/lang/String"), (.object "java/lang/String"), (.array .byte)], returnType := none }, accessFlags := 0, code := some k11c0 }
def k11c1 : Code := { maxStack := 2, maxLocals := 1, code := prog_63_method_7_code, exceptionTable := #[], attributes := #[] }
def k11m1 : Method := { name := "passed", desc := "()Z", sig := { parameters := [], returnType := some .boolean }, accessFlags := 0, code := some k11c1 }
def k11c2 : Code := { maxStack := 1, maxLocals := 1, code := prog_63_method_12_code, exceptionTable := #[], attributes := #[] }
def k11m2 : Method := { name := "eid", desc := "()Ljava/lang/String;", sig := { parameters := [], returnType := some (.object "java/lang/String") }, accessFlags := 1, code := some k11c2 }
/-- com/example/vouchsafe/vouchsafe/LogEntry -/
def k11 : Class := { plain "com/example/vouchsafe/vouchsafe/LogEntry" (some 9) with
  accessFlags := 48
  interfaces := #[]
  cf := some (fileOf pool11 8 #[] #[{ accessFlags := 0, nameIndex := 5, descriptorIndex := 53, attributes := #[] }, { accessFlags := 0, nameIndex := 157, descriptorIndex := 158, attributes := #[] }, { accessFlags := 1, nameIndex := 11, descriptorIndex := 162, attributes := #[] }] 48 2 #[] #[{ accessFlags := 18, nameIndex := 11, descriptorIndex := 12, attributes := #[] }, { accessFlags := 18, nameIndex := 15, descriptorIndex := 12, attributes := #[] }, { accessFlags := 18, nameIndex := 18, descriptorIndex := 12, attributes := #[] }, { accessFlags := 18, nameIndex := 21, descriptorIndex := 12, attributes := #[] }, { accessFlags := 18, nameIndex := 24, descriptorIndex := 12, attributes := #[] }, { accessFlags := 18, nameIndex := 27, descriptorIndex := 28, attributes := #[] }, { accessFlags := 24, nameIndex := 150, descriptorIndex := 12, attributes := #[] }, { accessFlags := 26, nameIndex := 56, descriptorIndex := 57, attributes := #[] }])
  fields := #[{ name := "eid", type := (.object "java/lang/String"), accessFlags := 18, slot := 0, constantValue := 0 }, { name := "prev", type := (.object "java/lang/String"), accessFlags := 18, slot := 1, constantValue := 0 }, { name := "group", type := (.object "java/lang/String"), accessFlags := 18, slot := 2, constantValue := 0 }, { name := "result", type := (.object "java/lang/String"), accessFlags := 18, slot := 3, constantValue := 0 }, { name := "time", type := (.object "java/lang/String"), accessFlags := 18, slot := 4, constantValue := 0 }, { name := "signature", type := (.array .byte), accessFlags := 18, slot := 5, constantValue := 0 }, { name := "HEADER", type := (.object "java/lang/String"), accessFlags := 24, slot := 0, constantValue := 0 }, { name := "UTC", type := (.object "java/time/format/DateTimeFormatter"), accessFlags := 26, slot := 1, constantValue := 0 }]
  methods := #[k11m0, k11m1, k11m2]
  instanceTypes := #[(.object "java/lang/String"), (.object "java/lang/String"), (.object "java/lang/String"), (.object "java/lang/String"), (.object "java/lang/String"), (.array .byte)]
  staticTypes := #[(.object "java/lang/String"), (.object "java/time/format/DateTimeFormatter")]
  resolved := Array.replicate 204 none
  statics := none }

def pool12 : Array CpInfo := pool [(4, .class_ 6), (1, u "java/lang/Object"), (0, u "<init>"), (0, u "()V"), (5, .class_ 16), (1, u "java/lang/StringLatin1"), (104, u "$assertionsDisabled"), (0, u "Z"), (98, .class_ 223), (1, u "java/lang/StringLatin1$LinesSpliterator"), (57, u "equals"), (0, u "([B[B)Z"), (107, .class_ 391), (0, u "java/lang/StringLatin1$CharsSpliterator")] 3

def k12m0 : Method := { name := "<init>", desc := "()V", sig := { parameters := [], returnType := none }, accessFlags := 0, code := none }
def k12c1 : Code := { maxStack := 3, maxLocals := 3, code := jdk_43_method_13_code, exceptionTable := #[], attributes := #[] }
def k12m1 : Method := { name := "equals", desc := "([B[B)Z", sig := { parameters := [(.array .byte), (.array .byte)], returnType := some .boolean }, accessFlags := 9, code := some k12c1 }
/-- java/lang/StringLatin1 -/
def k12 : Class := { plain "java/lang/StringLatin1" (some 0) with
  accessFlags := 48
  interfaces := #[]
  cf := some (fileOf pool12 14 #[.nestMembers #[390, 221]] #[{ accessFlags := 0, nameIndex := 7, descriptorIndex := 8, attributes := #[] }, { accessFlags := 9, nameIndex := 281, descriptorIndex := 282, attributes := #[] }] 48 4 #[] #[{ accessFlags := 4120, nameIndex := 121, descriptorIndex := 122, attributes := #[] }])
  fields := #[{ name := "$assertionsDisabled", type := .boolean, accessFlags := 4120, slot := 0, constantValue := 0 }]
  methods := #[k12m0, k12m1]
  instanceTypes := #[]
  staticTypes := #[.boolean]
  resolved := Array.replicate 395 none
  statics := none }

def pool13 : Array CpInfo := pool [(2, .class_ 4), (1, u "java/lang/Object"), (0, u "<init>"), (0, u "()V"), (17, .class_ 26), (1, u "jdk/internal/util/Preconditions"), (28, .class_ 56), (0, u "jdk/internal/util/Preconditions$4"), (57, .class_ 115), (0, u "jdk/internal/util/Preconditions$1"), (7, u "SIOOBE_FORMATTER"), (0, u "Ljava/util/function/BiFunction;"), (0, .class_ 126), (0, u "jdk/internal/util/Preconditions$2"), (3, u "AIOOBE_FORMATTER"), (0, .class_ 132), (0, u "jdk/internal/util/Preconditions$3"), (3, u "IOOBE_FORMATTER")] 57

def k13m0 : Method := { name := "<init>", desc := "()V", sig := { parameters := [], returnType := none }, accessFlags := 1, code := none }
/-- jdk/internal/util/Preconditions -/
def k13 : Class := { plain "jdk/internal/util/Preconditions" (some 0) with
  accessFlags := 33
  interfaces := #[]
  cf := some (fileOf pool13 24 #[.nestMembers #[55, 131, 125, 114]] #[{ accessFlags := 1, nameIndex := 5, descriptorIndex := 6, attributes := #[] }] 33 2 #[] #[{ accessFlags := 25, nameIndex := 123, descriptorIndex := 124, attributes := #[] }, { accessFlags := 25, nameIndex := 130, descriptorIndex := 124, attributes := #[] }, { accessFlags := 25, nameIndex := 136, descriptorIndex := 124, attributes := #[] }])
  fields := #[{ name := "SIOOBE_FORMATTER", type := (.object "java/util/function/BiFunction"), accessFlags := 25, slot := 0, constantValue := 0 }, { name := "AIOOBE_FORMATTER", type := (.object "java/util/function/BiFunction"), accessFlags := 25, slot := 1, constantValue := 0 }, { name := "IOOBE_FORMATTER", type := (.object "java/util/function/BiFunction"), accessFlags := 25, slot := 2, constantValue := 0 }]
  methods := #[k13m0]
  instanceTypes := #[]
  staticTypes := #[(.object "java/util/function/BiFunction"), (.object "java/util/function/BiFunction"), (.object "java/util/function/BiFunction")]
  resolved := Array.replicate 194 none
  statics := some 1 }

def pool14 : Array CpInfo := pool [(9, u "<init>"), (6, .class_ 18), (1, u "java/lang/Object"), (0, u "()V"), (1, .class_ 23), (1, u "jdk/internal/util/ArraysSupport"), (0, u "LOG2_ARRAY_LONG_INDEX_SCALE"), (0, u "I"), (2, u "U"), (0, u "Ljdk/internal/misc/Unsafe;"), (8, u "BIG_ENDIAN"), (0, u "Z"), (8, u "LOG2_BYTE_BIT_SIZE"), (4, u "LOG2_ARRAY_INT_INDEX_SCALE"), (54, u "JLA"), (0, u "Ljdk/internal/access/JavaLangAccess;"), (11, u "LOG2_ARRAY_BOOLEAN_INDEX_SCALE"), (9, u "LOG2_ARRAY_BYTE_INDEX_SCALE"), (5, u "LOG2_ARRAY_CHAR_INDEX_SCALE"), (5, u "LOG2_ARRAY_SHORT_INDEX_SCALE"), (18, u "LOG2_ARRAY_FLOAT_INDEX_SCALE"), (24, u "LOG2_ARRAY_DOUBLE_INDEX_SCALE"), (89, u "T_BOOLEAN"), (2, u "T_CHAR"), (1, u "T_FLOAT"), (1, u "T_DOUBLE"), (1, u "T_BYTE"), (1, u "T_SHORT"), (1, u "T_INT"), (1, u "T_LONG"), (1, u "SOFT_MAX_ARRAY_LENGTH")] 83

def k14m0 : Method := { name := "<init>", desc := "()V", sig := { parameters := [], returnType := none }, accessFlags := 2, code := none }
/-- jdk/internal/util/ArraysSupport -/
def k14 : Class := { plain "jdk/internal/util/ArraysSupport" (some 0) with
  accessFlags := 33
  interfaces := #[]
  cf := some (fileOf pool14 21 #[] #[{ accessFlags := 2, nameIndex := 9, descriptorIndex := 19, attributes := #[] }] 33 16 #[] #[{ accessFlags := 24, nameIndex := 28, descriptorIndex := 29, attributes := #[] }, { accessFlags := 26, nameIndex := 38, descriptorIndex := 39, attributes := #[] }, { accessFlags := 25, nameIndex := 121, descriptorIndex := 25, attributes := #[] }, { accessFlags := 25, nameIndex := 131, descriptorIndex := 25, attributes := #[] }, { accessFlags := 25, nameIndex := 137, descriptorIndex := 25, attributes := #[] }, { accessFlags := 25, nameIndex := 143, descriptorIndex := 25, attributes := #[] }, { accessFlags := 25, nameIndex := 53, descriptorIndex := 25, attributes := #[] }, { accessFlags := 25, nameIndex := 24, descriptorIndex := 25, attributes := #[] }, { accessFlags := 25, nameIndex := 162, descriptorIndex := 25, attributes := #[] }, { accessFlags := 25, nameIndex := 187, descriptorIndex := 25, attributes := #[] }, { accessFlags := 26, nameIndex := 48, descriptorIndex := 25, attributes := #[] }, { accessFlags := 25, nameIndex := 277, descriptorIndex := 25, attributes := #[] }, { accessFlags := 25, nameIndex := 280, descriptorIndex := 25, attributes := #[] }, { accessFlags := 25, nameIndex := 282, descriptorIndex := 25, attributes := #[] }, { accessFlags := 25, nameIndex := 284, descriptorIndex := 25, attributes := #[] }, { accessFlags := 25, nameIndex := 286, descriptorIndex := 25, attributes := #[] }, { accessFlags := 25, nameIndex := 288, descriptorIndex := 25, attributes := #[] }, { accessFlags := 25, nameIndex := 290, descriptorIndex := 25, attributes := #[] }, { accessFlags := 25, nameIndex := 292, descriptorIndex := 25, attributes := #[] }, { accessFlags := 26, nameIndex := 108, descriptorIndex := 109, attributes := #[] }, { accessFlags := 25, nameIndex := 294, descriptorIndex := 25, attributes := #[] }])
  fields := #[{ name := "U", type := (.object "jdk/internal/misc/Unsafe"), accessFlags := 24, slot := 0, constantValue := 0 }, { name := "BIG_ENDIAN", type := .boolean, accessFlags := 26, slot := 1, constantValue := 0 }, { name := "LOG2_ARRAY_BOOLEAN_INDEX_SCALE", type := .int, accessFlags := 25, slot := 2, constantValue := 0 }, { name := "LOG2_ARRAY_BYTE_INDEX_SCALE", type := .int, accessFlags := 25, slot := 3, constantValue := 0 }, { name := "LOG2_ARRAY_CHAR_INDEX_SCALE", type := .int, accessFlags := 25, slot := 4, constantValue := 0 }, { name := "LOG2_ARRAY_SHORT_INDEX_SCALE", type := .int, accessFlags := 25, slot := 5, constantValue := 0 }, { name := "LOG2_ARRAY_INT_INDEX_SCALE", type := .int, accessFlags := 25, slot := 6, constantValue := 0 }, { name := "LOG2_ARRAY_LONG_INDEX_SCALE", type := .int, accessFlags := 25, slot := 7, constantValue := 0 }, { name := "LOG2_ARRAY_FLOAT_INDEX_SCALE", type := .int, accessFlags := 25, slot := 8, constantValue := 0 }, { name := "LOG2_ARRAY_DOUBLE_INDEX_SCALE", type := .int, accessFlags := 25, slot := 9, constantValue := 0 }, { name := "LOG2_BYTE_BIT_SIZE", type := .int, accessFlags := 26, slot := 10, constantValue := 0 }, { name := "T_BOOLEAN", type := .int, accessFlags := 25, slot := 11, constantValue := 0 }, { name := "T_CHAR", type := .int, accessFlags := 25, slot := 12, constantValue := 0 }, { name := "T_FLOAT", type := .int, accessFlags := 25, slot := 13, constantValue := 0 }, { name := "T_DOUBLE", type := .int, accessFlags := 25, slot := 14, constantValue := 0 }, { name := "T_BYTE", type := .int, accessFlags := 25, slot := 15, constantValue := 0 }, { name := "T_SHORT", type := .int, accessFlags := 25, slot := 16, constantValue := 0 }, { name := "T_INT", type := .int, accessFlags := 25, slot := 17, constantValue := 0 }, { name := "T_LONG", type := .int, accessFlags := 25, slot := 18, constantValue := 0 }, { name := "JLA", type := (.object "jdk/internal/access/JavaLangAccess"), accessFlags := 26, slot := 19, constantValue := 0 }, { name := "SOFT_MAX_ARRAY_LENGTH", type := .int, accessFlags := 25, slot := 20, constantValue := 0 }]
  methods := #[k14m0]
  instanceTypes := #[]
  staticTypes := #[(.object "jdk/internal/misc/Unsafe"), .boolean, .int, .int, .int, .int, .int, .int, .int, .int, .int, .int, .int, .int, .int, .int, .int, .int, .int, (.object "jdk/internal/access/JavaLangAccess"), .int]
  resolved := Array.replicate 378 none
  statics := none }

def pool15 : Array CpInfo := pool [(1, u "java/lang/Cloneable"), (0, .class_ 1), (0, u "java/lang/Object"), (0, .class_ 3)] 3

/-- java/lang/Cloneable -/
def k15 : Class := { plain "java/lang/Cloneable" (some 0) with
  accessFlags := 1537
  interfaces := #[]
  cf := some (fileOf pool15 2 #[] #[] 1537 4 #[] #[])
  fields := #[]
  methods := #[]
  instanceTypes := #[]
  staticTypes := #[]
  resolved := Array.replicate 8 none
  statics := none }

/-- the primitive byte -/
def k16 : Class := { plain "byte" none with kind := .primitive 'B', accessFlags := 0x411 }
/-- [B -/
def k17 : Class := { plain "[B" (some 0) with kind := .array 16 .byte, interfaces := #[15, 2], accessFlags := 1041 }

/-- the primitive char -/
def k18 : Class := { plain "char" none with kind := .primitive 'C', accessFlags := 0x411 }
/-- [C -/
def k19 : Class := { plain "[C" (some 0) with kind := .array 18 .char, interfaces := #[15, 2], accessFlags := 1041 }

/-- the primitive int -/
def k20 : Class := { plain "int" none with kind := .primitive 'I', accessFlags := 0x411 }
/-- [I -/
def k21 : Class := { plain "[I" (some 0) with kind := .array 20 .int, interfaces := #[15, 2], accessFlags := 1041 }

def heap : Heap := #[{ cls := 7, slots := #[.long 0, .int 1, .null, .int 0, .null, .int 0, .int 0], vm := .statics 7 },
  { cls := 13, slots := #[.null, .null, .null], vm := .statics 13 }]
def classes : Array Class := #[k0, k1, k2, k3, k4, k5, k6, k7, k8, k9, k10, k11, k12, k13, k14, k15, k16, k17, k18, k19, k20, k21]
def interned : List (Array UInt16 × Addr) := []
def slotsUsed : Nat := 10
def theMethod : MethodId := ⟨1, 1⟩
def args0 : Array Value := #[.long 5, .long 3, .int 1, .int 100]
def aboutOver (below : List Frame) : State where
  vm := { classes := classes, interned := interned.toArray }
  heap := heap
  slotsUsed := slotsUsed
  threads := #[{ frames := .invoking theMethod args0 :: below }]
def below0 : List Frame := [.native { method := ⟨0, 0⟩, args := #[] }]
def about1 : State := aboutOver below0
def p0 : Program := .bare "" "" ""
def e0 : Env := launch0.env 0 0 0
theorem w_frames : about1.frames = Frame.invoking theMethod args0 :: below0 := rfl
set_option maxRecDepth 65536 in
theorem w_args : argsFit about1.vm theMethod args0 = true := by decide +kernel
set_option maxRecDepth 65536 in
theorem w_heap : heapFits about1 = true := by decide +kernel
set_option maxRecDepth 65536 in
theorem w_runnable : about1.curStatus? = some .runnable := by decide +kernel
set_option maxRecDepth 65536 in
theorem w_alone : about1.alone = true := by decide +kernel
set_option maxRecDepth 65536 in
theorem w_named : about1.methodNamed? x = some theMethod := by decide +kernel
set_option maxRecDepth 65536 in
theorem w_hears : about1.hears theMethod below0 = true := by decide +kernel
set_option maxRecDepth 65536 in
theorem w_ripe : about1.ripe theMethod args0 below0 = true := by decide +kernel
theorem w_running : about1.status = .running := rfl
set_option maxRecDepth 65536 in
theorem w_room : about1.hasRoom e0.platform room_1 = true :=
  launch0.hasRoom_least _ room_1 (by decide +kernel) (by decide +kernel) (by decide +kernel) (by decide +kernel) (by decide +kernel) (by decide +kernel)
theorem allAtoms_all (ts : List Jvm.Cond) (a : Array Jvm.Value) (st : Jvm.State) : (allAtoms ts).before a st = ts.all (fun c => c.before a st) := by
  induction ts with
  | nil => rfl
  | cons c t ih =>
    show (Jvm.Cond.and c (allAtoms t)).before a st = _
    rw [Jvm.Cond.before_and, ih, List.all_cons]
def words1 : List Jvm.Cond := Jvm.Cond.code x code maxLocals ret :: tables_1
/-- a 'code' word, met by the world's own term for the bytes: nothing is compared byte by byte -/
theorem code_word {y : MethodName} {bytes : ByteArray} {mx : Nat} {rt : Option FieldType} {a : Array Value} {s : State} {m : MethodId} {meth : Method} {c : Code} (h1 : s.methodNamed? y = some m) (h2 : s.vm.method? m = some meth) (h3 : meth.code = some c) (h4 : c.code = bytes)
    (h5 : (c.maxLocals == mx && c.exceptionTable.isEmpty && decide (c.maxStack ≤ mostOperands) && decide (meth.sig.returnType = rt) && !meth.locks && decide (parseMethodDescriptor y.desc = some meth.sig)) = true) : (Jvm.Cond.code y bytes mx rt).before a s = true := by
  simp only [Bool.and_eq_true, beq_iff_eq, Bool.not_eq_true', decide_eq_true_eq] at h5
  obtain ⟨⟨⟨⟨⟨g1, g2⟩, g3⟩, g4⟩, g5⟩, g6⟩ := h5
  simp [Cond.before, Cond.holds, Cond.value, h1, h2, h3, h4, g1, g2, g3, g4, g5, g6]
def isCode : Jvm.Cond → Bool
  | .code _ _ _ _ => true
  | _ => false
theorem all_split {L : List Jvm.Cond} {P : Jvm.Cond → Bool} (h1 : L.all (fun c => isCode c || P c) = true) (h2 : ∀ c ∈ L.filter isCode, P c = true) : L.all P = true := by
  refine List.all_eq_true.mpr fun c hc => ?_
  have h := List.all_eq_true.mp h1 c hc
  rcases Bool.eq_false_or_eq_true (isCode c) with hi | hi
  · exact h2 c (List.mem_filter.mpr ⟨hc, hi⟩)
  · simpa [hi] using h
set_option maxRecDepth 65536 in
theorem w_c0 : (Jvm.Cond.code x code maxLocals ret).before args0 about1 = true := code_word (m := ⟨1, 1⟩) (meth := k1m1) (c := k1c1) (by decide +kernel) rfl rfl rfl (by decide +kernel)
set_option maxRecDepth 65536 in
theorem w_c1 : (Jvm.Cond.code ({ cls := "java/lang/String", name := "<init>", desc := "([C)V" } : Jvm.MethodName) jdk_42_method_3_code (2 : Nat) (Option.none : Option Jvm.ClassFile.FieldType)).before args0 about1 = true := code_word (m := ⟨7, 1⟩) (meth := k7m1) (c := k7c1) (by decide +kernel) rfl rfl rfl (by decide +kernel)
set_option maxRecDepth 65536 in
theorem w_c2 : (Jvm.Cond.code ({ cls := "java/lang/String", name := "<init>", desc := "([CIILjava/lang/Void;)V" } : Jvm.MethodName) jdk_42_method_149_code (6 : Nat) (Option.none : Option Jvm.ClassFile.FieldType)).before args0 about1 = true := code_word (m := ⟨7, 3⟩) (meth := k7m3) (c := k7c3) (by decide +kernel) rfl rfl rfl (by decide +kernel)
set_option maxRecDepth 65536 in
theorem w_c3 : (Jvm.Cond.code ({ cls := "java/lang/Object", name := "<init>", desc := "()V" } : Jvm.MethodName) object_method_1_code (1 : Nat) (Option.none : Option Jvm.ClassFile.FieldType)).before args0 about1 = true := code_word (m := ⟨0, 0⟩) (meth := k0m0) (c := k0c0) (by decide +kernel) rfl rfl rfl (by decide +kernel)
set_option maxRecDepth 65536 in
theorem w_c4 : (Jvm.Cond.code ({ cls := "java/lang/StringUTF16", name := "compress", desc := "([CII)[B" } : Jvm.MethodName) jdk_52_method_16_code (6 : Nat) (Option.some (Jvm.ClassFile.FieldType.array Jvm.ClassFile.FieldType.byte))).before args0 about1 = true := code_word (m := ⟨8, 2⟩) (meth := k8m2) (c := k8c2) (by decide +kernel) rfl rfl rfl (by decide +kernel)
set_option maxRecDepth 65536 in
theorem w_c5 : (Jvm.Cond.code ({ cls := "java/lang/StringUTF16", name := "compress", desc := "([CI[BII)I" } : Jvm.MethodName) jdk_52_method_21_code (7 : Nat) (Option.some Jvm.ClassFile.FieldType.int)).before args0 about1 = true := code_word (m := ⟨8, 3⟩) (meth := k8m3) (c := k8c3) (by decide +kernel) rfl rfl rfl (by decide +kernel)
set_option maxRecDepth 65536 in
theorem w_c6 : (Jvm.Cond.code ({ cls := "java/lang/StringUTF16", name := "coderFromArrayLen", desc := "([BI)B" } : Jvm.MethodName) jdk_52_method_15_code (2 : Nat) (Option.some Jvm.ClassFile.FieldType.byte)).before args0 about1 = true := code_word (m := ⟨8, 1⟩) (meth := k8m1) (c := k8c1) (by decide +kernel) rfl rfl rfl (by decide +kernel)
set_option maxRecDepth 65536 in
theorem w_c7 : (Jvm.Cond.code ({ cls := "com/example/vouchsafe/vouchsafe/AuditTally", name := "<init>", desc := "(JJZLjava/lang/String;)V" } : Jvm.MethodName) prog_12_method_1_code (7 : Nat) (Option.none : Option Jvm.ClassFile.FieldType)).before args0 about1 = true := code_word (m := ⟨10, 0⟩) (meth := k10m0) (c := k10c0) (by decide +kernel) rfl rfl rfl (by decide +kernel)
set_option maxRecDepth 65536 in
theorem w_c8 : (Jvm.Cond.code ({ cls := "java/lang/Record", name := "<init>", desc := "()V" } : Jvm.MethodName) jdk_30_method_1_code (1 : Nat) (Option.none : Option Jvm.ClassFile.FieldType)).before args0 about1 = true := code_word (m := ⟨9, 0⟩) (meth := k9m0) (c := k9c0) (by decide +kernel) rfl rfl rfl (by decide +kernel)
set_option maxRecDepth 65536 in
theorem w_c9 : (Jvm.Cond.code ({ cls := "com/example/vouchsafe/vouchsafe/AuditTally", name := "last", desc := "()Ljava/lang/String;" } : Jvm.MethodName) prog_12_method_4_code (1 : Nat) (Option.some (Jvm.ClassFile.FieldType.object "java/lang/String"))).before args0 about1 = true := code_word (m := ⟨10, 2⟩) (meth := k10m2) (c := k10c2) (by decide +kernel) rfl rfl rfl (by decide +kernel)
set_option maxRecDepth 65536 in
theorem w_c10 : (Jvm.Cond.code ({ cls := "java/lang/String", name := "equals", desc := "(Ljava/lang/Object;)Z" } : Jvm.MethodName) jdk_42_method_66_code (3 : Nat) (Option.some Jvm.ClassFile.FieldType.boolean)).before args0 about1 = true := code_word (m := ⟨7, 2⟩) (meth := k7m2) (c := k7c2) (by decide +kernel) rfl rfl rfl (by decide +kernel)
set_option maxRecDepth 65536 in
theorem w_c11 : (Jvm.Cond.code ({ cls := "com/example/vouchsafe/vouchsafe/LogEntry", name := "<init>", desc := "(Ljava/lang/String;Ljava/lang/String;Ljava/lang/String;Ljava/lang/String;Ljava/lang/String;[B)V" } : Jvm.MethodName) prog_63_method_1_code (7 : Nat) (Option.none : Option Jvm.ClassFile.FieldType)).before args0 about1 = true := code_word (m := ⟨11, 0⟩) (meth := k11m0) (c := k11c0) (by decide +kernel) rfl rfl rfl (by decide +kernel)
set_option maxRecDepth 65536 in
theorem w_c12 : (Jvm.Cond.code ({ cls := "com/example/vouchsafe/vouchsafe/AuditTally", name := "with", desc := "(Lcom/example/vouchsafe/vouchsafe/LogEntry;)Lcom/example/vouchsafe/vouchsafe/AuditTally;" } : Jvm.MethodName) prog_12_method_3_code (3 : Nat) (Option.some (Jvm.ClassFile.FieldType.object "com/example/vouchsafe/vouchsafe/AuditTally"))).before args0 about1 = true := code_word (m := ⟨10, 1⟩) (meth := k10m1) (c := k10c1) (by decide +kernel) rfl rfl rfl (by decide +kernel)
set_option maxRecDepth 65536 in
theorem w_c13 : (Jvm.Cond.code ({ cls := "com/example/vouchsafe/vouchsafe/LogEntry", name := "passed", desc := "()Z" } : Jvm.MethodName) prog_63_method_7_code (1 : Nat) (Option.some Jvm.ClassFile.FieldType.boolean)).before args0 about1 = true := code_word (m := ⟨11, 1⟩) (meth := k11m1) (c := k11c1) (by decide +kernel) rfl rfl rfl (by decide +kernel)
set_option maxRecDepth 65536 in
theorem w_c14 : (Jvm.Cond.code ({ cls := "java/lang/StringLatin1", name := "equals", desc := "([B[B)Z" } : Jvm.MethodName) jdk_43_method_13_code (3 : Nat) (Option.some Jvm.ClassFile.FieldType.boolean)).before args0 about1 = true := code_word (m := ⟨12, 1⟩) (meth := k12m1) (c := k12c1) (by decide +kernel) rfl rfl rfl (by decide +kernel)
set_option maxRecDepth 65536 in
theorem w_c15 : (Jvm.Cond.code ({ cls := "com/example/vouchsafe/vouchsafe/LogEntry", name := "eid", desc := "()Ljava/lang/String;" } : Jvm.MethodName) prog_63_method_12_code (1 : Nat) (Option.some (Jvm.ClassFile.FieldType.object "java/lang/String"))).before args0 about1 = true := code_word (m := ⟨11, 2⟩) (meth := k11m2) (c := k11c2) (by decide +kernel) rfl rfl rfl (by decide +kernel)
def codes1 : List Jvm.Cond := [Jvm.Cond.code x code maxLocals ret, Jvm.Cond.code ({ cls := "java/lang/String", name := "<init>", desc := "([C)V" } : Jvm.MethodName) jdk_42_method_3_code (2 : Nat) (Option.none : Option Jvm.ClassFile.FieldType), Jvm.Cond.code ({ cls := "java/lang/String", name := "<init>", desc := "([CIILjava/lang/Void;)V" } : Jvm.MethodName) jdk_42_method_149_code (6 : Nat) (Option.none : Option Jvm.ClassFile.FieldType), Jvm.Cond.code ({ cls := "java/lang/Object", name := "<init>", desc := "()V" } : Jvm.MethodName) object_method_1_code (1 : Nat) (Option.none : Option Jvm.ClassFile.FieldType), Jvm.Cond.code ({ cls := "java/lang/StringUTF16", name := "compress", desc := "([CII)[B" } : Jvm.MethodName) jdk_52_method_16_code (6 : Nat) (Option.some (Jvm.ClassFile.FieldType.array Jvm.ClassFile.FieldType.byte)), Jvm.Cond.code ({ cls := "java/lang/StringUTF16", name := "compress", desc := "([CI[BII)I" } : Jvm.MethodName) jdk_52_method_21_code (7 : Nat) (Option.some Jvm.ClassFile.FieldType.int), Jvm.Cond.code ({ cls := "java/lang/StringUTF16", name := "coderFromArrayLen", desc := "([BI)B" } : Jvm.MethodName) jdk_52_method_15_code (2 : Nat) (Option.some Jvm.ClassFile.FieldType.byte), Jvm.Cond.code ({ cls := "com/example/vouchsafe/vouchsafe/AuditTally", name := "<init>", desc := "(JJZLjava/lang/String;)V" } : Jvm.MethodName) prog_12_method_1_code (7 : Nat) (Option.none : Option Jvm.ClassFile.FieldType), Jvm.Cond.code ({ cls := "java/lang/Record", name := "<init>", desc := "()V" } : Jvm.MethodName) jdk_30_method_1_code (1 : Nat) (Option.none : Option Jvm.ClassFile.FieldType), Jvm.Cond.code ({ cls := "com/example/vouchsafe/vouchsafe/AuditTally", name := "last", desc := "()Ljava/lang/String;" } : Jvm.MethodName) prog_12_method_4_code (1 : Nat) (Option.some (Jvm.ClassFile.FieldType.object "java/lang/String")), Jvm.Cond.code ({ cls := "java/lang/String", name := "equals", desc := "(Ljava/lang/Object;)Z" } : Jvm.MethodName) jdk_42_method_66_code (3 : Nat) (Option.some Jvm.ClassFile.FieldType.boolean), Jvm.Cond.code ({ cls := "com/example/vouchsafe/vouchsafe/LogEntry", name := "<init>", desc := "(Ljava/lang/String;Ljava/lang/String;Ljava/lang/String;Ljava/lang/String;Ljava/lang/String;[B)V" } : Jvm.MethodName) prog_63_method_1_code (7 : Nat) (Option.none : Option Jvm.ClassFile.FieldType), Jvm.Cond.code ({ cls := "com/example/vouchsafe/vouchsafe/AuditTally", name := "with", desc := "(Lcom/example/vouchsafe/vouchsafe/LogEntry;)Lcom/example/vouchsafe/vouchsafe/AuditTally;" } : Jvm.MethodName) prog_12_method_3_code (3 : Nat) (Option.some (Jvm.ClassFile.FieldType.object "com/example/vouchsafe/vouchsafe/AuditTally")), Jvm.Cond.code ({ cls := "com/example/vouchsafe/vouchsafe/LogEntry", name := "passed", desc := "()Z" } : Jvm.MethodName) prog_63_method_7_code (1 : Nat) (Option.some Jvm.ClassFile.FieldType.boolean), Jvm.Cond.code ({ cls := "java/lang/StringLatin1", name := "equals", desc := "([B[B)Z" } : Jvm.MethodName) jdk_43_method_13_code (3 : Nat) (Option.some Jvm.ClassFile.FieldType.boolean), Jvm.Cond.code ({ cls := "com/example/vouchsafe/vouchsafe/LogEntry", name := "eid", desc := "()Ljava/lang/String;" } : Jvm.MethodName) prog_63_method_12_code (1 : Nat) (Option.some (Jvm.ClassFile.FieldType.object "java/lang/String"))]
set_option maxRecDepth 65536 in
theorem codes_eq : words1.filter isCode = codes1 := rfl
theorem w_codes : ∀ c ∈ words1.filter isCode, c.before args0 about1 = true := by
  rw [codes_eq]
  intro c hc
  simp only [codes1, List.mem_cons, List.not_mem_nil, or_false] at hc
  rcases hc with rfl | rfl | rfl | rfl | rfl | rfl | rfl | rfl | rfl | rfl | rfl | rfl | rfl | rfl | rfl | rfl
  · exact w_c0
  · exact w_c1
  · exact w_c2
  · exact w_c3
  · exact w_c4
  · exact w_c5
  · exact w_c6
  · exact w_c7
  · exact w_c8
  · exact w_c9
  · exact w_c10
  · exact w_c11
  · exact w_c12
  · exact w_c13
  · exact w_c14
  · exact w_c15
set_option maxRecDepth 65536 in
theorem w_t1 : (words1.take 24).all (fun c => isCode c || c.before args0 about1) = true := by decide +kernel
set_option maxRecDepth 65536 in
theorem w_t2 : ((words1.drop 24).take 24).all (fun c => isCode c || c.before args0 about1) = true := by decide +kernel
set_option maxRecDepth 65536 in
theorem w_t3 : (((words1.drop 24).drop 24).take 24).all (fun c => isCode c || c.before args0 about1) = true := by decide +kernel
set_option maxRecDepth 65536 in
theorem w_t4 : ((((words1.drop 24).drop 24).drop 24).take 24).all (fun c => isCode c || c.before args0 about1) = true := by decide +kernel
set_option maxRecDepth 65536 in
theorem w_t5 : ((((words1.drop 24).drop 24).drop 24).drop 24).all (fun c => isCode c || c.before args0 about1) = true := by decide +kernel
theorem w_tables : (allAtoms (Jvm.Cond.code x code maxLocals ret :: tables_1)).before args0 about1 = true := by
  rw [allAtoms_all]
  show words1.all (fun c => c.before args0 about1) = true
  refine all_split ?_ w_codes
  rw [← List.take_append_drop 24 words1, List.all_append, w_t1, ← List.take_append_drop 24 (words1.drop 24), List.all_append, w_t2, ← List.take_append_drop 24 ((words1.drop 24).drop 24), List.all_append, w_t3, ← List.take_append_drop 24 (((words1.drop 24).drop 24).drop 24), List.all_append, w_t4, w_t5]
  rfl
set_option maxRecDepth 65536 in
theorem w_rest : rest_1_c.before args0 about1 = true := by decide +kernel
set_option maxRecDepth 65536 in
theorem w_case : (Jvm.Cond.and given_1 narrow_1).before args0 about1 = true := by decide +kernel
set_option maxRecDepth 65536 in
theorem w_consts : constsHeld consts_1 about1 := Jvm.Lit.constsHeldB_iff.mp (by decide +kernel)
theorem w_applies : (headSpec (Jvm.Cond.code x code maxLocals ret :: tables_1) room_1).applies x e0.platform about1 = true :=
  (Spec.applies_iff w_frames).mpr ⟨w_running, w_runnable, w_alone, w_named, w_hears, w_ripe, w_room, w_tables⟩
theorem atStart : AtStart classFile x code maxLocals ret World_1 tables_1 room_1 Calls_1 rest_1 Pre_1 launch0 p0 e0 about1 theMethod args0 below0 :=
  ⟨lists_1, trivial, launch0.admits_env _ _ _, launch0.least_env, fairChoices_fair.cas, fairChoices_fair.clock, w_frames, w_args, w_heap, w_applies, ⟨w_consts, trivial⟩, w_rest, w_case⟩
end start1
theorem witness_1 : WitnessClaimed_1 := ⟨start1.p0, start1.e0, start1.about1, start1.theMethod, start1.args0, start1.below0, start1.atStart⟩
end Jvm.Pilot.@@N@@
